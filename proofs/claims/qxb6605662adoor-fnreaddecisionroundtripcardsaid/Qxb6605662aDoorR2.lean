import Derived.Test.Qxb6605662aDoorR1
namespace Go.Proofs.Qxb6605662aDoor
open Go.RowKit

/-- The reader as far as it counts: where it stands, or that it is off; and whether an object or array has just opened. -/
def RS (w : World) (R : Nat) (p : Option Addr) (n c : Nat) (A : Option Nat) (op : Bool) : Prop :=
  ∃ k : Nat, k ≤ n ∧ Rd w R (.slice p n c) k A.isNone op ∧ ∀ j, A = some j → j = k
theorem RS.mk_some {w : World} {R : Nat} {p : Option Addr} {n c k : Nat} {op : Bool} (hk : k ≤ n) (h : Rd w R (.slice p n c) k false op) : RS w R p n c (some k) op := ⟨k, hk, h, fun _ e => (Option.some.inj e).symm⟩
theorem RS.mk_none {w : World} {R : Nat} {p : Option Addr} {n c k : Nat} {op : Bool} (hk : k ≤ n) (h : Rd w R (.slice p n c) k true op) : RS w R p n c none op := ⟨k, hk, h, fun _ e => by cases e⟩
theorem RS.le {w : World} {R : Nat} {p : Option Addr} {n c k : Nat} {op : Bool} (h : RS w R p n c (some k) op) : k ≤ n := by
  obtain ⟨k', h1, _, h3⟩ := h
  rw [h3 k rfl]; exact h1
theorem RS.rd {w : World} {R : Nat} {p : Option Addr} {n c k : Nat} {op : Bool} (h : RS w R p n c (some k) op) : Rd w R (.slice p n c) k false op := by
  obtain ⟨k', h1, h2, h3⟩ := h
  rw [h3 k rfl]; exact h2
theorem RS.grown {w w' : World} {R : Nat} {p : Option Addr} {n c : Nat} {A : Option Nat} {op : Bool} (h : RS w R p n c A op) {row : Option Nat} (hg : w.grownBy w' row) (hr : some R ≠ row) : RS w' R p n c A op := by
  obtain ⟨k', h1, h2, h3⟩ := h
  exact ⟨k', h1, h2.grown hg hr, h3⟩

/-! ### what the methods do to it -/
def spA (xs : List Int) : Option Nat → Option Nat
  | none => none
  | some k => some (sk xs k)
/-- c comes next -/
def isA (xs : List Int) (ch : Int) : Option Nat → Bool
  | none => false
  | some k => decide (sk xs k < xs.length) && xs.getD (sk xs k) 0 == ch
def nxA (xs : List Int) (ch : Int) (A : Option Nat) : Option Nat := if isA xs ch A then (spA xs A).map (· + 1) else spA xs A
def exA (xs : List Int) (ch : Int) (A : Option Nat) : Option Nat := if isA xs ch A then (spA xs A).map (· + 1) else none

section
variable (R n c : Nat) (p : Option Addr) (xs : List Int) (A : Option Nat) (op : Bool) (w : World)

theorem spaceA (hn : n ≤ 2147483648) (hx : xs.length = n) (hS : RS w R p n c A op) (hD : Dat w p n xs R) :
    Calls Tryd.prog 35 #[.pointer (some ⟨R, 0, none⟩)] w fun e w' => e = .returned (.tuple #[]) ∧ RS w' R p n c (spA xs A) op ∧ w.grownBy w' (some R) := by
  obtain ⟨k, hk, h1, h2⟩ := hS
  refine (space_any R n c k p A.isNone op xs w hn hx hk h1 hD).mono fun e w' ⟨he, hr, hg⟩ => ⟨he, ?_, hg⟩
  have hle := (sk_le xs k (by omega)).2
  cases A with
  | none => exact RS.mk_none (by omega) hr
  | some j => obtain rfl := h2 j rfl; exact RS.mk_some (by omega) hr

theorem nextA (ch : Int) (hn : n ≤ 2147483648) (hx : xs.length = n) (hS : RS w R p n c A op) (hD : Dat w p n xs R) :
    Calls Tryd.prog 46 #[.pointer (some ⟨R, 0, none⟩), .int .u8 ch] w fun e w' => e = .returned (.bool (isA xs ch A)) ∧ RS w' R p n c (nxA xs ch A) op ∧ w.grownBy w' (some R) := by
  obtain ⟨k, hk, h1, h2⟩ := hS
  refine (next_any R n c k p A.isNone op xs ch w hn hx hk h1 hD).mono fun e w' ⟨he, hr, hg⟩ => ?_
  have hle := (sk_le xs k (by omega)).2
  cases A with
  | none =>
    have e1 : nxB xs k true ch = false := by simp [nxB]
    simp only [Option.isNone_none] at he hr
    rw [nxK, e1] at hr
    rw [e1] at he
    exact ⟨he, RS.mk_none (k := sk xs k) (by omega) hr, hg⟩
  | some j =>
    obtain rfl := h2 j rfl
    simp only [Option.isNone_some] at he hr
    have e1 : nxB xs j false ch = isA xs ch (some j) := by simp [nxB, isA]
    rw [nxK, e1] at hr
    rw [e1] at he
    refine ⟨he, ?_, hg⟩
    unfold nxA
    cases hb : isA xs ch (some j) with
    | false => rw [hb] at hr; exact RS.mk_some (by omega) hr
    | true =>
      rw [hb] at hr
      have hlt : sk xs j < xs.length := by
        unfold isA at hb
        simp at hb; exact hb.1
      exact RS.mk_some (k := sk xs j + 1) (by omega) hr

set_option maxHeartbeats 1000000 in
theorem expectA (ch : Int) (hn : n ≤ 2147483648) (hx : xs.length = n) (hS : RS w R p n c A op) (hD : Dat w p n xs R) :
    Calls Tryd.prog 33 #[.pointer (some ⟨R, 0, none⟩), .int .u8 ch] w fun e w' => e = .returned (.tuple #[]) ∧ RS w' R p n c (exA xs ch A) op ∧ w.grownBy w' (some R) := by
  have hcon := nextA R n c p xs A op w ch hn hx hS hD
  have HE : Hid (exA xs ch A = if isA xs ch A then nxA xs ch A else none) := by
    show _ = _
    unfold exA nxA
    cases isA xs ch A <;> rfl
  generalize exA xs ch A = E at HE ⊢
  generalize nxA xs ch A = N at HE hcon
  have HCON : Hid (Calls Tryd.prog 46 #[.pointer (some ⟨R, 0, none⟩), .int .u8 ch] w fun e w' => e = .returned (.bool (isA xs ch A)) ∧ RS w' R p n c N op ∧ w.grownBy w' (some R)) := hcon
  clear hS hD hcon
  cases hb : isA xs ch A with
  | true =>
    rw [hb] at HCON HE
    clear hb
    go_enter Tryd.func33, Tryd.ntmps33
    go_wp2_with fail
    refine HCON.out.mono ?_
    rintro e w1 ⟨rfl, hS1, hG1⟩
    go_wp2_with fail
    go_returns
    rw [HE.out]
    exact ⟨rfl, hS1, hG1⟩
  | false =>
    rw [hb] at HCON HE
    clear hb
    go_enter Tryd.func33, Tryd.ntmps33
    go_wp2_with fail
    refine HCON.out.mono ?_
    rintro e w1 ⟨rfl, ⟨k, hk, hR, _⟩, hG1⟩
    have HR : Hid (Rd w1 R (.slice p n c) k N.isNone op) := hR
    have HG : Hid (w.grownBy w1 (some R)) := hG1
    have c2 := hR.c2
    have f2 := hR.fz 2
    clear hR hG1
    go_wp2_with fail
    go_returns
    rw [HE.out]
    exact ⟨rfl, RS.mk_none hk (HR.out.set2 true), HG.out.trans (upd_set _ R 2 _)⟩

set_option maxHeartbeats 1000000 in
theorem objectA (hn : n ≤ 2147483648) (hx : xs.length = n) (hS : RS w R p n c A op) (hD : Dat w p n xs R) :
    Calls Tryd.prog 21 #[.pointer (some ⟨R, 0, none⟩)] w fun e w' => e = .returned (.bool (exA xs 123 A).isSome) ∧ RS w' R p n c (exA xs 123 A) true ∧ w.grownBy w' (some R) := by
  have hcon := expectA R n c p xs A op w 123 hn hx hS hD
  have HCON : Hid (Calls Tryd.prog 33 #[.pointer (some ⟨R, 0, none⟩), .int .u8 123] w fun e w' => e = .returned (.tuple #[]) ∧ RS w' R p n c (exA xs 123 A) op ∧ w.grownBy w' (some R)) := hcon
  clear hS hD hcon
  generalize exA xs 123 A = E at HCON ⊢
  go_enter Tryd.func21, Tryd.ntmps21
  go_wp2_with fail
  refine HCON.out.mono ?_
  rintro e w1 ⟨rfl, ⟨k, hk, hR, hE⟩, hG1⟩
  have HR : Hid (Rd w1 R (.slice p n c) k E.isNone op) := hR
  have HG : Hid (w.grownBy w1 (some R)) := hG1
  have HE : Hid (∀ j, E = some j → j = k) := hE
  have c2 := hR.c2
  have c3 := hR.c3
  have f3 := hR.fz 3
  clear hR hG1 hE
  have he : (!E.isNone) = E.isSome := by cases E <;> rfl
  go_wp2_with fail
  go_ret
  refine ⟨?_, ⟨k, hk, HR.out.set3 true, HE.out⟩, HG.out.trans (upd_set _ R 3 _)⟩
  first | rfl | rw [← he] | simp
set_option maxHeartbeats 1000000 in
theorem arrayA (hn : n ≤ 2147483648) (hx : xs.length = n) (hS : RS w R p n c A op) (hD : Dat w p n xs R) :
    Calls Tryd.prog 48 #[.pointer (some ⟨R, 0, none⟩)] w fun e w' => e = .returned (.bool (exA xs 91 A).isSome) ∧ RS w' R p n c (exA xs 91 A) true ∧ w.grownBy w' (some R) := by
  have hcon := expectA R n c p xs A op w 91 hn hx hS hD
  have HCON : Hid (Calls Tryd.prog 33 #[.pointer (some ⟨R, 0, none⟩), .int .u8 91] w fun e w' => e = .returned (.tuple #[]) ∧ RS w' R p n c (exA xs 91 A) op ∧ w.grownBy w' (some R)) := hcon
  clear hS hD hcon
  generalize exA xs 91 A = E at HCON ⊢
  go_enter Tryd.func48, Tryd.ntmps48
  go_wp2_with fail
  refine HCON.out.mono ?_
  rintro e w1 ⟨rfl, ⟨k, hk, hR, hE⟩, hG1⟩
  have HR : Hid (Rd w1 R (.slice p n c) k E.isNone op) := hR
  have HG : Hid (w.grownBy w1 (some R)) := hG1
  have HE : Hid (∀ j, E = some j → j = k) := hE
  have c2 := hR.c2
  have c3 := hR.c3
  have f3 := hR.fz 3
  clear hR hG1 hE
  have he : (!E.isNone) = E.isSome := by cases E <;> rfl
  go_wp2_with fail
  go_ret
  refine ⟨?_, ⟨k, hk, HR.out.set3 true, HE.out⟩, HG.out.trans (upd_set _ R 3 _)⟩
  first | rfl | rw [← he] | simp

/-- member: is there another? -/
def mbB (xs : List Int) (ch : Int) (A : Option Nat) (op : Bool) : Bool := if isA xs ch A then false else if op then A.isSome else (exA xs 44 A).isSome
def mbA (xs : List Int) (ch : Int) (A : Option Nat) (op : Bool) : Option Nat := if isA xs ch A then nxA xs ch A else if op then spA xs A else exA xs 44 A
end
theorem sk_idem (xs : List Int) (k : Nat) : sk xs (sk xs k) = sk xs k := by
  have h : ∀ d k, xs.length - k ≤ d → sk xs (sk xs k) = sk xs k := by
    intro d
    induction d with
    | zero =>
      intro k hk
      rw [sk_stop (k := k) (by omega), sk_stop (k := k) (by omega)]
    | succ d ih =>
      intro k hk
      by_cases h : k < xs.length ∧ ws (xs.getD k 0) = true
      · rw [sk_step h.1 h.2]
        exact ih (k + 1) (by omega)
      · rw [sk_stop h, sk_stop h]
  exact h _ k (Nat.le_refl _)
theorem isA_sp (xs : List Int) (ch : Int) (A : Option Nat) : isA xs ch (spA xs A) = isA xs ch A := by
  cases A with
  | none => rfl
  | some k => simp only [spA, isA, sk_idem]
theorem spA_sp (xs : List Int) (A : Option Nat) : spA xs (spA xs A) = spA xs A := by
  cases A with
  | none => rfl
  | some k => simp only [spA, sk_idem]
theorem exA_sp (xs : List Int) (ch : Int) (A : Option Nat) : exA xs ch (spA xs A) = exA xs ch A := by
  unfold exA; rw [isA_sp, spA_sp]
theorem RS.set3 {w : World} {R : Nat} {p : Option Addr} {n c : Nat} {A : Option Nat} {op : Bool} (h : RS w R p n c A op) (b : Bool) : RS (w.setCell ⟨R, 3, none⟩ (.bool b)) R p n c A b := by
  obtain ⟨k, h1, h2, h3⟩ := h
  exact ⟨k, h1, h2.set3 b, h3⟩
theorem RS.off {w : World} {R : Nat} {p : Option Addr} {n c : Nat} {A : Option Nat} {op : Bool} (h : RS w R p n c A op) : RS (w.setCell ⟨R, 2, none⟩ (.bool true)) R p n c none op := by
  obtain ⟨k, h1, h2, h3⟩ := h
  exact RS.mk_none h1 (h2.set2 true)
theorem RS.c0 {w : World} {R : Nat} {p : Option Addr} {n c : Nat} {A : Option Nat} {op : Bool} (h : RS w R p n c A op) : w.cell? ⟨R, 0, none⟩ = some (.slice p n c) := by
  obtain ⟨k, h1, h2, h3⟩ := h
  exact h2.c0
theorem RS.c2 {w : World} {R : Nat} {p : Option Addr} {n c : Nat} {A : Option Nat} {op : Bool} (h : RS w R p n c A op) : w.cell? ⟨R, 2, none⟩ = some (.bool A.isNone) := by
  obtain ⟨k, h1, h2, h3⟩ := h
  exact h2.c2
theorem RS.c3 {w : World} {R : Nat} {p : Option Addr} {n c : Nat} {A : Option Nat} {op : Bool} (h : RS w R p n c A op) : w.cell? ⟨R, 3, none⟩ = some (.bool op) := by
  obtain ⟨k, h1, h2, h3⟩ := h
  exact h2.c3
theorem RS.fz {w : World} {R : Nat} {p : Option Addr} {n c : Nat} {A : Option Nat} {op : Bool} (h : RS w R p n c A op) (j : Nat) : w.frozen? ⟨R, j, none⟩ = false := by
  obtain ⟨k, h1, h2, h3⟩ := h
  exact h2.fz j
theorem RS.drewN {w : World} {R : Nat} {p : Option Addr} {n c : Nat} {A : Option Nat} {op : Bool} (h : RS w R p n c A op) (q : Nat) : RS (w.drewN q) R p n c A op := h

section
variable (R n c : Nat) (p : Option Addr) (xs : List Int) (A : Option Nat) (op : Bool) (w : World)
set_option maxHeartbeats 1000000 in
theorem memberA (ch : Int) (hn : n ≤ 2147483648) (hx : xs.length = n) (hS : RS w R p n c A op) (hD : Dat w p n xs R) :
    Calls Tryd.prog 34 #[.pointer (some ⟨R, 0, none⟩), .int .u8 ch] w fun e w' => e = .returned (.bool (mbB xs ch A op)) ∧ RS w' R p n c (mbA xs ch A op) false ∧ w.grownBy w' (some R) := by
  have hg0 := upd_set w R 3 (.bool false)
  have hcon := nextA R n c p xs A false (w.setCell ⟨R, 3, none⟩ (.bool false)) ch hn hx (hS.set3 false) (hD.grown hg0)
  have HCON : Hid (Calls Tryd.prog 46 #[.pointer (some ⟨R, 0, none⟩), .int .u8 ch] (w.setCell ⟨R, 3, none⟩ (.bool false)) fun e w' => e = .returned (.bool (isA xs ch A)) ∧ RS w' R p n c (nxA xs ch A) false ∧ (w.setCell ⟨R, 3, none⟩ (.bool false)).grownBy w' (some R)) := hcon
  have HG0 : Hid (w.grownBy (w.setCell ⟨R, 3, none⟩ (.bool false)) (some R)) := hg0
  have HEX : Hid (∀ w1 (h1 : RS w1 R p n c (spA xs A) false) (h2 : w.grownBy w1 (some R)), Calls Tryd.prog 33 #[.pointer (some ⟨R, 0, none⟩), .int .u8 44] w1 fun e w' => e = .returned (.tuple #[]) ∧ RS w' R p n c (exA xs 44 A) false ∧ w1.grownBy w' (some R)) := by
    intro w1 h1 h2
    have := expectA R n c p xs (spA xs A) false w1 44 hn hx h1 (hD.grown h2)
    rw [exA_sp] at this
    exact this
  have HB : Hid (mbB xs ch A op = if isA xs ch A then false else if op then A.isSome else (exA xs 44 A).isSome) := rfl
  have HA : Hid (mbA xs ch A op = if isA xs ch A then nxA xs ch A else if op then spA xs A else exA xs 44 A) := rfl
  have HN : Hid (isA xs ch A = false → nxA xs ch A = spA xs A) := by intro h; unfold nxA; rw [h]; rfl
  have HSN : Hid ((spA xs A).isNone = A.isNone) := by show _ = _; cases A <;> rfl
  have c3 := hS.c3
  have f3 := hS.fz 3
  clear hS hD hcon hg0
  generalize mbB xs ch A op = B at HB ⊢
  generalize mbA xs ch A op = M at HA ⊢
  generalize isA xs ch A = I at HB HA HN HCON
  generalize nxA xs ch A = N at HA HN HCON
  generalize spA xs A = S at HA HN HEX HSN
  generalize exA xs 44 A = X at HB HA HEX
  cases I with
  | true =>
    go_enter Tryd.func34, Tryd.ntmps34
    go_wp2_with fail
    refine HCON.out.mono ?_
    rintro e w1 ⟨rfl, hS1, hG1⟩
    go_wp2_with fail
    go_ret
    rw [HB.out, HA.out]
    exact ⟨rfl, hS1, HG0.out.trans hG1⟩
  | false =>
    have hNS := HN.out rfl
    subst hNS
    cases op with
    | true =>
      go_enter Tryd.func34, Tryd.ntmps34
      go_wp2_with fail
      refine HCON.out.mono ?_
      rintro e w1 ⟨rfl, hS1, hG1⟩
      have c2 := hS1.c2
      rw [HSN.out] at c2
      have HS1 : Hid (RS w1 R p n c N false) := hS1
      clear hS1
      go_wp2_with fail
      go_ret
      rw [HB.out, HA.out]
      refine ⟨?_, HS1.out, HG0.out.trans hG1⟩
      cases A <;> rfl
    | false =>
      go_enter Tryd.func34, Tryd.ntmps34
      go_wp2_with fail
      refine HCON.out.mono ?_
      rintro e w1 ⟨rfl, hS1, hG1⟩
      have hcx := HEX.out w1 hS1 (HG0.out.trans hG1)
      have HCX : Hid (Calls Tryd.prog 33 #[.pointer (some ⟨R, 0, none⟩), .int .u8 44] w1 fun e w' => e = .returned (.tuple #[]) ∧ RS w' R p n c X false ∧ w1.grownBy w' (some R)) := hcx
      clear hS1 hcx
      go_wp2_with fail
      refine HCX.out.mono ?_
      rintro e w2 ⟨rfl, hS2, hG2⟩
      have c2 := hS2.c2
      have HS2 : Hid (RS w2 R p n c X false) := hS2
      clear hS2
      go_wp2_with fail
      go_ret
      rw [HB.out, HA.out]
      refine ⟨?_, HS2.out, (HG0.out.trans hG1).trans hG2⟩
      cases X <;> rfl
end
end Go.Proofs.Qxb6605662aDoor
