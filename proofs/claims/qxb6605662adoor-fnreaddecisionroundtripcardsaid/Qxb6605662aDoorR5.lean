import Derived.Test.Qxb6605662aDoorR4
import Derived.Laws.BytesArg
namespace Go.Proofs.Qxb6605662aDoor
open Go.RowKit

/-- what Key reads: the key's two ends, and where the reader stands behind the colon -/
def keyR (xs : List Int) (A : Option Nat) (op : Bool) : Option (Nat × Nat × Nat) :=
  if mbB xs 125 A op then
    match spA xs (mbA xs 125 A op) with
    | none => none
    | some k => match plR xs k with
      | none => none
      | some (s, q) => (exA xs 58 (some (q + 1))).map fun m => (s, q, m)
  else none
def keyS (xs : List Int) (A : Option Nat) (op : Bool) : Option Nat :=
  if mbB xs 125 A op then (keyR xs A op).map (·.2.2) else mbA xs 125 A op
def KeyOut (xs : List Int) (R n c : Nat) (p : Option Addr) (A : Option Nat) (op : Bool) (w : World) (e : Ending) (w' : World) : Prop :=
  (∃ v, e = .returned (.tuple #[v, .bool (keyR xs A op).isSome]) ∧ ∀ s q m, keyR xs A op = some (s, q, m) → s ≤ q ∧ q < n ∧ ∃ b o, p = some ⟨b, o, none⟩ ∧ v = .slice (some ⟨b, o + s, none⟩) (q - s) (c - s)) ∧
    RS w' R p n c (keyS xs A op) false ∧ w.grownBy w' (some R)
theorem KeyOut.no {xs : List Int} {R n c : Nat} {p : Option Addr} {A : Option Nat} {op : Bool} {w w' : World} {v : Value} (h : keyR xs A op = none) (hS : RS w' R p n c (keyS xs A op) false) (hg : w.grownBy w' (some R)) :
    KeyOut xs R n c p A op w (.returned (.tuple #[v, .bool false])) w' := ⟨⟨v, by rw [h]; rfl, fun s q m e => by rw [h] at e; cases e⟩, hS, hg⟩
theorem KeyOut.yes {xs : List Int} {R n c b o s q m : Nat} {A : Option Nat} {op : Bool} {w w' : World} (h : keyR xs A op = some (s, q, m)) (h1 : s ≤ q) (h2 : q < n) (hS : RS w' R (some ⟨b, o, none⟩) n c (keyS xs A op) false) (hg : w.grownBy w' (some R)) :
    KeyOut xs R n c (some ⟨b, o, none⟩) A op w (.returned (.tuple #[.slice (some ⟨b, o + s, none⟩) (q - s) (c - s), .bool true])) w' :=
  ⟨⟨_, by rw [h]; rfl, fun s' q' m' e => by
    rw [h] at e
    simp only [Option.some.injEq, Prod.mk.injEq] at e
    obtain ⟨rfl, rfl, rfl⟩ := e
    exact ⟨h1, h2, b, o, rfl, rfl⟩⟩, hS, hg⟩

theorem mbA_isNone (xs : List Int) (ch : Int) (A : Option Nat) (op : Bool) (h : mbB xs ch A op = true) : ∃ j, mbA xs ch A op = some j := by
  unfold mbB at h
  unfold mbA
  cases hi : isA xs ch A with
  | true => rw [hi] at h; simp at h
  | false =>
    rw [hi] at h
    cases op with
    | true =>
      cases A with
      | none => simp at h
      | some a => exact ⟨_, rfl⟩
    | false =>
      simp at h
      obtain ⟨j, hj⟩ := Option.isSome_iff_exists.1 h
      exact ⟨j, by simpa using hj⟩

set_option maxHeartbeats 2000000 in
theorem keyA (R n c : Nat) (p : Option Addr) (xs : List Int) (A : Option Nat) (op : Bool) (w : World) (hn : n ≤ 2147483648) (hcap : n ≤ c) (hcb : c ≤ 9223372036854775807) (hx : xs.length = n) (hS : RS w R p n c A op) (hD : Dat w p n xs R) (hV : VOK w R n c p xs) :
    Calls Tryd.prog 22 #[.pointer (some ⟨R, 0, none⟩)] w fun e w' => KeyOut xs R n c p A op w e w' := by
  have hmb := memberA R n c p xs A op w 125 hn hx hS hD
  have HMB : Hid (Calls Tryd.prog 34 #[.pointer (some ⟨R, 0, none⟩), .int .u8 125] w fun e w' => e = .returned (.bool (mbB xs 125 A op)) ∧ RS w' R p n c (mbA xs 125 A op) false ∧ w.grownBy w' (some R)) := hmb
  have HD : Hid (Dat w p n xs R) := hD
  have HV : Hid (VOK w R n c p xs) := hV
  have HX : Hid (xs.length = n) := hx
  clear hmb hS hD hV hx
  cases hb : mbB xs 125 A op with
  | false =>
    have HK : Hid (keyR xs A op = none ∧ keyS xs A op = mbA xs 125 A op) := by unfold keyS keyR; rw [hb]; exact ⟨rfl, rfl⟩
    rw [hb] at HMB
    clear hb
    go_enter Tryd.func22, Tryd.ntmps22
    go_wp2_with fail
    refine HMB.out.mono ?_
    rintro e w1 ⟨rfl, hS1, hG1⟩
    go_wp2_with fail
    go_ret2
    exact KeyOut.no HK.out.1 (by rw [HK.out.2]; exact hS1) hG1
  | true =>
    obtain ⟨j, hj⟩ := mbA_isNone xs 125 A op hb
    have HKR : Hid (keyR xs A op = match plR xs (sk xs j) with | none => none | some (s, q) => (exA xs 58 (some (q + 1))).map fun m => (s, q, m)) := by
      show _ = _
      unfold keyR
      rw [hb, hj]
      rfl
    have HKS : Hid (keyS xs A op = (keyR xs A op).map (·.2.2)) := by show _ = _; unfold keyS; rw [hb]; rfl
    rw [hb, hj] at HMB
    clear hb hj
    go_enter Tryd.func22, Tryd.ntmps22
    go_wp2_with fail
    refine HMB.out.mono ?_
    rintro e w1 ⟨rfl, hS1, hG1⟩
    have hsp := spaceA R n c p xs (some j) false w1 hn HX.out hS1 (HD.out.grown hG1)
    have HSP : Hid (Calls Tryd.prog 35 #[.pointer (some ⟨R, 0, none⟩)] w1 fun e w' => e = .returned (.tuple #[]) ∧ RS w' R p n c (some (sk xs j)) false ∧ w1.grownBy w' (some R)) := hsp
    have HG1 : Hid (w.grownBy w1 (some R)) := hG1
    clear hS1 hG1 hsp
    go_wp2_with fail
    refine HSP.out.mono ?_
    rintro e w2 ⟨rfl, hS2, hG2⟩
    have hG02 := HG1.out.trans hG2
    have hpl := plain_any R n c (sk xs j) p false false xs w2 hn hcap hcb HX.out hS2.le hS2.rd (HD.out.grown hG02) (HV.out.grown hG02)
    have HPL : Hid (Calls Tryd.prog 36 #[.pointer (some ⟨R, 0, none⟩)] w2 fun e w' => PlOut xs R n c p (sk xs j) false false w2 e w') := hpl
    have HG2 : Hid (w.grownBy w2 (some R)) := hG02
    have HLE : Hid (sk xs j ≤ n) := hS2.le
    clear hS2 hG2 hpl hG02
    go_wp2_with fail
    refine HPL.out.mono ?_
    rintro e w3 ⟨⟨b, o, s, q, _, hq, rfl, hsq, hqn, rfl, hR3⟩ | ⟨ho, rfl, hR3⟩, hG3⟩
    · have hG03 := HG2.out.trans hG3
      have hex := expectA R n c (some ⟨b, o, none⟩) xs (some (q + 1)) false w3 58 hn HX.out (RS.mk_some (by omega) hR3) (HD.out.grown hG03)
      have HEX : Hid (Calls Tryd.prog 33 #[.pointer (some ⟨R, 0, none⟩), .int .u8 58] w3 fun e w' => e = .returned (.tuple #[]) ∧ RS w' R (some ⟨b, o, none⟩) n c (exA xs 58 (some (q + 1))) false ∧ w3.grownBy w' (some R)) := hex
      have HG3 : Hid (w.grownBy w3 (some R)) := hG03
      have HKR2 : Hid (keyR xs A op = (exA xs 58 (some (q + 1))).map fun m => (s, q, m)) := by show _ = _; rw [HKR.out, hq]
      clear hR3 hG3 hex hG03 hq HKR
      generalize exA xs 58 (some (q + 1)) = X at HEX HKR2
      go_wp2_with fail
      refine HEX.out.mono ?_
      rintro e w4 ⟨rfl, hS4, hG4⟩
      have c2 := hS4.c2
      have HS4 : Hid (RS w4 R (some ⟨b, o, none⟩) n c X false) := hS4
      have HG4 : Hid (w.grownBy w4 (some R)) := HG3.out.trans hG4
      clear hS4 hG4
      cases X with
      | none =>
        have HK : Hid (keyR xs A op = none ∧ keyS xs A op = none) := by
          have h1 : keyR xs A op = none := HKR2.out
          exact ⟨h1, by rw [HKS.out, h1]; rfl⟩
        go_wp2_with fail
        go_quiet (fail)
        go_wp2
        go_ret2
        exact KeyOut.no HK.out.1 (by rw [HK.out.2]; exact HS4.out) (upd_drewN HG4.out _)
      | some m =>
        have HK : Hid (keyR xs A op = some (s, q, m) ∧ keyS xs A op = some m) := by
          have h1 : keyR xs A op = some (s, q, m) := HKR2.out
          exact ⟨h1, by rw [HKS.out, h1]; rfl⟩
        go_wp2_with fail
        go_quiet (fail)
        go_wp2
        go_ret2
        exact KeyOut.yes HK.out.1 hsq hqn (by rw [HK.out.2]; exact HS4.out) (upd_drewN HG4.out _)
    · have HK : Hid (keyR xs A op = none ∧ keyS xs A op = none) := by
        have h0 : plR xs (sk xs j) = none := by
          rcases ho with h | h
          · cases h
          · exact h
        have h1 : keyR xs A op = none := by rw [HKR.out, h0]
        exact ⟨h1, by rw [HKS.out, h1]; rfl⟩
      have HR3 : Hid (Rd w3 R (.slice p n c) (sk xs j) false false) := hR3
      have HG3 : Hid (w.grownBy w3 (some R)) := HG2.out.trans hG3
      have c2 := hR3.c2
      have f2 := hR3.fz 2
      clear hR3 hG3 ho HKR HKS
      go_wp2_with fail
      go_ret2
      exact KeyOut.no HK.out.1 (by rw [HK.out.2]; exact RS.mk_none HLE.out (HR3.out.set2 true)) (HG3.out.trans (upd_set _ R 2 _))

/-- what String reads -/
def stR (xs : List Int) : Option Nat → Option (Nat × Nat)
  | none => none
  | some k => plR xs (sk xs k)
def stV (xs : List Int) (A : Option Nat) : ByteArray := match stR xs A with
  | none => ⟨#[]⟩
  | some (s, q) => strOfNums (sub xs s q)
def stS (xs : List Int) (A : Option Nat) : Option Nat := (stR xs A).map fun x => x.2 + 1
theorem sub_length (xs : List Int) (s q : Nat) (hsq : s ≤ q) (hq : q ≤ xs.length) : (sub xs s q).length = q - s := by unfold sub; simp; omega
theorem sub_at (xs : List Int) (s q i : Nat) (hi : i < q - s) : (sub xs s q).getD i 0 = xs.getD (s + i) 0 := by
  unfold sub
  simp [hi]

set_option maxHeartbeats 2000000 in
theorem stringA (R n c : Nat) (p : Option Addr) (xs : List Int) (A : Option Nat) (op : Bool) (w : World) (hn : n ≤ 2147483648) (hcap : n ≤ c) (hcb : c ≤ 9223372036854775807) (hx : xs.length = n) (hS : RS w R p n c A op) (hD : Dat w p n xs R) (hV : VOK w R n c p xs) :
    Calls Tryd.prog 42 #[.pointer (some ⟨R, 0, none⟩)] w fun e w' => e = .returned (.string (stV xs A)) ∧ RS w' R p n c (stS xs A) op ∧ w.grownBy w' (some R) := by
  have hsp := spaceA R n c p xs A op w hn hx hS hD
  have HSP : Hid (Calls Tryd.prog 35 #[.pointer (some ⟨R, 0, none⟩)] w fun e w' => e = .returned (.tuple #[]) ∧ RS w' R p n c (spA xs A) op ∧ w.grownBy w' (some R)) := hsp
  have HD : Hid (Dat w p n xs R) := hD
  have HV : Hid (VOK w R n c p xs) := hV
  have HX : Hid (xs.length = n) := hx
  clear hsp hS hD hV hx
  go_enter Tryd.func42, Tryd.ntmps42
  go_wp2_with fail
  refine HSP.out.mono ?_
  rintro e w1 ⟨rfl, ⟨k, hk, hR1, hA⟩, hG1⟩
  have hpl := plain_any R n c k p (spA xs A).isNone op xs w1 hn hcap hcb HX.out hk hR1 (HD.out.grown hG1) (HV.out.grown hG1)
  have HPL : Hid (Calls Tryd.prog 36 #[.pointer (some ⟨R, 0, none⟩)] w1 fun e w' => PlOut xs R n c p k (spA xs A).isNone op w1 e w') := hpl
  have HG1 : Hid (w.grownBy w1 (some R)) := hG1
  have HA : Hid (∀ j, spA xs A = some j → j = k) := hA
  clear hpl hR1 hG1 hA
  go_wp2_with fail
  refine HPL.out.mono ?_
  rintro e w3 ⟨⟨b, o, s, q, ho, hq, rfl, hsq, hqn, rfl, hR3⟩ | ⟨ho, rfl, hR3⟩, hG3⟩
  · have HQ : Hid (stR xs A = some (s, q)) := by
      show _ = _
      cases A with
      | none => simp [spA] at ho
      | some a => rw [stR, HA.out (sk xs a) rfl]; exact hq
    have hG03 := HG1.out.trans hG3
    have hdat := HD.out.grown hG03
    have hl := HX.out
    have kc := run_convert_bytes_arg (P := Tryd.prog) w3 22 5 Tryd.underlying22 Tryd.underlying5 b (o + s) (q - s) (c - s) (sub xs s q) (sub_length xs s q hsq (by omega)) (fun i hi => by
      obtain ⟨b', o', hp', _, hcell⟩ := hdat (s + i) (by omega)
      simp only [Option.some.injEq, Addr.mk.injEq, and_true] at hp'
      obtain ⟨rfl, rfl⟩ := hp'
      rw [sub_at xs s q i hi, Nat.add_assoc]
      exact hcell) 9 Tryd.underlying9
    have HR3 : Hid (Rd w3 R (.slice (some ⟨b, o, none⟩) n c) ((q + 1 : Nat) : Int) false op) := hR3
    have HG3 : Hid (w.grownBy w3 (some R)) := hG03
    clear hR3 hG3 hG03 hdat hq ho hl
    go_wp2_with fail
    go_ret
    unfold stV stS
    rw [HQ.out]
    exact ⟨rfl, RS.mk_some (k := q + 1) (by omega) HR3.out, HG3.out⟩
  · have HQ : Hid (stR xs A = none) := by
      show _ = _
      cases A with
      | none => rfl
      | some a =>
        rw [stR, HA.out (sk xs a) rfl]
        rcases ho with ho | ho
        · simp [spA] at ho
        · exact ho
    have HR3 : Hid (Rd w3 R (.slice p n c) k (spA xs A).isNone op) := hR3
    have HG3 : Hid (w.grownBy w3 (some R)) := HG1.out.trans hG3
    have c2 := hR3.c2
    have f2 := hR3.fz 2
    clear hR3 hG3 ho
    go_wp2_with fail
    go_ret
    unfold stV stS
    rw [HQ.out]
    exact ⟨rfl, RS.mk_none hk (HR3.out.set2 true), HG3.out.trans (upd_set _ R 2 _)⟩
end Go.Proofs.Qxb6605662aDoor
