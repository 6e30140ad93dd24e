import Derived.Test.Qxb6605662aDoorR3
namespace Go.Proofs.Qxb6605662aDoor
open Go.RowKit

/-! ### a string's text: up to the closing quote -/
def scF (xs : List Int) : Nat → Nat → Option Nat
  | 0, _ => none
  | f + 1, i => if i < xs.length then (if xs.getD i 0 = 34 then some i else if xs.getD i 0 = 92 ∨ xs.getD i 0 < 32 then none else scF xs f (i + 1)) else none
/-- where the string whose text begins at i closes -/
def sc (xs : List Int) (i : Nat) : Option Nat := scF xs (xs.length - i) i
theorem sc_hit {xs : List Int} {i : Nat} (h : i < xs.length) (hq : xs.getD i 0 = 34) : sc xs i = some i := by
  unfold sc
  rw [show xs.length - i = (xs.length - (i + 1)) + 1 by omega, scF, if_pos h, if_pos hq]
theorem sc_bad {xs : List Int} {i : Nat} (h : i < xs.length) (hq : xs.getD i 0 = 92 ∨ xs.getD i 0 < 32) : sc xs i = none := by
  unfold sc
  rw [show xs.length - i = (xs.length - (i + 1)) + 1 by omega, scF, if_pos h, if_neg (by omega), if_pos hq]
theorem sc_step {xs : List Int} {i : Nat} (h : i < xs.length) (h1 : xs.getD i 0 ≠ 34) (h2 : ¬ (xs.getD i 0 = 92 ∨ xs.getD i 0 < 32)) : sc xs i = sc xs (i + 1) := by
  unfold sc
  rw [show xs.length - i = (xs.length - (i + 1)) + 1 by omega, scF, if_pos h, if_neg h1, if_neg h2]
theorem sc_end {xs : List Int} {i : Nat} (h : xs.length ≤ i) : sc xs i = none := by
  unfold sc
  rw [show xs.length - i = 0 by omega, scF]
theorem sc_le (xs : List Int) : ∀ d i q, xs.length - i ≤ d → sc xs i = some q → i ≤ q ∧ q < xs.length := by
  intro d
  induction d with
  | zero => intro i q h1 h2; rw [sc_end (by omega)] at h2; cases h2
  | succ d ih =>
    intro i q h1 h2
    by_cases h : i < xs.length
    · by_cases hq : xs.getD i 0 = 34
      · rw [sc_hit h hq] at h2; cases h2; exact ⟨Nat.le_refl _, h⟩
      · by_cases hb : xs.getD i 0 = 92 ∨ xs.getD i 0 < 32
        · rw [sc_bad h hb] at h2; cases h2
        · rw [sc_step h hq hb] at h2
          have := ih (i + 1) q (by omega) h2
          omega
    · rw [sc_end (by omega)] at h2; cases h2

/-! ### UTF-8 -/
/-- of a first byte from 128 on: how many bytes follow, and between what the next one lies -/
def cls (c : Int) : Option (Nat × Int × Int) :=
  if 194 ≤ c ∧ c ≤ 223 then some (1, 128, 191) else if c = 224 then some (2, 160, 191) else if 225 ≤ c ∧ c ≤ 236 then some (2, 128, 191) else if c = 237 then some (2, 128, 159) else if 238 ≤ c ∧ c ≤ 239 then some (2, 128, 191)
  else if c = 240 then some (3, 144, 191) else if 241 ≤ c ∧ c ≤ 243 then some (3, 128, 191) else if c = 244 then some (3, 128, 143) else none
def cont (x : Int) : Bool := decide (128 ≤ x) && decide (x ≤ 191)
def vuF : Nat → List Int → Bool
  | _, [] => true
  | 0, _ :: _ => false
  | f + 1, c :: r => if c < 128 then vuF f r else
    match cls c with
    | none => false
    | some (m, lo, hi) => if r.length < m ∨ r.getD 0 0 < lo ∨ hi < r.getD 0 0 ∨ ((r.take m).drop 1).all cont = false then false else vuF f (r.drop m)
/-- is it valid UTF-8? -/
def vu (l : List Int) : Bool := vuF l.length l
def asc (l : List Int) : Bool := l.all fun x => decide (x < 128)
theorem vu_asc (l : List Int) (h : asc l = true) : vu l = true := by
  unfold vu
  induction l with
  | nil => rfl
  | cons c r ih =>
    have h1 : c < 128 ∧ asc r = true := by unfold asc at h ⊢; simpa using h
    rw [List.length_cons, vuF, if_pos h1.1]
    exact ih h1.2
/-- the bytes s .. q - 1 -/
def sub (xs : List Int) (s q : Nat) : List Int := (xs.drop s).take (q - s)
theorem asc_snoc (xs : List Int) (s j : Nat) (hs : s ≤ j) (hj : j < xs.length) : asc (sub xs s (j + 1)) = (asc (sub xs s j) && decide (xs.getD j 0 < 128)) := by
  unfold sub asc
  rw [show j + 1 - s = (j - s) + 1 by omega, List.take_succ_eq_append_getElem (by simp; omega), List.all_append]
  simp [show s + (j - s) = j by omega, hj]

/-- what plain reads: the text's two ends -/
def plR (xs : List Int) (k : Nat) : Option (Nat × Nat) :=
  if k < xs.length ∧ xs.getD k 0 = 34 then
    match sc xs (k + 1) with
    | some q => if vu (sub xs (k + 1) q) = true then some (k + 1, q) else none
    | none => none
  else none
/-- utf8.Valid serves, wherever the text is not ASCII -/
def VOK (w : World) (R n c : Nat) (p : Option Addr) (xs : List Int) : Prop :=
  ∀ (w1 : World) (b o s q : Nat), w.grownBy w1 (some R) → p = some ⟨b, o, none⟩ → s ≤ q → q < n → asc (sub xs s q) = false →
    Calls Tryd.prog 47 #[.slice (some ⟨b, o + s, none⟩) (q - s) (c - s)] w1 fun e w' => e = .returned (.bool (vu (sub xs s q))) ∧ Below w1.heap.size w1 w'
theorem VOK.grown {w w' : World} {R n c : Nat} {p : Option Addr} {xs : List Int} (h : VOK w R n c p xs) (hg : w.grownBy w' (some R)) : VOK w' R n c p xs :=
  fun w1 b o s q h1 h2 h3 h4 h5 => h w1 b o s q (hg.trans h1) h2 h3 h4 h5
def PlOut (xs : List Int) (R n c : Nat) (p : Option Addr) (k : Nat) (off op : Bool) (w : World) (e : Ending) (w' : World) : Prop :=
  ((∃ b o s q, off = false ∧ plR xs k = some (s, q) ∧ p = some ⟨b, o, none⟩ ∧ s ≤ q ∧ q < n ∧ e = .returned (.tuple #[.slice (some ⟨b, o + s, none⟩) (q - s) (c - s), .bool true]) ∧ Rd w' R (.slice p n c) ((q + 1 : Nat) : Int) false op) ∨
   ((off = true ∨ plR xs k = none) ∧ e = .returned (.tuple #[.slice none 0 0, .bool false]) ∧ Rd w' R (.slice p n c) k off op)) ∧ w.grownBy w' (some R)
theorem PlOut.no {xs : List Int} {R n c : Nat} {p : Option Addr} {k : Nat} {off op : Bool} {w w' : World} (h : off = true ∨ plR xs k = none) (hR : Rd w' R (.slice p n c) k off op) (hg : w.grownBy w' (some R)) :
    PlOut xs R n c p k off op w (.returned (.tuple #[.slice none 0 0, .bool false])) w' := ⟨.inr ⟨h, rfl, hR⟩, hg⟩
theorem PlOut.yes {xs : List Int} {R n c b o s q : Nat} {k : Nat} {op : Bool} {w w' : World} (h : plR xs k = some (s, q)) (h1 : s ≤ q) (h2 : q < n) (hR : Rd w' R (.slice (some ⟨b, o, none⟩) n c) ((q + 1 : Nat) : Int) false op) (hg : w.grownBy w' (some R)) :
    PlOut xs R n c (some ⟨b, o, none⟩) k false op w (.returned (.tuple #[.slice (some ⟨b, o + s, none⟩) (q - s) (c - s), .bool true])) w' := ⟨.inl ⟨b, o, s, q, rfl, h, rfl, h1, h2, rfl, hR⟩, hg⟩

set_option maxHeartbeats 4000000 in
theorem plain_any (R n c k : Nat) (p : Option Addr) (off op : Bool) (xs : List Int) (w : World) (_hn : n ≤ 2147483648) (hcap : n ≤ c) (hcb : c ≤ 9223372036854775807) (hx : xs.length = n) (hk : k ≤ n)
    (hR : Rd w R (.slice p n c) k off op) (hD : Dat w p n xs R) (hV : VOK w R n c p xs) :
    Calls Tryd.prog 36 #[.pointer (some ⟨R, 0, none⟩)] w fun e w' => PlOut xs R n c p k off op w e w' := by
  have HX : Hid (xs.length = n) := hx
  have HD : Hid (Dat w p n xs R) := hD
  have HR : Hid (Rd w R (.slice p n c) k off op) := hR
  have HV : Hid (VOK w R n c p xs) := hV
  have c0 := hR.c0
  have c1 := hR.c1
  have c2 := hR.c2
  have f1 := hR.fz 1
  clear hx hD hR hV
  cases off with
  | true =>
    go_enter Tryd.func36, Tryd.ntmps36
    go_wp2
    go_quiet (fail)
    go_wp2
    go_ret2
    exact PlOut.no (.inl rfl) HR.out (upd_drewN (World.grownBy.refl _ _) _)
  | false =>
    by_cases hkn : k < n
    · obtain ⟨b, o, hp, hb, hcell⟩ := HD.out k hkn
      subst hp
      obtain ⟨y, HY⟩ : ∃ y, Hid (xs.getD k 0 = y) := ⟨_, rfl⟩
      rw [HY.out] at hcell
      have hkni : (k : Int) < n := by omega
      have hke : ((k : Int) == n) = false := beq_eq_false_iff_ne.2 (by omega)
      by_cases hy : y = 34
      · subst hy
        go_enter Tryd.func36, Tryd.ntmps36
        go_wp2
        go_quiet (fail)
        go_wp2
        go_loop [5, 6] (fun a i => ∃ (j : Nat) (ab : Bool), k + 1 ≤ j ∧ j ≤ n ∧ i = .int .i64 j ∧ a = .bool ab ∧ Hid (sc xs (k + 1) = sc xs j) ∧ Hid (ab = asc (sub xs (k + 1) j))) (fun _ i => n - (intOf i).toNat)
        case atStart => exact ⟨k + 1, true, Nat.le_refl _, by omega, by go_num, rfl, rfl, by show true = _; unfold sub asc; simp⟩
        case round =>
          obtain ⟨j, ab, hj1, hj2, rfl, rfl, HS, HA⟩ := hrel
          by_cases hjn : j < n
          · obtain ⟨b', o', hp', hb', hcellj⟩ := HD.out j hjn
            simp only [Option.some.injEq, Addr.mk.injEq, and_true] at hp'
            obtain ⟨rfl, rfl⟩ := hp'
            obtain ⟨x, HXJ⟩ : ∃ x, Hid (xs.getD j 0 = x) := ⟨_, rfl⟩
            rw [HXJ.out] at hcellj
            have hjni : (j : Int) < n := by omega
            by_cases hx34 : x = 34
            · subst hx34
              have HPL : Hid (plR xs k = if vu (sub xs (k + 1) j) = true then some (k + 1, j) else none) := by
                show _ = _
                unfold plR
                rw [if_pos ⟨by rw [HX.out]; exact hkn, HY.out⟩, HS.out, sc_hit (by rw [HX.out]; exact hjn) HXJ.out]
              cases ab with
              | true =>
                have hvu : Hid (vu (sub xs (k + 1) j) = true) := vu_asc _ HA.out.symm
                have hys : Hid (plR xs k = some (k + 1, j)) := by show _ = _; rw [HPL.out, if_pos hvu.out]
                go_wp2
                go_ret2
                exact PlOut.yes hys.out hj1 hjn ((HR.out.drewN _).set1 ((j : Int) + 1)) ((upd_drewN (World.grownBy.refl _ _) _).trans (upd_set _ R 1 _))
              | false =>
                have hcv := HV.out (w.drewN nq) b o (k + 1) j (upd_drewN (World.grownBy.refl _ _) _) rfl hj1 hjn HA.out.symm
                have HCV : Hid (Calls Tryd.prog 47 #[.slice (some ⟨b, o + (k + 1), none⟩) (j - (k + 1)) (c - (k + 1))] (w.drewN nq) fun e w' => e = .returned (.bool (vu (sub xs (k + 1) j))) ∧ Below (w.drewN nq).heap.size (w.drewN nq) w') := hcv
                clear hcv
                generalize vu (sub xs (k + 1) j) = V at HPL HCV
                go_wp2_with fail
                refine HCV.out.mono ?_
                rintro e w2 ⟨rfl, hb2⟩
                have hg2 : w.grownBy w2 (some R) := ⟨hb2.os, hb2.tape, hb2.output, hb2.size, fun k hk _ => hb2.block k hk⟩
                have hR2 : Rd w2 R (.slice (some ⟨b, o, none⟩) n c) k false op := (hb2.block R HR.out.lt).trans HR.out
                have HG2 : Hid (w.grownBy w2 (some R)) := hg2
                have HR2 : Hid (Rd w2 R (.slice (some ⟨b, o, none⟩) n c) k false op) := hR2
                have d1 := hR2.c1
                have e1 := hR2.fz 1
                clear hb2 hg2 hR2
                cases V with
                | true =>
                  have hys : Hid (plR xs k = some (k + 1, j)) := by show _ = _; rw [HPL.out, if_pos rfl]
                  go_wp2
                  go_ret2
                  exact PlOut.yes hys.out hj1 hjn (HR2.out.set1 ((j : Int) + 1)) (HG2.out.trans (upd_set _ R 1 _))
                | false =>
                  have hno : Hid (plR xs k = none) := by show _ = _; rw [HPL.out, if_neg (by simp)]
                  go_wp2
                  go_ret2
                  exact PlOut.no (.inr hno.out) HR2.out HG2.out
            · have hx34' : (x == 34) = false := beq_eq_false_iff_ne.2 hx34
              have HN34 : Hid (xs.getD j 0 ≠ 34) := by rw [HXJ.out]; exact hx34
              clear hx34
              by_cases hxb : x = 92 ∨ x < 32
              · have hno : Hid (plR xs k = none) := by
                  show _ = _
                  unfold plR
                  rw [if_pos ⟨by rw [HX.out]; exact hkn, HY.out⟩, HS.out, sc_bad (by rw [HX.out]; exact hjn) (by rw [HXJ.out]; exact hxb)]
                have hxc : x = 92 ∨ ((x == 92) = false ∧ x < 32) := by
                  by_cases e : x = 92
                  · exact .inl e
                  · exact .inr ⟨beq_eq_false_iff_ne.2 e, by omega⟩
                clear hxb
                rcases hxc with rfl | ⟨hx1, hx2⟩
                all_goals
                  go_wp2
                  go_ret2
                  exact PlOut.no (.inr hno.out) HR.out (upd_drewN (World.grownBy.refl _ _) _)
              · have hx1 : (x == 92) = false := beq_eq_false_iff_ne.2 (fun e => hxb (.inl e))
                have hx2 : ¬ x < 32 := fun e => hxb (.inr e)
                have HS2 : Hid (sc xs (k + 1) = sc xs (j + 1)) := HS.out.trans (sc_step (by rw [HX.out]; exact hjn) HN34.out (by rw [HXJ.out]; exact hxb))
                have HA2 : Hid (asc (sub xs (k + 1) (j + 1)) = (ab && decide (x < 128))) := by show _ = _; rw [asc_snoc xs (k + 1) j hj1 (by rw [HX.out]; exact hjn), ← HA.out, HXJ.out]
                clear hxb
                by_cases hx3 : 128 ≤ x
                · have HA3 : Hid (false = asc (sub xs (k + 1) (j + 1))) := by show _ = _; rw [HA2.out, decide_eq_false (by omega), Bool.and_false]
                  go_wp2
                  go_round
                  case rel => exact ⟨j + 1, false, by omega, by omega, by go_num, rfl, HS2, HA3⟩
                  case measure => simp [intOf]; omega
                · have HA3 : Hid (ab = asc (sub xs (k + 1) (j + 1))) := by show _ = _; rw [HA2.out, decide_eq_true (by omega), Bool.and_true]
                  have hx4 : x < 128 := by omega
                  go_wp2
                  go_round
                  case rel => exact ⟨j + 1, ab, by omega, by omega, by go_num, rfl, HS2, HA3⟩
                  case measure => simp [intOf]; omega
          · have hno : Hid (plR xs k = none) := by
              show _ = _
              unfold plR
              rw [if_pos ⟨by rw [HX.out]; exact hkn, HY.out⟩, HS.out, sc_end (by rw [HX.out]; omega)]
            have hjni : ¬ (j : Int) < n := by omega
            go_wp2
            go_ret2
            exact PlOut.no (.inr hno.out) HR.out (upd_drewN (World.grownBy.refl _ _) _)
      · have hno : Hid (plR xs k = none) := by
          show _ = _
          unfold plR
          rw [if_neg (fun h => hy (HY.out.symm.trans h.2))]
        have hy' : (y == 34) = false := beq_eq_false_iff_ne.2 hy
        have hyn : (y != 34) = true := by simp [hy]
        clear hy
        go_enter Tryd.func36, Tryd.ntmps36
        go_wp2
        go_quiet (fail)
        go_wp2
        go_ret2
        exact PlOut.no (.inr hno.out) HR.out (upd_drewN (World.grownBy.refl _ _) _)
    · have hno : Hid (plR xs k = none) := by
        show _ = _
        unfold plR
        rw [if_neg (fun h => hkn (by rw [← HX.out]; exact h.1))]
      have hke : ((k : Int) == n) = true := beq_iff_eq.2 (by omega)
      go_enter Tryd.func36, Tryd.ntmps36
      go_wp2
      go_quiet (fail)
      go_wp2
      go_ret2
      exact PlOut.no (.inr hno.out) HR.out (upd_drewN (World.grownBy.refl _ _) _)
end Go.Proofs.Qxb6605662aDoor
