import Derived.Test.Qxb6605662aDoorR2
namespace Go.Proofs.Qxb6605662aDoor
open Go.RowKit

def isd (x : Int) : Bool := decide (48 ≤ x) && decide (x ≤ 57)
def dNF (xs : List Int) : Nat → Nat → Nat
  | 0, _ => 0
  | f + 1, k => if k < xs.length ∧ isd (xs.getD k 0) = true then dNF xs f (k + 1) + 1 else 0
/-- how many digits stand from k on -/
def dN (xs : List Int) (k : Nat) : Nat := dNF xs (xs.length - k) k
theorem dN_step {xs : List Int} {k : Nat} (h : k < xs.length) (hd : isd (xs.getD k 0) = true) : dN xs k = dN xs (k + 1) + 1 := by
  unfold dN
  rw [show xs.length - k = (xs.length - (k + 1)) + 1 by omega, dNF, if_pos ⟨h, hd⟩]
theorem dN_stop {xs : List Int} {k : Nat} (h : ¬ (k < xs.length ∧ isd (xs.getD k 0) = true)) : dN xs k = 0 := by
  unfold dN
  cases xs.length - k with
  | zero => rfl
  | succ f => rw [dNF, if_neg h]
theorem dN_of (xs : List Int) (m : Nat) : ∀ k, (∀ i, i < m → isd (xs.getD (k + i) 0) = true) → k + m ≤ xs.length → ¬ (k + m < xs.length ∧ isd (xs.getD (k + m) 0) = true) → dN xs k = m := by
  induction m with
  | zero => intro k _ _ h; exact dN_stop h
  | succ m ih =>
    intro k h1 h2 h3
    rw [dN_step (k := k) (by omega) (h1 0 (by omega)), ih (k + 1) (fun i hi => by rw [show k + 1 + i = k + (i + 1) by omega]; exact h1 (i + 1) (by omega)) (by omega) (by rw [show k + 1 + m = k + (m + 1) by omega]; exact h3)]
theorem dN_all (xs : List Int) : ∀ d k, xs.length - k ≤ d → k ≤ xs.length → k + dN xs k ≤ xs.length ∧ (∀ i, i < dN xs k → isd (xs.getD (k + i) 0) = true) := by
  intro d
  induction d with
  | zero => intro k h1 h2; rw [dN_stop (by omega)]; exact ⟨by omega, fun i hi => absurd hi (by omega)⟩
  | succ d ih =>
    intro k h1 h2
    by_cases h : k < xs.length ∧ isd (xs.getD k 0) = true
    · obtain ⟨g1, g2⟩ := ih (k + 1) (by omega) (by omega)
      rw [dN_step h.1 h.2]
      refine ⟨by omega, fun i hi => ?_⟩
      cases i with
      | zero => exact h.2
      | succ i => rw [show k + (i + 1) = k + 1 + i by omega]; exact g2 i (by omega)
    · rw [dN_stop h]; exact ⟨by omega, fun i hi => absurd hi (by omega)⟩
/-- the value of m digits from k on -/
def dvl (xs : List Int) (k : Nat) : Nat → Int
  | 0 => 0
  | m + 1 => dvl xs k m * 10 + (xs.getD (k + m) 0 - 48)
def Max64 : Int := 18446744073709551615
/-- what digits reads: the value, and where it ends -/
def dgR (xs : List Int) (k : Nat) : Option (Int × Nat) :=
  if 0 < dN xs k ∧ ¬ (xs.getD k 0 = 48 ∧ 1 < dN xs k) ∧ dvl xs k (dN xs k) ≤ Max64 then some (dvl xs k (dN xs k), k + dN xs k) else none
theorem isd_iff (x : Int) : isd x = true ↔ 48 ≤ x ∧ x ≤ 57 := by unfold isd; simp
theorem isd_no (x : Int) : isd x = false ↔ x < 48 ∨ 57 < x := by
  rw [← Bool.not_eq_true, isd_iff]; omega
theorem dvl_nonneg (xs : List Int) (k m : Nat) (h : ∀ i, i < m → isd (xs.getD (k + i) 0) = true) : 0 ≤ dvl xs k m := by
  induction m with
  | zero => exact Int.le_refl _
  | succ m ih =>
    have h1 := ih (fun i hi => h i (by omega))
    have h2 := (isd_iff _).1 (h m (by omega))
    rw [dvl]; omega
theorem dvl_mono (xs : List Int) (k m m' : Nat) (h : ∀ i, i < m' → isd (xs.getD (k + i) 0) = true) (hm : m ≤ m') : dvl xs k m ≤ dvl xs k m' := by
  induction m' with
  | zero => obtain rfl : m = 0 := by omega
            exact Int.le_refl _
  | succ m' ih =>
    by_cases e : m = m' + 1
    · rw [e]; exact Int.le_refl _
    · have h1 := ih (fun i hi => h i (by omega)) (by omega)
      have h2 := (isd_iff _).1 (h m' (by omega))
      have h3 := dvl_nonneg xs k m' (fun i hi => h i (by omega))
      rw [dvl]; omega
/-- too great: what has been read times ten and a digit more passes 64 bits -/
theorem dgR_over {xs : List Int} {k m : Nat} (hk : k + m < xs.length) (h : ∀ i, i < m → isd (xs.getD (k + i) 0) = true) (hd : isd (xs.getD (k + m) 0) = true)
    (hv : (18446744073709551615 - (xs.getD (k + m) 0 - 48)) / 10 < dvl xs k m) : dgR xs k = none := by
  unfold dgR
  rw [if_neg]
  rintro ⟨h1, h2, h3⟩
  have hall : ∀ i, i < m + 1 → isd (xs.getD (k + i) 0) = true := fun i hi => by
    by_cases e : i = m
    · rw [e]; exact hd
    · exact h i (by omega)
  have hN := dN_all xs _ k (Nat.le_refl _) (by omega)
  have hge : m + 1 ≤ dN xs k := by
    rcases Nat.lt_or_ge (dN xs k) (m + 1) with hlt | hge
    · exfalso
      have : ∀ d, d ≤ m → dN xs k = d → False := by
        intro d hd' he
        have hst : ∀ j, j ≤ d → dN xs k = dN xs (k + j) + j := by
          intro j
          induction j with
          | zero => intro _; simp
          | succ j ihj =>
            intro hj
            rw [ihj (by omega), dN_step (k := k + j) (by omega) (hall j (by omega))]
            rw [show k + j + 1 = k + (j + 1) by omega]; omega
        have h5 := hst d (Nat.le_refl _)
        rw [dN_step (k := k + d) (by omega) (hall d (by omega))] at h5
        omega
      exact this _ (by omega) rfl
    · exact hge
  have h4 := dvl_mono xs k (m + 1) (dN xs k) hN.2 hge
  have h6 := (isd_iff _).1 hd
  rw [dvl] at h4
  unfold Max64 at h3
  omega
theorem dgR_end {xs : List Int} {k m : Nat} (hk : k + m ≤ xs.length) (h : ∀ i, i < m → isd (xs.getD (k + i) 0) = true) (he : ¬ (k + m < xs.length ∧ isd (xs.getD (k + m) 0) = true)) (hv : dvl xs k m ≤ Max64) :
    dgR xs k = if 0 < m ∧ ¬ (xs.getD k 0 = 48 ∧ 1 < m) then some (dvl xs k m, k + m) else none := by
  have hN := dN_of xs m k h hk he
  unfold dgR
  rw [hN]
  by_cases h1 : 0 < m ∧ ¬ (xs.getD k 0 = 48 ∧ 1 < m)
  · rw [if_pos h1, if_pos ⟨h1.1, h1.2, hv⟩]
  · rw [if_neg h1, if_neg (fun h2 => h1 ⟨h2.1, h2.2.1⟩)]

/-- how the call of digits ends -/
def DgOut (xs : List Int) (R n c : Nat) (p : Option Addr) (k : Nat) (off op : Bool) (w : World) (e : Ending) (w' : World) : Prop :=
  ((∃ v m, off = false ∧ dgR xs k = some (v, m) ∧ e = .returned (.tuple #[.int .u64 v, .bool true]) ∧ m ≤ n ∧ Rd w' R (.slice p n c) m false op) ∨
   ((off = true ∨ dgR xs k = none) ∧ e = .returned (.tuple #[.int .u64 0, .bool false]) ∧ ∃ m : Nat, m ≤ n ∧ Rd w' R (.slice p n c) m off op)) ∧ w.grownBy w' (some R)

theorem DgOut.no {xs : List Int} {R n c : Nat} {p : Option Addr} {k : Nat} {off op : Bool} {w w' : World} (h : off = true ∨ dgR xs k = none) (m : Nat) (hm : m ≤ n) (hR : Rd w' R (.slice p n c) m off op) (hg : w.grownBy w' (some R)) :
    DgOut xs R n c p k off op w (.returned (.tuple #[.int .u64 0, .bool false])) w' := ⟨.inr ⟨h, rfl, m, hm, hR⟩, hg⟩
theorem DgOut.yes {xs : List Int} {R n c : Nat} {p : Option Addr} {k : Nat} {op : Bool} {w w' : World} {v : Int} (m : Nat) (h : dgR xs k = some (v, m)) (hm : m ≤ n) (hR : Rd w' R (.slice p n c) m false op) (hg : w.grownBy w' (some R)) :
    DgOut xs R n c p k false op w (.returned (.tuple #[.int .u64 v, .bool true])) w' := ⟨.inl ⟨v, m, rfl, h, rfl, hm, hR⟩, hg⟩

set_option maxHeartbeats 4000000 in
theorem digits_any (R n c k : Nat) (p : Option Addr) (off op : Bool) (xs : List Int) (w : World) (hn : n ≤ 2147483648) (hx : xs.length = n) (hk : k ≤ n)
    (hR : Rd w R (.slice p n c) k off op) (hD : Dat w p n xs R) :
    Calls Tryd.prog 37 #[.pointer (some ⟨R, 0, none⟩)] w fun e w' => DgOut xs R n c p k off op w e w' := by
  have HX : Hid (xs.length = n) := hx
  have HD : Hid (Dat w p n xs R) := hD
  have HR : Hid (Rd w R (.slice p n c) k off op) := hR
  have c1 := hR.c1
  clear hx hD hR
  go_enter Tryd.func37, Tryd.ntmps37
  go_wp2
  go_loopg [5] (n - k) (fun g v wr => ∃ (m : Nat) (V : Int), k + m ≤ n ∧ n - (k + m) ≤ g ∧ v = .int .u64 V ∧ 0 ≤ V ∧ V ≤ 18446744073709551615 ∧ Hid (V = dvl xs k m) ∧ Hid (∀ i, i < m → isd (xs.getD (k + i) 0) = true) ∧ Hid (Rd wr R (.slice p n c) ((k + m : Nat) : Int) off op) ∧ Hid (w.grownBy wr (some R)))
  case atStart => exact ⟨0, 0, by omega, by omega, rfl, by omega, by omega, rfl, fun i hi => absurd hi (by omega), HR, World.grownBy.refl _ _⟩
  case round =>
    obtain ⟨m, V, hm, hg, rfl, hV0, hV1, HV, HI, HJ, HG⟩ := hrel
    have d0 := HJ.out.c0
    have d1 := HJ.out.c1
    have d2 := HJ.out.c2
    have f1 := HJ.out.fz 1
    obtain ⟨j, hj⟩ : ∃ j, k + m = j := ⟨_, rfl⟩
    rw [hj] at d1
    by_cases hlt : j < n
    · obtain ⟨b, o, hp, hb, hcell⟩ := HD.out.grown HG.out j hlt
      subst hp
      obtain ⟨x, HXJ⟩ : ∃ x, Hid (xs.getD j 0 = x) := ⟨_, rfl⟩
      rw [HXJ.out] at hcell
      have hji : (j : Int) < n := by omega
      have HJM : Hid (k + m = j) := hj
      clear hj
      by_cases hdig : 48 ≤ x ∧ x ≤ 57
      · obtain ⟨hx1, hx2⟩ := hdig
        have hIs : Hid (isd (xs.getD (k + m) 0) = true) := by rw [HJM.out, HXJ.out]; exact (isd_iff x).2 ⟨hx1, hx2⟩
        by_cases hov : (18446744073709551615 - (x - 48)) / 10 < V
        · have hno : Hid (dgR xs k = none) := dgR_over (by rw [HX.out, HJM.out]; exact hlt) HI.out hIs.out (by rw [HJM.out, HXJ.out, ← HV.out]; exact hov)
          go_wp2
          go_quiet (fail)
          go_wp2
          go_quiet (fail)
          go_wp2
          go_ret2
          exact DgOut.no (.inr hno.out) j (by omega) (by rw [← HJM.out]; exact HJ.out) (upd_drewN HG.out _)
        · have HVN : Hid (V * 10 + (x - 48) = dvl xs k (m + 1)) := by show _ = _; rw [dvl, ← HV.out, HJM.out, HXJ.out]
          have HIN : Hid (∀ i, i < m + 1 → isd (xs.getD (k + i) 0) = true) := by
            intro i hi
            by_cases e : i = m
            · rw [e]; exact hIs.out
            · exact HI.out i (by omega)
          go_wp2
          go_quiet (fail)
          go_wp2
          go_quiet (fail)
          go_wp2
          go_roundg (n - (k + (m + 1)))
          case measure => have := HJM.out; omega
          case rel => exact ⟨m + 1, V * 10 + (x - 48), by have := HJM.out; omega, Nat.le_refl _, rfl, by omega, by omega, HVN, HIN, by
            have e : ((k + (m + 1) : Nat) : Int) = (j : Int) + 1 := by rw [← HJM.out]; omega
            rw [e]
            exact (HJ.out.drewN _).set1 ((j : Int) + 1), (upd_drewN HG.out _).trans (upd_set _ R 1 _)⟩
      · have HEND : Hid (dgR xs k = if 0 < m ∧ ¬ (xs.getD k 0 = 48 ∧ 1 < m) then some (dvl xs k m, k + m) else none) :=
          dgR_end (by rw [HX.out]; exact hm) HI.out (by rw [HJM.out, HXJ.out, isd_iff]; exact fun h => hdig h.2) (by rw [← HV.out]; exact hV1)
        have hcase : x < 48 ∨ (48 ≤ x ∧ 57 < x) := by omega
        clear hdig
        rcases hcase with hx1 | ⟨hx0, hx1⟩
        all_goals
          cases off with
          | true =>
            go_wp2
            go_quiet (fail)
            go_wp2
            go_quiet (fail)
            go_wp2
            go_ret2
            exact DgOut.no (.inl rfl) j (by omega) (by rw [← HJM.out]; exact HJ.out) (upd_drewN HG.out _)
          | false =>
            by_cases hm0 : m = 0
            · have hjk : ((j : Int) == k) = true := by rw [← HJM.out, hm0]; simp
              have hno : Hid (dgR xs k = none) := by show _ = _; rw [HEND.out, if_neg (by omega)]
              go_wp2
              go_quiet (fail)
              go_wp2
              go_quiet (fail)
              go_wp2
              go_ret2
              exact DgOut.no (.inr hno.out) j (by omega) (by rw [← HJM.out]; exact HJ.out) (upd_drewN HG.out _)
            · have hjk : ((j : Int) == k) = false := beq_eq_false_iff_ne.2 (by have := HJM.out; omega)
              have hkn : k < n := by have := HJM.out; omega
              have hkni : (k : Int) < n := by omega
              obtain ⟨b', o', hp', hb', hcellk⟩ := HD.out.grown HG.out k hkn
              simp only [Option.some.injEq, Addr.mk.injEq, and_true] at hp'
              obtain ⟨rfl, rfl⟩ := hp'
              obtain ⟨y, HY⟩ : ∃ y, Hid (xs.getD k 0 = y) := ⟨_, rfl⟩
              rw [HY.out] at hcellk
              have hjj : (j : Int) = k + m := by rw [← HJM.out]; omega
              have HJJ : Hid ((j : Int) = k + m) := hjj
              clear hjj
              by_cases hy : y = 48
              · subst hy
                by_cases hm1 : 1 < m
                · have hno : Hid (dgR xs k = none) := by show _ = _; rw [HEND.out, if_neg (fun h => h.2 ⟨HY.out, hm1⟩)]
                  have hgt : (k : Int) + 1 < j := by have := HJJ.out; omega
                  go_wp2
                  go_quiet (fail)
                  go_wp2
                  go_quiet (fail)
                  go_wp2
                  go_ret2
                  exact DgOut.no (.inr hno.out) j (by omega) (by rw [← HJM.out]; exact HJ.out) (upd_drewN HG.out _)
                · have hys : Hid (dgR xs k = some (V, j)) := by show _ = _; rw [HEND.out, if_pos ⟨by omega, fun h => hm1 h.2⟩, ← HV.out, HJM.out]
                  have hgt : ¬ (k : Int) + 1 < j := by have := HJJ.out; omega
                  go_wp2
                  go_quiet (fail)
                  go_wp2
                  go_quiet (fail)
                  go_wp2
                  go_ret2
                  exact DgOut.yes j hys.out (by omega) (by rw [← HJM.out]; exact HJ.out) (upd_drewN HG.out _)
              · have hys : Hid (dgR xs k = some (V, j)) := by show _ = _; rw [HEND.out, if_pos ⟨by omega, fun h => hy (HY.out.symm.trans h.1)⟩, ← HV.out, HJM.out]
                have hy' : (y == 48) = false := beq_eq_false_iff_ne.2 hy
                clear hy
                go_wp2
                go_quiet (fail)
                go_wp2
                go_quiet (fail)
                go_wp2
                go_ret2
                exact DgOut.yes j hys.out (by omega) (by rw [← HJM.out]; exact HJ.out) (upd_drewN HG.out _)
    · have HJM : Hid (k + m = j) := hj
      have hjn : j ≤ n := by omega
      clear hj
      have HEND : Hid (dgR xs k = if 0 < m ∧ ¬ (xs.getD k 0 = 48 ∧ 1 < m) then some (dvl xs k m, k + m) else none) :=
        dgR_end (by rw [HX.out]; exact hm) HI.out (by rw [HJM.out, HX.out]; exact fun h => hlt h.1) (by rw [← HV.out]; exact hV1)
      have hji : ¬ (j : Int) < n := by omega
      cases off with
      | true =>
        go_wp2
        go_quiet (fail)
        go_wp2
        go_ret2
        exact DgOut.no (.inl rfl) j (by omega) (by rw [← HJM.out]; exact HJ.out) (upd_drewN HG.out _)
      | false =>
        by_cases hm0 : m = 0
        · have hjk : ((j : Int) == k) = true := by rw [← HJM.out, hm0]; simp
          have hno : Hid (dgR xs k = none) := by show _ = _; rw [HEND.out, if_neg (by omega)]
          go_wp2
          go_quiet (fail)
          go_wp2
          go_ret2
          exact DgOut.no (.inr hno.out) j (by omega) (by rw [← HJM.out]; exact HJ.out) (upd_drewN HG.out _)
        · have hjk : ((j : Int) == k) = false := beq_eq_false_iff_ne.2 (by have := HJM.out; omega)
          have hkn : k < n := by have := HJM.out; omega
          have hkni : (k : Int) < n := by omega
          obtain ⟨b', o', hp', hb', hcellk⟩ := HD.out.grown HG.out k hkn
          subst hp'
          obtain ⟨y, HY⟩ : ∃ y, Hid (xs.getD k 0 = y) := ⟨_, rfl⟩
          rw [HY.out] at hcellk
          have hjj : (j : Int) = k + m := by rw [← HJM.out]; omega
          have HJJ : Hid ((j : Int) = k + m) := hjj
          clear hjj
          by_cases hy : y = 48
          · subst hy
            by_cases hm1 : 1 < m
            · have hno : Hid (dgR xs k = none) := by show _ = _; rw [HEND.out, if_neg (fun h => h.2 ⟨HY.out, hm1⟩)]
              have hgt : (k : Int) + 1 < j := by have := HJJ.out; omega
              go_wp2
              go_quiet (fail)
              go_wp2
              go_ret2
              exact DgOut.no (.inr hno.out) j (by omega) (by rw [← HJM.out]; exact HJ.out) (upd_drewN HG.out _)
            · have hys : Hid (dgR xs k = some (V, j)) := by show _ = _; rw [HEND.out, if_pos ⟨by omega, fun h => hm1 h.2⟩, ← HV.out, HJM.out]
              have hgt : ¬ (k : Int) + 1 < j := by have := HJJ.out; omega
              go_wp2
              go_quiet (fail)
              go_wp2
              go_ret2
              exact DgOut.yes j hys.out (by omega) (by rw [← HJM.out]; exact HJ.out) (upd_drewN HG.out _)
          · have hys : Hid (dgR xs k = some (V, j)) := by show _ = _; rw [HEND.out, if_pos ⟨by omega, fun h => hy (HY.out.symm.trans h.1)⟩, ← HV.out, HJM.out]
            have hy' : (y == 48) = false := beq_eq_false_iff_ne.2 hy
            clear hy
            go_wp2
            go_quiet (fail)
            go_wp2
            go_ret2
            exact DgOut.yes j hys.out (by omega) (by rw [← HJM.out]; exact HJ.out) (upd_drewN HG.out _)

/-- what Uint reads -/
def uiA (xs : List Int) : Option Nat → Option (Int × Nat)
  | none => none
  | some k => dgR xs (sk xs k)
def uiV (xs : List Int) (A : Option Nat) : Int := ((uiA xs A).map (·.1)).getD 0
def uiS (xs : List Int) (A : Option Nat) : Option Nat := (uiA xs A).map (·.2)

set_option maxHeartbeats 1000000 in
theorem uintA (R n c : Nat) (p : Option Addr) (xs : List Int) (A : Option Nat) (op : Bool) (w : World) (hn : n ≤ 2147483648) (hx : xs.length = n) (hS : RS w R p n c A op) (hD : Dat w p n xs R) :
    Calls Tryd.prog 23 #[.pointer (some ⟨R, 0, none⟩)] w fun e w' => e = .returned (.int .u64 (uiV xs A)) ∧ RS w' R p n c (uiS xs A) op ∧ w.grownBy w' (some R) := by
  have hsp := spaceA R n c p xs A op w hn hx hS hD
  have HSP : Hid (Calls Tryd.prog 35 #[.pointer (some ⟨R, 0, none⟩)] w fun e w' => e = .returned (.tuple #[]) ∧ RS w' R p n c (spA xs A) op ∧ w.grownBy w' (some R)) := hsp
  have HD : Hid (Dat w p n xs R) := hD
  have HX : Hid (xs.length = n) := hx
  clear hS hD hsp hx
  go_enter Tryd.func23, Tryd.ntmps23
  go_wp2_with fail
  refine HSP.out.mono ?_
  rintro e w1 ⟨rfl, ⟨k, hk, hR, hA⟩, hG1⟩
  have hdg := digits_any R n c k p (spA xs A).isNone op xs w1 hn HX.out hk hR (HD.out.grown hG1)
  have HDG : Hid (Calls Tryd.prog 37 #[.pointer (some ⟨R, 0, none⟩)] w1 fun e w' => DgOut xs R n c p k (spA xs A).isNone op w1 e w') := hdg
  have HA : Hid (∀ j, spA xs A = some j → j = k) := hA
  have HG1 : Hid (w.grownBy w1 (some R)) := hG1
  clear hR hdg hA hG1
  go_wp2_with fail
  refine HDG.out.mono ?_
  rintro e w2 ⟨⟨v, m, ho, hd, rfl, hm, hR2⟩ | ⟨ho, rfl, m, hm, hR2⟩, hG2⟩
  · have HQ : Hid (uiA xs A = some (v, m)) := by
      show _ = _
      cases A with
      | none => simp [spA] at ho
      | some a => rw [uiA, HA.out (sk xs a) rfl]; exact hd
    have HR2 : Hid (Rd w2 R (.slice p n c) m false op) := hR2
    have HG2 : Hid (w1.grownBy w2 (some R)) := hG2
    clear hR2 hG2 hd ho
    go_wp2_with fail
    go_ret
    unfold uiV uiS
    rw [HQ.out]
    exact ⟨rfl, RS.mk_some hm HR2.out, HG1.out.trans HG2.out⟩
  · have HQ : Hid (uiA xs A = none) := by
      show _ = _
      cases A with
      | none => rfl
      | some a =>
        rw [uiA, HA.out (sk xs a) rfl]
        rcases ho with ho | ho
        · simp [spA] at ho
        · exact ho
    have HR2 : Hid (Rd w2 R (.slice p n c) m (spA xs A).isNone op) := hR2
    have HG2 : Hid (w1.grownBy w2 (some R)) := hG2
    have c2 := hR2.c2
    have f2 := hR2.fz 2
    clear hR2 hG2 ho
    go_wp2_with fail
    go_ret
    unfold uiV uiS
    rw [HQ.out]
    exact ⟨rfl, RS.mk_none hm (HR2.out.set2 true), (HG1.out.trans HG2.out).trans (upd_set _ R 2 _)⟩
end Go.Proofs.Qxb6605662aDoor
