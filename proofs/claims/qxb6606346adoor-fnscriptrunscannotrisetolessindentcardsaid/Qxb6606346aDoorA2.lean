import Derived.Test.Qxb6606346aDoorA1
set_option linter.unusedVariables false
set_option linter.unusedSimpArgs false
namespace Go.Proofs.Qxb6606346aDoor
open Go.RowKit
theorem arr_nat {l : List Int} {c k : Int} {i : Nat} (h : c + k = i) : arr l c k = l.getD i 0 := by
  unfold arr
  rw [h]
  rfl
def FarI (A : Int → Int) (d : Nat) (n m k x y : Int) : Prop := (x = 0 ∧ y = 0 ∧ ∀ j, On d j → j < k → ¬ (A j ≤ n ∧ A j - j ≤ m)) ∨ ∃ j, On d j ∧ A j ≤ n ∧ A j - j ≤ m ∧ x = A j ∧ y = A j - j
set_option maxHeartbeats 2000000 in
/-- (*scripting).furthest -/
theorem furthest_any (S Fg : Nat) (fv tv ov Bv : Value) (D : Nat) (FL : List Int) (d c n m : Nat) (w : World) (hS : Sb w S fv tv ov (.slice (some ⟨Fg, 0, none⟩) D D) Bv) (hF : Ib w Fg FL) (hD : FL.length = D) (hc : d < c) (hcD : c + d < D) (hD2 : D ≤ 1000000)
    (hn : n ≤ 1000000) (hm : m ≤ 1000000)
    (hA : ∀ k, On d k → 0 ≤ arr FL c k ∧ k ≤ arr FL c k ∧ arr FL c k ≤ 1000000 + d ∧ 0 < 2 * arr FL c k - k) (hex : ∃ k, On d k ∧ arr FL c k ≤ n ∧ arr FL c k - k ≤ m) :
    Calls Tryd.prog 22 #[.pointer (some ⟨S, 0, none⟩), .int .i64 d, .int .i64 c, .int .i64 n, .int .i64 m] w fun e w' => (∃ k, On d k ∧ arr FL c k ≤ n ∧ arr FL c k - k ≤ m ∧ e = .returned (.tuple #[.int .i64 (arr FL c k), .int .i64 (arr FL c k - k)])) ∧ w' = w := by
  have c3 := hS.c3
  have HF : Hid (Ib w Fg FL) := hF
  have HD : Hid (FL.length = D) := hD
  have HA : Hid (∀ k, On d k → 0 ≤ arr FL c k ∧ k ≤ arr FL c k ∧ arr FL c k ≤ 1000000 + d ∧ 0 < 2 * arr FL c k - k) := hA
  have HE : Hid (∃ k, On d k ∧ arr FL c k ≤ n ∧ arr FL c k - k ≤ m) := hex
  clear hS hF hD hA hex
  obtain ⟨A, HAA⟩ : ∃ A, Hid (arr FL c = A) := ⟨_, rfl⟩
  rw [HAA.out] at HA HE
  rw [HAA.out]
  go_enter Tryd.func22, Tryd.ntmps22
  go_wp2
  go_loop [10, 11, 12] (fun a10 a11 a12 => ∃ (k x y : Int), -(d : Int) ≤ k ∧ k ≤ d + 2 ∧ Hid ((k - d) % 2 = 0) ∧ a12 = .int .i64 k ∧ a10 = .int .i64 x ∧ a11 = .int .i64 y ∧ 0 ≤ x ∧ x ≤ 2000000 ∧ 0 ≤ y ∧ y ≤ 4000000 ∧ Hid (FarI A d n m k x y)) (fun _ _ a12 => ((d : Int) + 2 - intOf a12).toNat)
  case atStart => exact ⟨-(d : Int), 0, 0, by omega, by omega, by show _ = _; omega, rfl, rfl, rfl, by omega, by omega, by omega, by omega, .inl ⟨rfl, rfl, fun j hj h => by have := hj.1; omega⟩⟩
  case round =>
    obtain ⟨k, x, y, hk1, hk2, HP, rfl, rfl, rfl, hx0, hx1, hy0, hy1, HI⟩ := hrel
    by_cases hkd : k ≤ d
    · have HO : Hid (On d k) := ⟨hk1, hkd, HP.out⟩
      obtain ⟨i, hi⟩ : ∃ i : Nat, (c : Int) + k = i := ⟨((c : Int) + k).toNat, by omega⟩
      have hiD : i < D := by omega
      have hcF := HF.out.c i (by rw [HD.out]; exact hiD)
      obtain ⟨v, HV⟩ : ∃ v, Hid (A k = v) := ⟨_, rfl⟩
      have hv := HA.out k HO.out
      rw [HV.out] at hv
      obtain ⟨hv0, hv1, hv2, hv3⟩ := hv
      have HVV : Hid (FL.getD i 0 = v) := by show _ = _; rw [← HV.out, ← HAA.out, arr_nat hi]
      rw [HVV.out] at hcF
      have hiDi : (i : Int) < D := by omega
      by_cases t1 : v ≤ n
      · by_cases t2 : v - k ≤ m
        · by_cases t3 : x + y < v + (v - k)
          · have HI2 : Hid (FarI A d n m (k + 2) v (v - k)) := .inr ⟨k, HO.out, by rw [HV.out]; exact t1, by rw [HV.out]; exact t2, HV.out.symm, by rw [HV.out]⟩
            go_wp2
            go_round
            case rel => exact ⟨k + 2, v, v - k, by omega, by omega, by have := HP.out; show _ = _; omega, by go_num, rfl, by go_num, by omega, by omega, by omega, by omega, HI2⟩
            case measure => simp [intOf]; omega
          · have HI2 : Hid (FarI A d n m (k + 2) x y) := by
              rcases HI.out with h | h
              · omega
              · exact .inr h
            go_wp2
            go_round
            case rel => exact ⟨k + 2, x, y, by omega, by omega, by have := HP.out; show _ = _; omega, by go_num, rfl, rfl, by omega, by omega, by omega, by omega, HI2⟩
            case measure => simp [intOf]; omega
        · have HI2 : Hid (FarI A d n m (k + 2) x y) := by
            rcases HI.out with h | h
            · refine .inl ⟨h.1, h.2.1, fun j hj hjk => ?_⟩
              by_cases e : j = k
              · subst e; rw [HV.out]; omega
              · exact h.2.2 j hj (by have := HP.out; have := hj.2.2; omega)
            · exact .inr h
          go_wp2
          go_round
          case rel => exact ⟨k + 2, x, y, by omega, by omega, by have := HP.out; show _ = _; omega, by go_num, rfl, rfl, by omega, by omega, by omega, by omega, HI2⟩
          case measure => simp [intOf]; omega
      · have HI2 : Hid (FarI A d n m (k + 2) x y) := by
          rcases HI.out with h | h
          · refine .inl ⟨h.1, h.2.1, fun j hj hjk => ?_⟩
            by_cases e : j = k
            · subst e; rw [HV.out]; omega
            · exact h.2.2 j hj (by have := HP.out; have := hj.2.2; omega)
          · exact .inr h
        go_wp2
        go_round
        case rel => exact ⟨k + 2, x, y, by omega, by omega, by have := HP.out; show _ = _; omega, by go_num, rfl, rfl, by omega, by omega, by omega, by omega, HI2⟩
        case measure => simp [intOf]; omega
    · go_wp2
      go_ret2
      refine ⟨?_, rfl⟩
      rcases HI.out with h | ⟨j, h1, h2, h3, rfl, rfl⟩
      · obtain ⟨j, h1, h2⟩ := HE.out
        exact absurd h2 (h.2.2 j h1 (by have := h1.2.1; omega))
      · exact ⟨j, h1, h2, h3, rfl⟩
end Go.Proofs.Qxb6606346aDoor
