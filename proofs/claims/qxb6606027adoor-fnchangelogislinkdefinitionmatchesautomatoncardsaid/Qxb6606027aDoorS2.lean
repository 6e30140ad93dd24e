import Derived.Test.Qxb6606027aDoorS1
namespace Go.Proofs.Qxb6606027aDoor
open Go.RowKit

/-! ### trimBlanks -/
/-- the length without the blanks at the end -/
def body (xs : List Int) : Nat := xs.length - (xs.reverse.takeWhile bl).length
theorem body_of (xs : List Int) (k : Nat) (h : ∀ j, k ≤ j → j < xs.length → bl (xs.getD j 0) = true) (hk : k ≤ xs.length) (hs : k = 0 ∨ bl (xs.getD (k - 1) 0) = false) : body xs = k := by
  have : lead xs.reverse = xs.length - k := by
    refine lead_of xs.reverse (xs.length - k) (fun j hj => ?_) (by simp) ?_
    · have hj' : j < xs.length := by omega
      rw [List.getD_eq_getElem?_getD, List.getElem?_reverse hj', ← List.getD_eq_getElem?_getD]
      exact h _ (by omega) (by omega)
    · rcases hs with rfl | hs
      · exact .inl (by simp)
      · by_cases hk0 : k = 0
        · exact .inl (by simp [hk0])
        · refine .inr ?_
          rw [List.getD_eq_getElem?_getD, List.getElem?_reverse (by omega), ← List.getD_eq_getElem?_getD, show xs.length - 1 - (xs.length - k) = k - 1 from by omega]
          exact hs
  unfold body
  unfold lead at this
  omega
theorem body_le (xs : List Int) : body xs ≤ xs.length := by unfold body; omega

set_option maxHeartbeats 2000000 in
theorem trimBlanks_any (b o n c : Nat) (xs : List Int) (w : World) (hn0 : 0 < n) (h : Sl w (some ⟨b, o, none⟩) n c xs) :
    Calls Tryd.prog 29 #[.slice (some ⟨b, o, none⟩) n c] w fun e w' => e = .returned (Lib.fromV (some ⟨b, o, none⟩) (body xs) c (lead (xs.take (body xs)))) ∧ w' = w := by
  have hnc := h.cap
  have hcb := h.top
  have hle : body xs ≤ n := by have := body_le xs; rw [h.len] at this; exact this
  have HX : Hid (xs.length = n) := h.len
  have HC : Hid (∀ i, i < n → w.cell? ⟨b, o + i, none⟩ = some (.int .u8 (xs.getD i 0))) := by
    obtain ⟨b', o', e, hc⟩ := h.at hn0
    cases e
    exact hc
  have HT : Hid (Calls Tryd.prog 23 #[.slice (some ⟨b, o, none⟩) (body xs) c] w fun e w' => e = .returned (Lib.fromV (some ⟨b, o, none⟩) (body xs) c (lead (xs.take (body xs)))) ∧ w' = w) := trimIndent_any _ _ _ _ w (h.take _ hle)
  clear h
  generalize Lib.fromV (some ⟨b, o, none⟩) (body xs) c (lead (xs.take (body xs))) = V at HT ⊢
  obtain ⟨B, HB⟩ : ∃ B, Hid (body xs = B) := ⟨_, rfl⟩
  rw [HB.out] at HT hle
  go_enter Tryd.func29, Tryd.ntmps29
  go_wp2
  go_loop [3] (fun s => ∃ k : Nat, k ≤ n ∧ s = .int .i64 k ∧ Hid (∀ j, k ≤ j → j < n → bl (xs.getD j 0) = true)) (fun i => (intOf i).toNat)
  case atStart => exact ⟨n, Nat.le_refl _, rfl, fun j h1 h2 => absurd h1 (by omega)⟩
  case round =>
    obtain ⟨k, hk, rfl, HK⟩ := hrel
    have HF : Hid ((k = 0 ∨ bl (xs.getD (k - 1) 0) = false) → B = k) := fun hs => by
      rw [← HB.out]; exact body_of xs k (by rw [HX.out]; exact HK.out) (by rw [HX.out]; exact hk) hs
    by_cases hk0 : k = 0
    · subst hk0
      obtain rfl : B = 0 := HF.out (.inl rfl)
      go_wp2_with fail
      refine HT.out.mono ?_
      rintro e w' ⟨rfl, hw⟩
      obtain rfl := hw.symm
      go_wp2
      go_ret
      exact ⟨rfl, rfl⟩
    · obtain ⟨m, rfl⟩ : ∃ m, k = m + 1 := ⟨k - 1, by omega⟩
      obtain ⟨x, HXK⟩ : ∃ x, Hid (xs.getD m 0 = x) := ⟨_, rfl⟩
      have hck := HC.out m (by omega)
      rw [HXK.out] at hck
      have hm0 : (0 : Int) < (m : Int) + 1 := by omega
      have hmn : (m : Int) < (n : Int) := by omega
      have hsub : (m : Int) + 1 - 1 = m := by omega
      by_cases hb : x = 32 ∨ x = 9
      · have HK2 : Hid (∀ j, m ≤ j → j < n → bl (xs.getD j 0) = true) := fun j h1 h2 => by
          by_cases e : j = m
          · rw [e, HXK.out]; exact bl_yes hb
          · exact HK.out j (by omega) h2
        rcases hb with rfl | rfl
        all_goals
          go_wp2
          go_round
          case rel => exact ⟨m, by omega, by first | rfl | go_num, HK2⟩
          case measure => simp [intOf]
      · have q1 : (x == 32) = false := beq_eq_false_iff_ne.2 (fun e => hb (.inl e))
        have q2 : (x == 9) = false := beq_eq_false_iff_ne.2 (fun e => hb (.inr e))
        obtain rfl : B = m + 1 := HF.out (.inr (by show bl (xs.getD m 0) = false; rw [HXK.out]; exact bl_no (fun e => hb (.inl e)) (fun e => hb (.inr e))))
        clear hb HF
        have hmc : (m : Int) + 1 ≤ (c : Int) := by omega
        go_wp2_with fail
        refine HT.out.mono ?_
        rintro e w' ⟨rfl, hw⟩
        obtain rfl := hw.symm
        go_wp2
        go_ret
        exact ⟨rfl, rfl⟩

/-! ### indentation -/
def IndE (xs : List Int) (e : Ending) : Prop := ∃ r : Int, e = .returned (.int .i64 r) ∧ 0 ≤ r ∧ (r = 0 ↔ lead xs = 0)
set_option maxHeartbeats 2000000 in
theorem indentation_any (b o n c : Nat) (xs : List Int) (w : World) (hn0 : 0 < n) (hnb : n ≤ 1048576) (h : Sl w (some ⟨b, o, none⟩) n c xs) :
    Calls Tryd.prog 30 #[.slice (some ⟨b, o, none⟩) n c] w fun e w' => IndE xs e ∧ w' = w := by
  have HX : Hid (xs.length = n) := h.len
  have HC : Hid (∀ i, i < n → w.cell? ⟨b, o + i, none⟩ = some (.int .u8 (xs.getD i 0))) := by
    obtain ⟨b', o', e, hc⟩ := h.at hn0
    cases e
    exact hc
  clear h
  go_enter Tryd.func30, Tryd.ntmps30
  go_wp2
  go_loop [3, 8] (fun s i => ∃ (k : Nat) (r : Int), k ≤ n ∧ s = .int .i64 r ∧ i = .int .i64 k ∧ Hid (∀ j, j < k → bl (xs.getD j 0) = true) ∧ (k : Int) ≤ r ∧ r ≤ 4 * k) (fun _ i => n - (intOf i).toNat)
  case atStart => exact ⟨0, 0, by omega, rfl, rfl, fun j hj => absurd hj (by omega), by omega, by omega⟩
  case round =>
    obtain ⟨k, r, hk, rfl, rfl, HK, hr0, hr1⟩ := hrel
    have HF : Hid ((k = n ∨ bl (xs.getD k 0) = false) → lead xs = k) := fun hs =>
      lead_of xs k HK.out (by rw [HX.out]; exact hk) (by rw [HX.out]; exact hs)
    by_cases hlt : k < n
    · obtain ⟨x, HXK⟩ : ∃ x, Hid (xs.getD k 0 = x) := ⟨_, rfl⟩
      have hck := HC.out k (by omega)
      rw [HXK.out] at hck
      have hki : (k : Int) < (n : Int) := by omega
      by_cases hb : x = 32 ∨ x = 9
      · have HK2 : Hid (∀ j, j < k + 1 → bl (xs.getD j 0) = true) := fun j hj => by
          by_cases e : j = k
          · rw [e, HXK.out]; exact bl_yes hb
          · exact HK.out j (by omega)
        rcases hb with rfl | rfl
        · go_wp2
          go_round
          case rel => exact ⟨k + 1, r + 1, by omega, by first | rfl | go_num, by go_num, HK2, by omega, by omega⟩
          case measure => simp [intOf]; omega
        · obtain ⟨t, ht, ht0, ht1⟩ : ∃ t, r.tmod 4 = t ∧ 0 ≤ t ∧ t < 4 := ⟨_, rfl, Int.tmod_nonneg _ (by omega), Int.tmod_lt_of_pos _ (by omega)⟩
          go_wp2
          go_round
          case rel => exact ⟨k + 1, r + (4 - t), by omega, by first | rfl | go_num, by go_num, HK2, by omega, by omega⟩
          case measure => simp [intOf]; omega
      · have q1 : (x == 32) = false := beq_eq_false_iff_ne.2 (fun e => hb (.inl e))
        have q2 : (x == 9) = false := beq_eq_false_iff_ne.2 (fun e => hb (.inr e))
        have HL : Hid (lead xs = k) := HF.out (.inr (by rw [HXK.out]; exact bl_no (fun e => hb (.inl e)) (fun e => hb (.inr e))))
        clear hb HF
        go_wp2
        go_ret
        exact ⟨⟨r, rfl, by omega, by rw [HL.out]; omega⟩, rfl⟩
    · have HL : Hid (lead xs = k) := HF.out (.inl (by omega))
      clear HF
      go_wp2
      go_ret
      exact ⟨⟨r, rfl, by omega, by rw [HL.out]; omega⟩, rfl⟩
end Go.Proofs.Qxb6606027aDoor
