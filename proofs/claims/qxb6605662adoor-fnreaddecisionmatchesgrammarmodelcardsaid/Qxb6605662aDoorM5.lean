import Derived.Test.Qxb6605662aDoorM4
import Derived.Test.Qxb6605662aDoorM2
set_option linter.unusedVariables false
set_option linter.unusedSimpArgs false
namespace Go.Proofs.Qxb6605662aDoor
open Go.RowKit

/-! ### tokens and the reader's steps -/
theorem isA_at (xs : List Int) (c : Int) (p : Nat) : isA xs c (some p) = (decide (sk xs p < xs.length) && xs.getD (sk xs p) 0 == c) := rfl
/-- a token of one sign: kind kk, sign c -/
theorem tk_sign {xs : List Int} {p : Nat} (kk : Nat) (c : Int) (hc : (c = 123 ∧ kk = 1) ∨ (c = 125 ∧ kk = 2) ∨ (c = 91 ∧ kk = 3) ∨ (c = 93 ∧ kk = 4) ∨ (c = 58 ∧ kk = 5) ∨ (c = 44 ∧ kk = 6)) :
    ((tk xs p).1 = kk ∧ isA xs c (some p) = true ∧ exA xs c (some p) = some (tk xs p).2.2.2 ∧ (tk xs p).2.2.2 = sk xs p + 1) ∨ ((tk xs p).1 ≠ kk ∧ isA xs c (some p) = false ∧ exA xs c (some p) = none) := by
  have key : ((tk xs p).1 = kk ∧ isA xs c (some p) = true ∧ (tk xs p).2.2.2 = sk xs p + 1) ∨ ((tk xs p).1 ≠ kk ∧ isA xs c (some p) = false) := by
    rw [isA_at]
    unfold tk tkJ
    by_cases hl : sk xs p < xs.length
    · rw [if_pos hl, decide_eq_true hl, Bool.true_and]
      generalize xs.getD (sk xs p) 0 = x
      by_cases hx : x = c
      · subst hx
        left
        rcases hc with ⟨rfl, rfl⟩ | ⟨rfl, rfl⟩ | ⟨rfl, rfl⟩ | ⟨rfl, rfl⟩ | ⟨rfl, rfl⟩ | ⟨rfl, rfl⟩ <;> simp
      · right
        refine ⟨?_, beq_eq_false_iff_ne.2 hx⟩
        have hq : ∀ o, (tkQ (sk xs p) o).1 = 7 ∨ (tkQ (sk xs p) o).1 = 0 := fun o => by
          cases o with
          | none => exact .inr rfl
          | some y => exact .inl rfl
        have hkk : kk ≠ 0 ∧ kk ≠ 7 ∧ kk ≠ 8 := by omega
        repeat' split
        all_goals first
          | (rcases hq (plR xs (sk xs p)) with h | h <;> rw [h] <;> omega)
          | (simp only; omega)
    · right
      rw [if_neg hl, decide_eq_false hl, Bool.false_and]
      exact ⟨by simp only; omega, rfl⟩
  unfold exA
  rcases key with ⟨h1, h2, h3⟩ | ⟨h1, h2⟩
  · left
    refine ⟨h1, h2, ?_, h3⟩
    rw [h2]
    simp only [if_true, spA, Option.map_some, h3]
  · right
    exact ⟨h1, h2, by rw [h2]; rfl⟩
/-- a string's token -/
theorem tk_str (xs : List Int) (p : Nat) : ((tk xs p).1 = 7 ∧ plR xs (sk xs p) = some ((tk xs p).2.1, (tk xs p).2.2.1) ∧ (tk xs p).2.2.2 = (tk xs p).2.2.1 + 1) ∨ ((tk xs p).1 ≠ 7 ∧ plR xs (sk xs p) = none) := by
  unfold tk tkJ
  by_cases hl : sk xs p < xs.length
  · rw [if_pos hl]
    by_cases hx : xs.getD (sk xs p) 0 = 34
    · simp only [hx]
      cases hp : plR xs (sk xs p) with
      | none => right; simp [tkQ]
      | some y => left; obtain ⟨s, q⟩ := y; simp [tkQ]
    · have hp : plR xs (sk xs p) = none := by unfold plR; rw [if_neg (fun h => hx h.2)]
      right
      refine ⟨?_, hp⟩
      rw [hp]
      repeat' split
      all_goals simp [tkQ]
  · right
    rw [if_neg hl]
    refine ⟨by simp, ?_⟩
    unfold plR; rw [if_neg (fun h => hl h.1)]
theorem dvl_sub (xs : List Int) (s q : Nat) : ∀ m, m ≤ q - s → dvl (sub xs s q) 0 m = dvl xs s m := by
  intro m
  induction m with
  | zero => intro _; rfl
  | succ m ih =>
    intro h
    rw [dvl, dvl, ih (by omega), Nat.zero_add, sub_at xs s q m (by omega)]
/-- a number's token -/
theorem tk_num {xs : List Int} {p : Nat} (hp : p ≤ xs.length) :
    ((tk xs p).1 = 8 ∧ (tk xs p).2.1 ≤ (tk xs p).2.2.1 ∧ (tk xs p).2.2.1 ≤ xs.length ∧ (tk xs p).2.2.2 = (tk xs p).2.2.1 ∧ (∀ i, (tk xs p).2.1 ≤ i → i < (tk xs p).2.2.1 → isd (xs.getD i 0) = true) ∧
      uiA xs (some p) = (pd (sub xs (tk xs p).2.1 (tk xs p).2.2.1)).map fun v => (v, (tk xs p).2.2.2)) ∨ ((tk xs p).1 ≠ 8 ∧ uiA xs (some p) = none) := by
  have hsk := sk_le xs p hp
  by_cases hd : sk xs p < xs.length ∧ isd (xs.getD (sk xs p) 0) = true
  · left
    have hdi := (isd_iff _).1 hd.2
    have e : tk xs p = (8, sk xs p, sk xs p + dN xs (sk xs p), sk xs p + dN xs (sk xs p)) := by
      unfold tk tkJ
      rw [if_pos hd.1, if_neg (by omega), if_neg (by omega), if_neg (by omega), if_neg (by omega), if_neg (by omega), if_neg (by omega), if_neg (by omega), hd.2]
      rfl
    have hall := dN_all xs _ (sk xs p) (Nat.le_refl _) hsk.2
    rw [e]
    refine ⟨rfl, by simp, hall.1, rfl, fun i h1 h2 => ?_, ?_⟩
    · have := hall.2 (i - sk xs p) (by simp only at h1 h2; omega)
      rw [show sk xs p + (i - sk xs p) = i by simp only at h1; omega] at this
      exact this
    · simp only [uiA]
      have hlen : (sub xs (sk xs p) (sk xs p + dN xs (sk xs p))).length = dN xs (sk xs p) := by rw [sub_length xs _ _ (by omega) hall.1]; omega
      have hpos : 0 < dN xs (sk xs p) := by rw [dN_step hd.1 hd.2]; omega
      have h0 : (sub xs (sk xs p) (sk xs p + dN xs (sk xs p))).getD 0 0 = xs.getD (sk xs p) 0 := by rw [sub_at xs _ _ 0 (by omega), Nat.add_zero]
      unfold dgR pd
      rw [hlen, h0, dvl_sub xs _ _ _ (by omega)]
      split <;> rfl
  · right
    have h0 : dN xs (sk xs p) = 0 := dN_stop hd
    refine ⟨?_, ?_⟩
    · unfold tk tkJ
      have hq : ∀ o, (tkQ (sk xs p) o).1 = 7 ∨ (tkQ (sk xs p) o).1 = 0 := fun o => by
        cases o with
        | none => exact .inr rfl
        | some y => exact .inl rfl
      repeat' split
      all_goals first
        | (rcases hq (plR xs (sk xs p)) with h | h <;> rw [h] <;> omega)
        | (simp only; omega)
        | (rename_i h1 _ _ _ _ _ _ _ h2; exact absurd ⟨h1, h2⟩ hd)
    · simp only [uiA]
      unfold dgR
      rw [h0, if_neg (by omega)]
/-- a token lies in the text -/
theorem tk_le {xs : List Int} {p : Nat} (hp : p ≤ xs.length) : p ≤ (tk xs p).2.2.2 ∧ (tk xs p).2.2.2 ≤ xs.length ∧ (tk xs p).2.1 ≤ (tk xs p).2.2.1 ∧ (tk xs p).2.2.1 ≤ xs.length := by
  have hsk := sk_le xs p hp
  unfold tk tkJ
  have hq : ∀ o, plR xs (sk xs p) = o → sk xs p ≤ (tkQ (sk xs p) o).2.2.2 ∧ (tkQ (sk xs p) o).2.2.2 ≤ xs.length ∧ (tkQ (sk xs p) o).2.1 ≤ (tkQ (sk xs p) o).2.2.1 ∧ (tkQ (sk xs p) o).2.2.1 ≤ xs.length := fun o ho => by
    cases o with
    | none => simp only [tkQ]; omega
    | some y =>
      obtain ⟨s, q⟩ := y
      have := plR_lt ho
      simp only [tkQ]; omega
  have hall := dN_all xs _ (sk xs p) (Nat.le_refl _) hsk.2
  have hpl := hq _ rfl
  repeat' split
  all_goals first
    | (simp only; omega)
    | omega
end Go.Proofs.Qxb6605662aDoor
