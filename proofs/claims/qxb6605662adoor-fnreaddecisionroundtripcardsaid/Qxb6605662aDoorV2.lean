import Derived.Test.Qxb6605662aDoorV1
import Derived.Deep.DeepBigQuietO
namespace Go.Proofs.Qxb6605662aDoor
open Go.RowKit

/-! ### plain: UTF-8, byte by byte -/
theorem vuF_enough : ∀ (f g : Nat) (l : List Int), l.length ≤ f → l.length ≤ g → vuF f l = vuF g l := by
  intro f
  induction f with
  | zero =>
    intro g l h1 h2
    obtain rfl : l = [] := List.eq_nil_of_length_eq_zero (by omega)
    cases g <;> rfl
  | succ f ih =>
    intro g l h1 h2
    cases l with
    | nil => cases g <;> rfl
    | cons c r =>
      cases g with
      | zero => simp at h2
      | succ g =>
        simp only [List.length_cons] at h1 h2
        rw [vuF, vuF, ih g r (by omega) (by omega)]
        cases cls c with
        | none => rfl
        | some x =>
          obtain ⟨m, lo, hi⟩ := x
          simp only
          rw [ih g (r.drop m) (by simp; omega) (by simp; omega)]
theorem vuF_vu (f : Nat) (l : List Int) (h : l.length ≤ f) : vuF f l = vu l := vuF_enough f l.length l h (Nat.le_refl _)
theorem drop_at (l : List Int) (k : Nat) (hk : k < l.length) : l.drop k = l.getD k 0 :: l.drop (k + 1) := by
  rw [List.drop_eq_getElem_cons hk, List.getD_eq_getElem?_getD, List.getElem?_eq_getElem hk]; rfl
theorem vu_end (l : List Int) (k : Nat) (hk : l.length ≤ k) : vu (l.drop k) = true := by rw [List.drop_eq_nil_of_le hk]; rfl
theorem vu_at_asc {l : List Int} {k : Nat} (hk : k < l.length) (h : l.getD k 0 < 128) : vu (l.drop k) = vu (l.drop (k + 1)) := by
  rw [drop_at l k hk, vu, List.length_cons, vuF, if_pos h, vuF_vu _ _ (Nat.le_refl _)]
theorem vu_at_none {l : List Int} {k : Nat} (hk : k < l.length) (h : ¬ l.getD k 0 < 128) (hc : cls (l.getD k 0) = none) : vu (l.drop k) = false := by
  rw [drop_at l k hk, vu, List.length_cons, vuF, if_neg h, hc]
theorem drop_getD (l : List Int) (k i : Nat) : (l.drop k).getD i 0 = l.getD (k + i) 0 := by
  simp [List.getD_eq_getElem?_getD]
theorem vu_at_some {l : List Int} {k m : Nat} {lo hi : Int} (hk : k < l.length) (h : ¬ l.getD k 0 < 128) (hc : cls (l.getD k 0) = some (m, lo, hi)) :
    vu (l.drop k) = if l.length < k + 1 + m ∨ l.getD (k + 1) 0 < lo ∨ hi < l.getD (k + 1) 0 ∨ (((l.drop (k + 1)).take m).drop 1).all cont = false then false else vu (l.drop (k + 1 + m)) := by
  rw [drop_at l k hk, vu, List.length_cons, vuF, if_neg h, hc]
  simp only
  rw [drop_getD, Nat.add_zero, List.drop_drop, vuF_vu _ _ (by simp; omega)]
  by_cases e : l.length < k + 1 + m
  · rw [if_pos (.inl (by simp; omega)), if_pos (.inl e)]
  · have e2 : ¬ (l.drop (k + 1)).length < m := by simp; omega
    simp only [e, e2, false_or]
theorem cont_iff (x : Int) : cont x = true ↔ 128 ≤ x ∧ x ≤ 191 := by unfold cont; simp
theorem cont_no (x : Int) : cont x = false ↔ x < 128 ∨ 191 < x := by rw [← Bool.not_eq_true, cont_iff]; omega
/-- the bytes behind the second: one, or two -/
theorem conts1 (l : List Int) (k : Nat) : (((l.drop (k + 1)).take 1).drop 1).all cont = true := by
  have : ((l.drop (k + 1)).take 1).drop 1 = [] := List.drop_eq_nil_of_le (by simp; omega)
  rw [this]; rfl
theorem conts2 (l : List Int) (k : Nat) (h : k + 3 ≤ l.length) : (((l.drop (k + 1)).take 2).drop 1).all cont = cont (l.getD (k + 2) 0) := by
  rw [drop_at l (k + 1) (by omega), drop_at l (k + 1 + 1) (by omega)]
  simp
theorem conts3 (l : List Int) (k : Nat) (h : k + 4 ≤ l.length) : (((l.drop (k + 1)).take 3).drop 1).all cont = (cont (l.getD (k + 2) 0) && cont (l.getD (k + 3) 0)) := by
  rw [drop_at l (k + 1) (by omega), drop_at l (k + 1 + 1) (by omega), drop_at l (k + 1 + 1 + 1) (by omega)]
  simp
theorem vu_skip {l : List Int} (j : Nat) : ∀ k, k + j ≤ l.length → (∀ i, i < j → l.getD (k + i) 0 < 128) → vu (l.drop k) = vu (l.drop (k + j)) := by
  induction j with
  | zero => intro k _ _; rfl
  | succ j ih =>
    intro k hk h
    have h0 := h 0 (by omega)
    rw [vu_at_asc (k := k) (by omega) (by simpa using h0), ih (k + 1) (by omega) (fun i hi => by rw [show k + 1 + i = k + (i + 1) by omega]; exact h (i + 1) (by omega)), show k + 1 + j = k + (j + 1) by omega]

/-! ### the two tables -/
def ft (i : Nat) : Int := (Go.Pinned.utf8FirstZ.getD i 0 : Nat)
def aLo (j : Nat) : Int := [128, 160, 128, 144, 128].getD j 0
def aHi (j : Nat) : Int := [191, 191, 159, 191, 143].getD j 0
structure Tabs (w : World) : Prop where
  first : ∀ i, i < 256 → w.cell? ⟨0, i, none⟩ = some (.int .u8 (ft i))
  lo : ∀ j, j < 16 → w.cell? ⟨1, 2 * j, none⟩ = some (.int .u8 (aLo j))
  hi : ∀ j, j < 16 → w.cell? ⟨1, 2 * j + 1, none⟩ = some (.int .u8 (aHi j))
theorem Tabs.keep {w w' : World} (h : Tabs w) (hc : ∀ a v, w.cell? a = some v → a.block ≤ 1 → w'.cell? a = some v) : Tabs w' :=
  ⟨fun i hi => hc _ _ (h.first i hi) (by simp), fun j hj => hc _ _ (h.lo j hj) (by simp), fun j hj => hc _ _ (h.hi j hj) (by simp)⟩
theorem Tabs.below {w w' : World} (h : Tabs w) (hb : Below w.heap.size w w') : Tabs w' := h.keep fun _ _ hc _ => (hb.cell (World.block_lt_of_cell? _ _ hc)).trans hc
/-- what the table says of a first byte from 128 on, and what cls says -/
def leadB (c : Nat) : Bool :=
  match cls (c : Int) with
  | none => ft c == 241
  | some (m, lo, hi) => decide (ft c = 2 ∧ m = 1 ∧ lo = 128 ∧ hi = 191 ∨ ft c = 19 ∧ m = 2 ∧ lo = 160 ∧ hi = 191 ∨ ft c = 3 ∧ m = 2 ∧ lo = 128 ∧ hi = 191 ∨ ft c = 35 ∧ m = 2 ∧ lo = 128 ∧ hi = 159 ∨ ft c = 52 ∧ m = 3 ∧ lo = 144 ∧ hi = 191 ∨ ft c = 4 ∧ m = 3 ∧ lo = 128 ∧ hi = 191 ∨ ft c = 68 ∧ m = 3 ∧ lo = 128 ∧ hi = 143)
theorem lead_all : ((List.range 256).all fun c => decide (c < 128) || leadB c) = true := by decide +kernel
theorem lead_of (c : Int) (h0 : 128 ≤ c) (h1 : c < 256) : (cls c = none ∧ ft c.toNat = 241) ∨ (∃ m lo hi, cls c = some (m, lo, hi) ∧
    (ft c.toNat = 2 ∧ m = 1 ∧ lo = 128 ∧ hi = 191 ∨ ft c.toNat = 19 ∧ m = 2 ∧ lo = 160 ∧ hi = 191 ∨ ft c.toNat = 3 ∧ m = 2 ∧ lo = 128 ∧ hi = 191 ∨ ft c.toNat = 35 ∧ m = 2 ∧ lo = 128 ∧ hi = 159 ∨ ft c.toNat = 52 ∧ m = 3 ∧ lo = 144 ∧ hi = 191 ∨ ft c.toNat = 4 ∧ m = 3 ∧ lo = 128 ∧ hi = 191 ∨ ft c.toNat = 68 ∧ m = 3 ∧ lo = 128 ∧ hi = 143)) := by
  obtain ⟨n, rfl⟩ : ∃ n : Nat, c = n := ⟨c.toNat, by omega⟩
  have h := List.all_eq_true.1 lead_all n (List.mem_range.2 (by omega))
  simp only [Int.toNat_natCast]
  have hb : leadB n = true := by simpa [show ¬ n < 128 by omega] using h
  unfold leadB at hb
  cases hc : cls (n : Int) with
  | none => rw [hc] at hb; exact .inl ⟨rfl, by simpa using hb⟩
  | some x =>
    obtain ⟨m, lo, hi⟩ := x
    rw [hc] at hb
    exact .inr ⟨m, lo, hi, rfl, of_decide_eq_true hb⟩
end Go.Proofs.Qxb6605662aDoor
