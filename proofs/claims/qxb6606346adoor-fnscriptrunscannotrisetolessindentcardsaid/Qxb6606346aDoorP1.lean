import Derived.Test.Qxb6606346aDoorChecked
set_option linter.unusedVariables false
set_option linter.unusedSimpArgs false
namespace Go.Proofs.Qxb6606346aDoor
/-! ### The two searches of middleSnake, in plain terms -/
/-- where the path on diagonal k begins its d-th step -/
def pick (A : Int → Int) (d k : Int) : Int := if k = -d ∨ (k ≠ d ∧ A (k - 1) < A (k + 1)) then A (k + 1) else A (k - 1) + 1
/-- the value on diagonal k is picked from its neighbours and runs along shared lines -/
def Stp (n m : Int) (A : Int → Int) (d k : Int) : Prop := pick A d k ≤ A k ∧ (A k = pick A d k ∨ (A k ≤ n ∧ A k - k ≤ m))
/-- k is a diagonal of step d -/
def On (d k : Int) : Prop := -d ≤ k ∧ k ≤ d ∧ (k - d) % 2 = 0
structure Front (n m : Int) (A : Int → Int) (d : Int) : Prop where
  pos : ∀ k, On d k → 0 ≤ A k ∧ k ≤ A k ∧ d ≤ 2 * A k - k
  up : ∀ k, On d k → A k ≤ n + d
  lo : A (-d) ≤ n
  hi : A d - d ≤ m
  xs : ∀ k, On d k → k + 2 ≤ d → A (k + 2) ≤ n ∨ A (k + 2) ≤ A k + 1
  ys : ∀ k, On d k → k + 2 ≤ d → A k - k ≤ m ∨ A k - k ≤ A (k + 2) - (k + 2) + 1
/-- on the diagonals that step d has tested, the paths stand inside -/
def Ins (n m e : Int) (A : Int → Int) (d : Int) : Prop := ∀ k, On d k → -(d - e) ≤ n - m - k → n - m - k ≤ d - e → A k < n ∧ A k - k < m

theorem On.neg {d : Int} (h : 0 ≤ d) : On d (-d) := ⟨by omega, by omega, by omega⟩
theorem On.pos {d : Int} (h : 0 ≤ d) : On d d := ⟨by omega, by omega, by omega⟩

theorem Stp.congr {n m d k : Int} {A A' : Int → Int} (h : Stp n m A d k) (h0 : A' k = A k) (h1 : A' (k - 1) = A (k - 1)) (h2 : A' (k + 1) = A (k + 1)) : Stp n m A' d k := by
  unfold Stp pick at *
  rw [h0, h1, h2]
  exact h

theorem pick_congr {d k : Int} {A A' : Int → Int} (h1 : A' (k - 1) = A (k - 1)) (h2 : A' (k + 1) = A (k + 1)) : pick A' d k = pick A d k := by
  unfold pick
  rw [h1, h2]

theorem Front.congr {n m d : Int} {A A' : Int → Int} (h : Front n m A d) (hd : 0 ≤ d) (he : ∀ k, On d k → A' k = A k) : Front n m A' d := by
  refine ⟨fun k hk => by rw [he k hk]; exact h.pos k hk, fun k hk => by rw [he k hk]; exact h.up k hk, by rw [he _ (On.neg hd)]; exact h.lo, by rw [he _ (On.pos hd)]; exact h.hi, fun k hk h2 => ?_, fun k hk h2 => ?_⟩
  · have hk2 : On d (k + 2) := ⟨by have := hk.1; omega, h2, by have := hk.2.2; omega⟩
    rw [he k hk, he _ hk2]; exact h.xs k hk h2
  · have hk2 : On d (k + 2) := ⟨by have := hk.1; omega, h2, by have := hk.2.2; omega⟩
    rw [he k hk, he _ hk2]; exact h.ys k hk h2
theorem Ins.congr {n m e d : Int} {A A' : Int → Int} (h : Ins n m e A d) (he : ∀ k, On d k → A' k = A k) : Ins n m e A' d := fun k hk h1 h2 => by rw [he k hk]; exact h k hk h1 h2

theorem pick_spec (A : Int → Int) {d k : Int} (hd : 0 ≤ d) (hk : On (d + 1) k) :
    ((On d (k + 1) ∧ pick A (d + 1) k = A (k + 1)) ∨ (On d (k - 1) ∧ pick A (d + 1) k = A (k - 1) + 1)) ∧ (On d (k + 1) → A (k + 1) ≤ pick A (d + 1) k) ∧ (On d (k - 1) → A (k - 1) + 1 ≤ pick A (d + 1) k) := by
  obtain ⟨h1, h2, h3⟩ := hk
  unfold pick On
  by_cases c1 : k = -(d + 1)
  · rw [if_pos (.inl c1)]
    refine ⟨.inl ⟨⟨by omega, by omega, by omega⟩, rfl⟩, fun _ => by omega, fun h => by omega⟩
  · by_cases c2 : k = d + 1
    · rw [if_neg (by omega)]
      refine ⟨.inr ⟨⟨by omega, by omega, by omega⟩, rfl⟩, fun h => by omega, fun _ => by omega⟩
    · by_cases c3 : A (k - 1) < A (k + 1)
      · rw [if_pos (.inr ⟨c2, c3⟩)]
        refine ⟨.inl ⟨⟨by omega, by omega, by omega⟩, rfl⟩, fun _ => by omega, fun _ => by omega⟩
      · rw [if_neg (by omega)]
        refine ⟨.inr ⟨⟨by omega, by omega, by omega⟩, rfl⟩, fun _ => by omega, fun _ => by omega⟩

theorem pick_pos {n m : Int} {A : Int → Int} {d k : Int} (hd : 0 ≤ d) (F : Front n m A d) (hk : On (d + 1) k) :
    0 ≤ pick A (d + 1) k ∧ k ≤ pick A (d + 1) k ∧ d + 1 ≤ 2 * pick A (d + 1) k - k ∧ pick A (d + 1) k ≤ n + (d + 1) := by
  obtain ⟨h | h, _, _⟩ := pick_spec A hd hk
  · have a := F.pos _ h.1
    have b := F.up _ h.1
    rw [h.2]
    omega
  · have a := F.pos _ h.1
    have b := F.up _ h.1
    rw [h.2]
    omega

theorem front_zero {n m : Int} {A : Int → Int} (hn : 0 ≤ n) (hm : 0 ≤ m) (h0 : A 0 = 0) : Front n m A 0 := by
  have hk : ∀ k, On 0 k → k = 0 := fun k h => by have := h.1; have := h.2.1; omega
  refine ⟨fun k h => by rw [hk k h, h0]; omega, fun k h => by rw [hk k h, h0]; omega, by rw [show (-0 : Int) = 0 from rfl, h0]; omega, by rw [h0]; omega, fun k h h2 => by have := hk k h; omega, fun k h h2 => by have := hk k h; omega⟩

theorem front_next {n m : Int} {A : Int → Int} {d : Int} (hn : 0 ≤ n) (hm : 0 ≤ m) (hd : 0 ≤ d) (F : Front n m A d) (hs : ∀ k, On (d + 1) k → Stp n m A (d + 1) k) : Front n m A (d + 1) := by
  refine ⟨fun k hk => ?_, fun k hk => ?_, ?_, ?_, fun k hk h2 => ?_, fun k hk h2 => ?_⟩
  · have a := pick_pos hd F hk
    have b := (hs k hk).1
    omega
  · have a := pick_pos hd F hk
    have b := (hs k hk).2
    omega
  · have hk : On (d + 1) (-(d + 1)) := On.neg (by omega)
    rcases (hs _ hk).2 with h | h
    · rw [h]
      have hp : pick A (d + 1) (-(d + 1)) = A (-(d + 1) + 1) := by unfold pick; rw [if_pos (.inl rfl)]
      have : -(d + 1) + 1 = -d := by omega
      rw [hp, this]
      exact F.lo
    · exact h.1
  · have hk : On (d + 1) (d + 1) := On.pos (by omega)
    rcases (hs _ hk).2 with h | h
    · rw [h]
      have hp : pick A (d + 1) (d + 1) = A (d + 1 - 1) + 1 := by unfold pick; rw [if_neg (by omega)]
      have : d + 1 - 1 = d := by omega
      rw [hp, this]
      have := F.hi
      omega
    · exact h.2
  · have hk2 : On (d + 1) (k + 2) := ⟨by have := hk.1; omega, h2, by have := hk.2.2; omega⟩
    have hm1 : On d (k + 1) := ⟨by have := hk.1; omega, by omega, by have := hk.2.2; omega⟩
    have a := (pick_spec A hd hk).2.1 hm1
    have b := (hs k hk).1
    rcases (hs _ hk2).2 with h | h
    · obtain ⟨c | c, _, _⟩ := pick_spec A hd hk2
      · rw [h, c.2]
        have e3 : k + 2 + 1 = k + 1 + 2 := by omega
        rw [e3] at c ⊢
        rcases F.xs (k + 1) hm1 (by have := c.1.2.1; omega) with q | q
        · exact .inl q
        · exact .inr (by omega)
      · rw [h, c.2]
        have e3 : k + 2 - 1 = k + 1 := by omega
        rw [e3]
        exact .inr (by omega)
    · exact .inl h.1
  · have hk2 : On (d + 1) (k + 2) := ⟨by have := hk.1; omega, h2, by have := hk.2.2; omega⟩
    have hm1 : On d (k + 1) := ⟨by have := hk.1; omega, by omega, by have := hk.2.2; omega⟩
    have e3 : k + 2 - 1 = k + 1 := by omega
    have a := (pick_spec A hd hk2).2.2 (by rw [e3]; exact hm1)
    rw [e3] at a
    have b := (hs _ hk2).1
    rcases (hs _ hk).2 with h | h
    · obtain ⟨c | c, _, _⟩ := pick_spec A hd hk
      · rw [h, c.2]
        exact .inr (by omega)
      · rw [h, c.2]
        have e4 : k - 1 + 2 = k + 1 := by omega
        rcases F.ys (k - 1) c.1 (by have := hm1.2.1; omega) with q | q
        · exact .inl (by omega)
        · rw [e4] at q
          exact .inr (by omega)
    · exact .inl h.2

/-- where a tested diagonal's step begins lies in the window, and not at its end -/
theorem box {n m e : Int} {A : Int → Int} {d k : Int} (F : Front n m A d) (hd : 0 ≤ d) (he : e = 0 ∨ e = 1) (hpar : (n - m + e) % 2 = 0) (ins : Ins n m e A d) (h0 : d = 0 → A 0 = 0) (hn : 1 ≤ n) (hm : 1 ≤ m)
    (hk : On (d + 1) k) (h1 : -(d + 1 - e) ≤ n - m - k) (h2 : n - m - k ≤ d + 1 - e) :
    pick A (d + 1) k ≤ n ∧ pick A (d + 1) k - k ≤ m ∧ ¬ (pick A (d + 1) k = n ∧ pick A (d + 1) k - k = m) := by
  have hk3 := hk.2.2
  obtain ⟨c | c, _, _⟩ := pick_spec A hd hk
  · rw [c.2]
    by_cases t : -(d - e) ≤ n - m - (k + 1)
    · have := ins _ c.1 t (by omega)
      omega
    · have e1 : k + 1 = n - m + (d + 2 - e) := by omega
      have hx : A (k + 1) ≤ n := by
        by_cases b : -d ≤ k + 1 - 2
        · have hj : On d (k + 1 - 2) := ⟨b, by have := c.1.2.1; omega, by omega⟩
          have u1 := c.1.2.1
          have i1 := ins _ hj (by omega) (by omega)
          have x1 := F.xs _ hj (by have := c.1.2.1; omega)
          have e2 : k + 1 - 2 + 2 = k + 1 := by omega
          rw [e2] at x1
          omega
        · have e2 : k + 1 = -d := by have := c.1.1; have := c.1.2.2; omega
          rw [e2]
          exact F.lo
      refine ⟨hx, by omega, fun ⟨q1, q2⟩ => ?_⟩
      have hd0 : d = 0 := by omega
      have hz := h0 hd0
      have : k + 1 = 0 := by have := c.1.1; have := c.1.2.1; omega
      rw [this] at q1
      omega
  · rw [c.2]
    by_cases t : n - m - (k - 1) ≤ d - e
    · have := ins _ c.1 (by omega) t
      omega
    · have e1 : k - 1 = n - m - (d + 2 - e) := by omega
      have hy : A (k - 1) - (k - 1) ≤ m := by
        by_cases b : k - 1 + 2 ≤ d
        · have hj : On d (k - 1 + 2) := ⟨by have := c.1.1; omega, b, by omega⟩
          have u1 := c.1.1
          have i1 := ins _ hj (by omega) (by omega)
          have y1 := F.ys _ c.1 b
          omega
        · have e2 : k - 1 = d := by have := c.1.2.1; have := c.1.2.2; omega
          rw [e2]
          exact F.hi
      refine ⟨by omega, by omega, fun ⟨q1, q2⟩ => ?_⟩
      have hd0 : d = 0 := by omega
      have hz := h0 hd0
      have : k - 1 = 0 := by have := c.1.1; have := c.1.2.1; omega
      rw [this] at q1 q2
      omega

/-- a path that has come d steps stands in the window -/
theorem far_some {n m e : Int} {A : Int → Int} {d : Int} (F : Front n m A d) (hd : 1 ≤ d) (he : e = 0 ∨ e = 1) (hpar : (n - m + e) % 2 = 0) (ins : Ins n m e A d) : ∃ k, On d k ∧ A k ≤ n ∧ A k - k ≤ m := by
  by_cases c1 : 2 * d - e < n - m
  · refine ⟨d, On.pos (by omega), ?_, F.hi⟩
    have := F.hi
    omega
  by_cases c2 : n - m < -(2 * d - e)
  · refine ⟨-d, On.neg (by omega), F.lo, ?_⟩
    have := F.lo
    omega
  by_cases c3 : 0 ≤ n - m
  · have hj : On d (n - m - (d - e)) := ⟨by omega, by omega, by omega⟩
    have := ins _ hj (by omega) (by omega)
    exact ⟨_, hj, by omega, by omega⟩
  · have hj : On d (n - m + (d - e)) := ⟨by omega, by omega, by omega⟩
    have := ins _ hj (by omega) (by omega)
    exact ⟨_, hj, by omega, by omega⟩

/-- the diagonal on which the searches meet at the latest -/
def kst (n m d e : Int) : Int := if 0 ≤ n - m then n - m - (d - e) else n - m + (d - e)
theorem kst_on {n m d e : Int} (hn : 1 ≤ n) (hm : 1 ≤ m) (he : e = 0 ∨ e = 1) (hd : 2 * d = n + m + e) : On d (kst n m d e) ∧ -(d - e) ≤ n - m - kst n m d e ∧ n - m - kst n m d e ≤ d - e := by
  unfold kst On
  split <;> omega

/-! ### an array as a function of the diagonal -/
def arr (l : List Int) (c : Int) : Int → Int := fun k => l.getD (c + k).toNat 0
theorem arr_same (l : List Int) (c k v : Int) (h0 : 0 ≤ c + k) (h1 : c + k < l.length) : arr (l.set (c + k).toNat v) c k = v := by
  unfold arr
  rw [List.getD_eq_getElem?_getD, List.getElem?_set_self (by omega)]
  rfl
theorem arr_other (l : List Int) (c k j v : Int) (h0 : 0 ≤ c + k) (h1 : 0 ≤ c + j) (h : j ≠ k) : arr (l.set (c + k).toNat v) c j = arr l c j := by
  unfold arr
  rw [List.getD_eq_getElem?_getD, List.getElem?_set_ne (by omega), ← List.getD_eq_getElem?_getD]
end Go.Proofs.Qxb6606346aDoor
