import Derived.Test.Qxb6606346aDoorP4
set_option linter.unusedVariables false
set_option linter.unusedSimpArgs false
namespace Go.Proofs.Qxb6606346aDoor
/-! ### script puts each run in order -/
structure NI (fs ts : List ByteArray) (L : List Int) (p i j : Nat) : Prop where
  p1 : p ≤ L.length
  e1 : Ed fs ts 0 0 (L.take p) i j
  e2 : Ed fs ts i j (L.drop p) fs.length ts.length
  c : ∃ s, cst false (L.take p) = some s ∧ (s = false ∨ p = L.length ∨ L.getD p 0 = 32)
def runs (L : List Int) (p r j : Nat) : List Int := if j ≤ p + r then fill L p j 45 else fill (fill L p (p + r) 45) (p + r) j 43
theorem runs_start (L : List Int) (p r : Nat) : runs L p r p = L := by
  unfold runs
  rw [if_pos (by omega), fill_self]
theorem runs_length (L : List Int) (p r j : Nat) (h1 : p ≤ j) (h2 : j ≤ L.length) (h3 : p + r ≤ L.length) : (runs L p r j).length = L.length := by
  unfold runs
  split
  · exact fill_length _ _ _ _ h1 h2
  · rw [fill_length _ _ _ _ (by omega) (by rw [fill_length _ _ _ _ (by omega) h3]; exact h2), fill_length _ _ _ _ (by omega) h3]
theorem runs_rem (L : List Int) (p r j : Nat) (h1 : p ≤ j) (h2 : j < L.length) (h3 : j < p + r) : (runs L p r j).set j 45 = runs L p r (j + 1) := by
  unfold runs
  rw [if_pos (by omega), if_pos (by omega)]
  exact fill_next _ _ _ _ h1 h2
theorem runs_add (L : List Int) (p r j : Nat) (h1 : p ≤ j) (h2 : j < L.length) (h3 : p + r ≤ j) : (runs L p r j).set j 43 = runs L p r (j + 1) := by
  have e0 : runs L p r (j + 1) = fill (fill L p (p + r) 45) (p + r) (j + 1) 43 := by unfold runs; rw [if_neg (by omega)]
  rw [e0]
  unfold runs
  split
  · have e : j = p + r := by omega
    subst e
    have h := fill_next (fill L p (p + r) 45) (p + r) (p + r) 43 (Nat.le_refl _) (by rw [fill_length _ _ _ _ (by omega) (by omega)]; exact h2)
    rw [fill_self] at h
    exact h
  · exact fill_next _ _ _ _ h3 (by rw [fill_length _ _ _ _ (by omega) (by omega)]; exact h2)
theorem runs_end (L : List Int) (p r q : Nat) (h1 : p + r ≤ q) (h2 : q ≤ L.length) : (runs L p r q).take q = L.take p ++ (List.replicate r 45 ++ List.replicate (q - p - r) 43) ∧ (runs L p r q).drop q = L.drop q := by
  have e : runs L p r q = fill (fill L p (p + r) 45) (p + r) q 43 := by
    unfold runs
    split
    · have : q = p + r := by omega
      subst this
      rw [fill_self]
    · rfl
  have l1 : (fill L p (p + r) 45).length = L.length := fill_length _ _ _ _ (by omega) (by omega)
  rw [e]
  constructor
  · have t1 : (fill L p (p + r) 45).take (p + r) = L.take p ++ List.replicate r 45 := by
      unfold fill
      rw [List.take_append_of_le_length (by simp; omega), List.take_of_length_le (by simp; omega), show p + r - p = r by omega]
    conv => lhs; arg 2; unfold fill
    rw [List.take_append_of_le_length (by simp; omega), List.take_of_length_le (by simp; omega)]
    have t2 := t1
    unfold fill at t2
    rw [t2, List.append_assoc, show q - (p + r) = q - p - r by omega]
  · rw [drop_fill _ _ _ _ _ h1 (Nat.le_refl _) (by omega), drop_fill _ _ _ _ _ (by omega) h1 (by omega)]
theorem ni_start {fs ts : List ByteArray} {L : List Int} (h : Ed fs ts 0 0 L fs.length ts.length) : NI fs ts L 0 0 0 := ⟨Nat.zero_le _, .nil 0 0, h, false, rfl, .inl rfl⟩
theorem ni_kept {fs ts : List ByteArray} {L : List Int} {p i j : Nat} (h : NI fs ts L p i j) (hp : p < L.length) (hk : L.getD p 0 = 32) : NI fs ts L (p + 1) (i + 1) (j + 1) := by
  rcases ed_next hp h.e1 h.e2 with ⟨_, _, _, _, a, b⟩ | ⟨q, _⟩ | ⟨q, _⟩
  · obtain ⟨s, hs, _⟩ := h.c
    refine ⟨by omega, a, b, false, ?_, .inl rfl⟩
    rw [take_succ hp, cst_append, hs, hk]
    simp [cst]
  · omega
  · omega
theorem ni_run {fs ts : List ByteArray} {L : List Int} {p q i j r : Nat} (h : NI fs ts L p i j) (hp : p < q) (hq : q ≤ L.length) (hpk : L.getD p 0 ≠ 32) (hr : r ≤ q - p) (e2 : Ed fs ts (i + r) (j + (q - p - r)) (L.drop q) fs.length ts.length) (hb : q = L.length ∨ L.getD q 0 = 32) :
    NI fs ts (runs L p r q) q (i + r) (j + (q - p - r)) := by
  obtain ⟨t1, t2⟩ := runs_end L p r q (by omega) hq
  have lr := runs_length L p r q (by omega) hq (by omega)
  obtain ⟨s, hs, hs2⟩ := h.c
  have hsf : s = false := by
    rcases hs2 with e | e | e
    · exact e
    · omega
    · exact absurd e hpk
  subst hsf
  have l2 := e2.len
  refine ⟨by omega, ?_, by rw [t2]; exact e2, ?_⟩
  · rw [t1]
    exact h.e1.append ((Ed.rems r i j (by omega)).append (Ed.adds (q - p - r) (i + r) j (by omega)))
  · refine ⟨if q - p - r = 0 then false else true, ?_, .inr ?_⟩
    · rw [t1, cst_append, hs, Option.bind_some, cst_append, cst_rems, Option.bind_some, cst_adds]
    · rcases hb with e | e
      · left; omega
      · right
        have := congrArg (fun l => l.getD 0 0) t2
        simp only [getD_drop, Nat.add_zero] at this
        rw [this]; exact e
theorem ni_end {fs ts : List ByteArray} {L : List Int} {i j : Nat} (h : NI fs ts L L.length i j) : SI fs ts L 0 0 0 := by
  have e1 := h.e1
  have e2 := h.e2
  rw [List.take_length] at e1
  rw [List.drop_length] at e2
  cases e2
  obtain ⟨s, hs, _⟩ := h.c
  rw [List.take_length] at hs
  exact ⟨Nat.zero_le _, .nil 0 0, e1, (by rw [hs]; exact Option.some_ne_none s), .inl rfl, fun p n op i j h1 h2 h3 => by omega⟩
end Go.Proofs.Qxb6606346aDoor
