import Derived.Test.Qxb6605662aDoorH1
namespace Go.Proofs.Qxb6605662aDoor
open Go.RowKit

theorem getD_left (l r : List Int) (i : Nat) (h : i < l.length) : (l ++ r).getD i 0 = l.getD i 0 := by
  rw [List.getD_eq_getElem?_getD, List.getD_eq_getElem?_getD, List.getElem?_append_left h]
theorem getD_right (l r : List Int) (i : Nat) : (l ++ r).getD (l.length + i) 0 = r.getD i 0 := by
  rw [List.getD_eq_getElem?_getD, List.getD_eq_getElem?_getD, List.getElem?_append_right (by omega)]
  simp
/-- u's decimal numeral, as numbers -/
def dn (u : Nat) : List Int := (Lib.decDigits u).map fun b => (b.toNat : Int)
theorem dn_length (u : Nat) : (dn u).length = Lib.nDigits u := by unfold dn; rw [List.length_map, Lib.decDigits_length]
theorem dn_small {u : Nat} (h : u < 10) : dn u = [48 + (u : Int)] := by
  unfold dn; rw [Lib.decDigits, dif_pos h]
  simp; omega
theorem dn_big {u : Nat} (h : ¬ u < 10) : dn u = dn (u / 10) ++ [48 + ((u % 10 : Nat) : Int)] := by
  unfold dn; rw [Lib.decDigits, dif_neg h]
  simp; omega
theorem dn_digit (u : Nat) : ∀ i, i < (dn u).length → isd ((dn u).getD i 0) = true := by
  induction u using Nat.strongRecOn with
  | _ u ih =>
    intro i hi
    by_cases h : u < 10
    · rw [dn_small h] at hi ⊢
      have : i = 0 := by simpa using hi
      subst this
      rw [isd_iff]; simp; omega
    · rw [dn_big h] at hi ⊢
      simp only [List.length_append, List.length_singleton] at hi
      by_cases e : i < (dn (u / 10)).length
      · rw [getD_left _ _ _ e]; exact ih (u / 10) (by omega) i e
      · obtain rfl : i = (dn (u / 10)).length + 0 := by omega
        rw [getD_right, isd_iff]; simp; omega
theorem dn_lead (u : Nat) : (dn u).getD 0 0 = 48 → (dn u).length = 1 := by
  induction u using Nat.strongRecOn with
  | _ u ih =>
    intro hz
    by_cases h : u < 10
    · rw [dn_small h]; rfl
    · exfalso
      have hl := dn_length (u / 10)
      have hp := Lib.nDigits_pos (u / 10)
      rw [dn_big h, getD_left _ _ _ (by omega)] at hz
      have h1 := ih (u / 10) (by omega) hz
      by_cases h2 : u / 10 < 10
      · rw [dn_small h2] at hz; simp at hz; omega
      · rw [dn_big h2] at h1
        have := dn_length (u / 10 / 10)
        have := Lib.nDigits_pos (u / 10 / 10)
        rw [List.length_append, List.length_singleton] at h1; omega
theorem dvl_dn (xs : List Int) (k : Nat) (u : Nat) : (∀ i, i < (dn u).length → xs.getD (k + i) 0 = (dn u).getD i 0) → dvl xs k (dn u).length = u := by
  induction u using Nat.strongRecOn with
  | _ u ih =>
    intro hx
    by_cases h : u < 10
    · rw [dn_small h] at hx ⊢
      have h0 := hx 0 (by simp)
      simp only [List.length_singleton, dvl]
      rw [h0]; simp; omega
    · rw [dn_big h] at hx ⊢
      have h1 := ih (u / 10) (by omega) (fun i hi => by rw [hx i (by simp; omega), getD_left _ _ _ hi])
      have h2 := hx (dn (u / 10)).length (by simp)
      have h3 := getD_right (dn (u / 10)) [48 + ((u % 10 : Nat) : Int)] 0
      rw [Nat.add_zero] at h3
      rw [List.length_append, List.length_singleton, dvl, h1, h2, h3]
      simp; omega
/-- a numeral in the text is read as its number -/
theorem dgR_dn {xs : List Int} {k u : Nat} (hu : u < 18446744073709551616) (hx : ∀ i, i < (dn u).length → xs.getD (k + i) 0 = (dn u).getD i 0) (hk : k + (dn u).length ≤ xs.length) (he : k + (dn u).length < xs.length → isd (xs.getD (k + (dn u).length) 0) = false) :
    dgR xs k = some ((u : Int), k + (dn u).length) := by
  have hp : 0 < (dn u).length := by rw [dn_length]; exact Lib.nDigits_pos u
  rw [dgR_end hk (fun i hi => by rw [hx i hi]; exact dn_digit u i hi) (fun h => by rw [he h.1] at h; exact absurd h.2 (by simp)) (by rw [dvl_dn xs k u hx]; unfold Max64; omega), dvl_dn xs k u hx, if_pos]
  refine ⟨hp, fun h => ?_⟩
  have h0 := hx 0 hp
  rw [Nat.add_zero, h.1] at h0
  have := dn_lead u h0.symm
  omega

def preL : List Int := [123, 34, 105, 100, 34, 58]
def postL : List Int := [44, 34, 104, 101, 108, 100, 34, 58, 116, 114, 117, 101, 125, 10]
/-- the line that AppendHeld appends -/
def lineL (u : Nat) : List Int := preL ++ (dn u ++ postL)
section
variable (u : Nat)
theorem lineL_length : (lineL u).length = 20 + Lib.nDigits u := by unfold lineL preL postL; simp [dn_length]; omega
theorem lineL_pre (i : Nat) (h : i < 6) : (lineL u).getD i 0 = preL.getD i 0 := getD_left preL _ i (by simpa [preL] using h)
theorem lineL_dn (i : Nat) (h : i < (dn u).length) : (lineL u).getD (6 + i) 0 = (dn u).getD i 0 := by
  have h1 := getD_right preL (dn u ++ postL) i
  have e : preL.length = 6 := rfl
  rw [e] at h1
  unfold lineL
  rw [h1, getD_left _ _ _ h]
theorem lineL_post (i : Nat) : (lineL u).getD (6 + Lib.nDigits u + i) 0 = postL.getD i 0 := by
  have h1 := getD_right preL (dn u ++ postL) (Lib.nDigits u + i)
  have h2 := getD_right (dn u) postL i
  have e : preL.length = 6 := rfl
  rw [dn_length] at h2
  rw [e, h2, ← Nat.add_assoc] at h1
  exact h1
theorem line0 : exA (lineL u) 123 (some 0) = some 1 := by
  have hl := lineL_length u
  have h0 := lineL_pre u 0 (by omega)
  have hs : sk (lineL u) 0 = 0 := sk_stop (fun h => by rw [h0] at h; exact absurd h.2 (by decide))
  unfold exA isA spA
  simp only [hs]
  rw [h0, decide_eq_true (show 0 < (lineL u).length by omega)]
  rfl
theorem line1 : keyR (lineL u) (some 1) true = some (2, 4, 6) ∧ keyS (lineL u) (some 1) true = some 6 := by
  have hl := lineL_length u
  have h1 := lineL_pre u 1 (by omega)
  have h2 := lineL_pre u 2 (by omega)
  have h3 := lineL_pre u 3 (by omega)
  have h4 := lineL_pre u 4 (by omega)
  have h5 := lineL_pre u 5 (by omega)
  have hs1 : sk (lineL u) 1 = 1 := sk_stop (fun h => by rw [h1] at h; exact absurd h.2 (by decide))
  have hs5 : sk (lineL u) 5 = 5 := sk_stop (fun h => by rw [h5] at h; exact absurd h.2 (by decide))
  have hi : isA (lineL u) 125 (some 1) = false := by unfold isA; simp only [hs1]; rw [h1]; simp [preL]
  have hmb : mbB (lineL u) 125 (some 1) true = true := by unfold mbB; rw [hi]; rfl
  have hma : mbA (lineL u) 125 (some 1) true = some 1 := by unfold mbA; rw [hi]; simp [spA, hs1]
  have hsc : sc (lineL u) 2 = some 4 := by
    rw [sc_step (by omega) (by rw [h2]; decide) (by rw [h2]; decide), sc_step (by omega) (by rw [h3]; decide) (by rw [h3]; decide), sc_hit (by omega) (by rw [h4]; decide)]
  have hasc : asc (sub (lineL u) 2 4) = true := by
    rw [asc_snoc _ 2 3 (by omega) (by omega), asc_snoc _ 2 2 (by omega) (by omega), h2, h3]
    unfold sub asc; simp [preL]
  have hpl : plR (lineL u) 1 = some (2, 4) := by unfold plR; rw [if_pos ⟨by omega, by rw [h1]; decide⟩, hsc]; simp [vu_asc _ hasc]
  have hex : exA (lineL u) 58 (some 5) = some 6 := by unfold exA isA spA; simp only [hs5]; rw [h5, decide_eq_true (show 5 < (lineL u).length by omega)]; rfl
  have hk : keyR (lineL u) (some 1) true = some (2, 4, 6) := by unfold keyR; rw [hmb, hma]; simp [spA, hs1, hpl, hex]
  exact ⟨hk, by unfold keyS; rw [hmb, hk]; rfl⟩
theorem line2 (hu : u < 18446744073709551616) : uiA (lineL u) (some 6) = some ((u : Int), 6 + Lib.nDigits u) := by
  have hl := lineL_length u
  have hp := Lib.nDigits_pos u
  have hdl := dn_length u
  have h6 := lineL_dn u 0 (by omega)
  have hd6 := dn_digit u 0 (by omega)
  have hs : sk (lineL u) 6 = 6 := sk_stop (fun h => by
    rw [Nat.add_zero] at h6
    rw [h6] at h
    have h3 := (isd_iff _).1 hd6
    have h2 := h.2
    generalize (dn u).getD 0 0 = x at h2 h3
    unfold ws at h2
    simp at h2
    omega)
  show dgR (lineL u) (sk (lineL u) 6) = _
  rw [hs]
  have := dgR_dn (xs := lineL u) (k := 6) hu (fun i hi => lineL_dn u i hi) (by omega) (fun _ => by
    have h := lineL_post u 0
    rw [Nat.add_zero] at h
    rw [hdl, h]; decide)
  rw [this, hdl]
theorem line3 : keyR (lineL u) (some (6 + Lib.nDigits u)) false = some (6 + Lib.nDigits u + 2, 6 + Lib.nDigits u + 6, 6 + Lib.nDigits u + 8) ∧ keyS (lineL u) (some (6 + Lib.nDigits u)) false = some (6 + Lib.nDigits u + 8) := by
  have hl := lineL_length u
  have hp := lineL_post u
  obtain ⟨m, hm⟩ : ∃ m, 6 + Lib.nDigits u = m := ⟨_, rfl⟩
  rw [hm] at hp ⊢
  have hlm : (lineL u).length = m + 14 := by omega
  have h0 := hp 0
  rw [Nat.add_zero] at h0
  have s0 : sk (lineL u) m = m := sk_stop (fun h => by rw [h0] at h; exact absurd h.2 (by decide))
  have s1 : sk (lineL u) (m + 1) = m + 1 := sk_stop (fun h => by rw [hp 1] at h; exact absurd h.2 (by decide))
  have s7 : sk (lineL u) (m + 7) = m + 7 := sk_stop (fun h => by rw [hp 7] at h; exact absurd h.2 (by decide))
  have hi : isA (lineL u) 125 (some m) = false := by unfold isA; simp only [s0]; rw [h0]; simp [postL]
  have he : exA (lineL u) 44 (some m) = some (m + 1) := by unfold exA isA spA; simp only [s0]; rw [h0, decide_eq_true (show m < (lineL u).length by omega)]; rfl
  have hmb : mbB (lineL u) 125 (some m) false = true := by unfold mbB; rw [hi, he]; rfl
  have hma : mbA (lineL u) 125 (some m) false = some (m + 1) := by unfold mbA; rw [hi, he]; rfl
  have hsc : sc (lineL u) (m + 2) = some (m + 6) := by
    rw [sc_step (by omega) (by rw [hp 2]; decide) (by rw [hp 2]; decide), sc_step (i := m + 3) (by omega) (by rw [hp 3]; decide) (by rw [hp 3]; decide), sc_step (i := m + 4) (by omega) (by rw [hp 4]; decide) (by rw [hp 4]; decide), sc_step (i := m + 5) (by omega) (by rw [hp 5]; decide) (by rw [hp 5]; decide), sc_hit (i := m + 6) (by omega) (by rw [hp 6]; decide)]
  have hasc : asc (sub (lineL u) (m + 2) (m + 6)) = true := by
    rw [asc_snoc _ (m + 2) (m + 5) (by omega) (by omega), asc_snoc _ (m + 2) (m + 4) (by omega) (by omega), asc_snoc _ (m + 2) (m + 3) (by omega) (by omega), asc_snoc _ (m + 2) (m + 2) (by omega) (by omega), hp 2, hp 3, hp 4, hp 5]
    unfold sub asc
    simp [postL]
  have hpl : plR (lineL u) (m + 1) = some (m + 2, m + 6) := by unfold plR; rw [if_pos ⟨by omega, by rw [hp 1]; decide⟩, show m + 1 + 1 = m + 2 from rfl, hsc]; simp [vu_asc _ hasc]
  have hex : exA (lineL u) 58 (some (m + 6 + 1)) = some (m + 8) := by unfold exA isA spA; simp only [s7]; rw [hp 7, decide_eq_true (show m + 7 < (lineL u).length by omega)]; rfl
  have hk : keyR (lineL u) (some m) false = some (m + 2, m + 6, m + 8) := by unfold keyR; rw [hmb, hma]; simp [spA, s1, hpl, hex]
  exact ⟨hk, by unfold keyS; rw [hmb, hk]; rfl⟩
theorem line_id : sub (lineL u) 2 4 = [105, 100] := rfl
theorem line_held : sub (lineL u) (6 + Lib.nDigits u + 2) (6 + Lib.nDigits u + 6) = [104, 101, 108, 100] := by
  have hl := lineL_length u
  have hp := lineL_post u
  apply List.ext_getElem?
  intro i
  by_cases hi : i < 4
  · have h1 : (sub (lineL u) (6 + Lib.nDigits u + 2) (6 + Lib.nDigits u + 6)).length = 4 := by rw [sub_length _ _ _ (by omega) (by omega)]; omega
    have h2 := sub_at (lineL u) (6 + Lib.nDigits u + 2) (6 + Lib.nDigits u + 6) i (by omega)
    rw [show 6 + Lib.nDigits u + 2 + i = 6 + Lib.nDigits u + (2 + i) by omega, hp (2 + i)] at h2
    rw [List.getElem?_eq_getElem (by omega)]
    rw [List.getD_eq_getElem?_getD, List.getElem?_eq_getElem (by omega)] at h2
    simp only [Option.getD_some] at h2
    rw [h2]
    match i, hi with
    | 0, _ => rfl
    | 1, _ => rfl
    | 2, _ => rfl
    | 3, _ => rfl
  · rw [List.getElem?_eq_none (by rw [sub_length _ _ _ (by omega) (by omega)]; omega), List.getElem?_eq_none (by simp; omega)]
theorem line_asc : ∀ s q, asc (sub (lineL u) s q) = true := by
  intro s q
  unfold asc sub lineL
  rw [List.all_eq_true]
  intro x hx
  have hm : x ∈ preL ++ (dn u ++ postL) := List.mem_of_mem_drop (List.mem_of_mem_take hx)
  simp only [List.mem_append] at hm
  rcases hm with h | h | h
  · have : ∀ x ∈ preL, x < 128 := by decide
    simpa using this x h
  · obtain ⟨i, hi, rfl⟩ := List.mem_iff_getElem.1 h
    have := dn_digit u i hi
    rw [List.getD_eq_getElem?_getD, List.getElem?_eq_getElem hi, isd_iff] at this
    simp at this ⊢; omega
  · have : ∀ x ∈ postL, x < 128 := by decide
    simpa using this x h
end
theorem line_cells (u : Nat) : Lib.strCells preB ++ Lib.byteCells (Lib.decDigits u) ++ Lib.strCells postB = (lineL u).map (Value.int .u8) := by
  have h1 : Lib.strCells preB = preL.map (Value.int .u8) := rfl
  have h2 : Lib.strCells postB = postL.map (Value.int .u8) := rfl
  have h3 : Lib.byteCells (Lib.decDigits u) = (dn u).map (Value.int .u8) := by unfold Lib.byteCells dn; simp
  rw [h1, h2, h3, lineL, List.map_append, List.map_append, List.append_assoc]
end Go.Proofs.Qxb6605662aDoor
