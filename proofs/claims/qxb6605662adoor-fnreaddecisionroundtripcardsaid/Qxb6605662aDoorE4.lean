import Derived.Test.Qxb6605662aDoorE0
import Derived.Test.Qxb6605662aDoorE5
import Derived.Test.Qxb6605662aDoorD2
set_option linter.unusedVariables false
set_option linter.unusedSimpArgs false
namespace Go.Proofs.Qxb6605662aDoor
open Go.RowKit

/-! ### plain: a text read from a place on -/
/-- from k on the text is t -/
def At (xs : List Int) (k : Nat) (t : List Int) : Prop := k ≤ xs.length ∧ xs.drop k = t
theorem At.len {xs t : List Int} {k : Nat} (h : At xs k t) : xs.length = k + t.length := by
  have := congrArg List.length h.2
  have := h.1
  simp at *
  omega
theorem At.get {xs t : List Int} {k : Nat} (h : At xs k t) (i : Nat) : xs.getD (k + i) 0 = t.getD i 0 := by
  rw [← h.2, List.getD_eq_getElem?_getD, List.getD_eq_getElem?_getD, List.getElem?_drop]
theorem At.app {xs a b : List Int} {k : Nat} (h : At xs k (a ++ b)) : At xs (k + a.length) b := by
  have hl := h.len
  refine ⟨by rw [List.length_append] at hl; omega, ?_⟩
  rw [← List.drop_drop, h.2, List.drop_left]
theorem At.cons {xs b : List Int} {c : Int} {k : Nat} (h : At xs k (c :: b)) : At xs (k + 1) b := At.app (a := [c]) h
theorem At.lt {xs b : List Int} {c : Int} {k : Nat} (h : At xs k (c :: b)) : k < xs.length ∧ xs.getD k 0 = c := by
  have hl := h.len
  have hg := h.get 0
  simp only [List.length_cons] at hl
  exact ⟨by omega, by simpa using hg⟩
/-- blanks -/
def Blank (l : List Int) : Prop := ∀ x ∈ l, ws x = true
theorem sk_at {xs l b : List Int} {c : Int} (hb : Blank l) (hc : ws c = false) : ∀ {k : Nat}, At xs k (l ++ c :: b) → sk xs k = k + l.length ∧ At xs (k + l.length) (c :: b) := by
  induction l with
  | nil =>
    intro k h
    have h1 := At.lt h
    refine ⟨?_, h⟩
    rw [sk_stop (by rw [h1.2, hc]; simp)]
    rfl
  | cons x l ih =>
    intro k h
    have h1 := At.lt (b := l ++ c :: b) h
    have h2 := At.cons (b := l ++ c :: b) h
    have hx := hb x (List.mem_cons_self ..)
    obtain ⟨e1, e2⟩ := ih (fun y hy => hb y (List.mem_cons_of_mem _ hy)) h2
    rw [sk_step h1.1 (by rw [h1.2]; exact hx), e1, List.length_cons]
    exact ⟨by omega, by rw [show k + (l.length + 1) = k + 1 + l.length by omega]; exact e2⟩
/-- a sign behind blanks -/
theorem ex_at {xs l b : List Int} {c : Int} {k : Nat} (hb : Blank l) (hc : ws c = false) (h : At xs k (l ++ c :: b)) : exA xs c (some k) = some (k + l.length + 1) ∧ isA xs c (some k) = true ∧ (∀ d, d ≠ c → isA xs d (some k) = false ∧ exA xs d (some k) = none) ∧ At xs (k + l.length + 1) b ∧ sk xs k + 1 = k + l.length + 1 := by
  obtain ⟨e1, e2⟩ := sk_at hb hc h
  have h1 := e2.lt
  have hi : isA xs c (some k) = true := by
    unfold isA
    simp only
    rw [e1, h1.2, decide_eq_true h1.1]
    simp
  have hn : ∀ d, d ≠ c → isA xs d (some k) = false := fun d hd => by
    unfold isA
    simp only
    rw [e1, h1.2]
    simp
    exact fun _ e => hd e.symm
  refine ⟨?_, hi, fun d hd => ⟨hn d hd, by unfold exA; rw [hn d hd]; rfl⟩, e2.cons, by rw [e1]⟩
  unfold exA
  rw [hi]
  simp only [if_true, spA, Option.map_some, e1]
/-- a string's text -/
theorem sc_at {xs l b : List Int} : ∀ {k : Nat}, (∀ x ∈ l, x ≠ 34 ∧ ¬ (x = 92 ∨ x < 32)) → At xs k (l ++ 34 :: b) → sc xs k = some (k + l.length) := by
  induction l with
  | nil =>
    intro k _ h
    have h1 := At.lt h
    rw [sc_hit h1.1 h1.2]; rfl
  | cons x l ih =>
    intro k hl h
    have h1 := At.lt (b := l ++ 34 :: b) h
    have hx := hl x (List.mem_cons_self ..)
    rw [sc_step h1.1 (by rw [h1.2]; exact hx.1) (by rw [h1.2]; exact hx.2), ih (fun y hy => hl y (List.mem_cons_of_mem _ hy)) (At.cons (b := l ++ 34 :: b) h), List.length_cons]
    congr 1
    omega
theorem sub_of_at {xs l b : List Int} {k : Nat} (h : At xs k (l ++ b)) : sub xs k (k + l.length) = l := by
  unfold sub
  rw [h.2, show k + l.length - k = l.length by omega, List.take_left]
theorem PT.all {s : ByteArray} (h : PT s) : ∀ x ∈ nums s, x ≠ 34 ∧ ¬ (x = 92 ∨ x < 32) := fun x hx => by
  obtain ⟨i, hi, rfl⟩ := List.mem_iff_getElem.1 hx
  have := h.b i (by rw [← nums_length]; exact hi)
  rw [List.getD_eq_getElem?_getD, List.getElem?_eq_getElem hi] at this
  exact this
theorem pl_at {xs b : List Int} {s : ByteArray} {k : Nat} (hs : PT s) (h : At xs k (qs s ++ b)) : plR xs k = some (k + 1, k + 1 + s.size) ∧ At xs (k + 1 + s.size + 1) b ∧ sub xs (k + 1) (k + 1 + s.size) = nums s := by
  have h0 : At xs k (34 :: (nums s ++ (34 :: b))) := by
    have e : qs s ++ b = 34 :: (nums s ++ (34 :: b)) := by unfold qs; simp
    rw [← e]; exact h
  have h1 := h0.lt
  have h2 := h0.cons
  have hsub := sub_of_at h2
  rw [nums_length] at hsub
  have hsc := sc_at hs.all h2
  rw [nums_length] at hsc
  have h3 := (At.app h2).cons
  rw [nums_length] at h3
  refine ⟨?_, h3, hsub⟩
  unfold plR
  rw [if_pos h1, hsc]
  simp only
  rw [hsub, hs.v]
  rfl
theorem strOf_nums (s : ByteArray) : strOfNums (nums s) = s := by
  apply ByteArray.ext
  apply Array.toList_inj.mp
  rw [strOfNums_data]
  unfold nums
  rw [List.map_map]
  conv => rhs; rw [← List.map_id s.data.toList]
  apply List.map_congr_left
  intro b _
  simp
/-- a number behind blanks -/
theorem ui_at {xs l b : List Int} {c : Int} {u k : Nat} (hb : Blank l) (hu : u < 18446744073709551616) (hc : isd c = false) (h : At xs k (l ++ (dn u ++ c :: b))) : uiA xs (some k) = some ((u : Int), k + l.length + (dn u).length) ∧ At xs (k + l.length + (dn u).length) (c :: b) := by
  have hdl := dn_length u
  have hpos := Lib.nDigits_pos u
  obtain ⟨d0, ds, hds⟩ : ∃ d0 ds, dn u = d0 :: ds := by
    cases hd : dn u with
    | nil => rw [hd] at hdl; simp at hdl; omega
    | cons a t => exact ⟨a, t, rfl⟩
  have hd0 : isd d0 = true := by
    have := dn_digit u 0 (by omega)
    rw [hds] at this
    simpa using this
  have hw : ws d0 = false := by
    have := (isd_iff d0).1 hd0
    unfold ws
    simp
    omega
  have h' : At xs k (l ++ d0 :: (ds ++ c :: b)) := by rw [hds] at h; exact h
  obtain ⟨e1, e2⟩ := sk_at hb hw h'
  have e3 : At xs (k + l.length) (dn u ++ c :: b) := by rw [hds]; exact e2
  have e4 := At.app e3
  have hget : ∀ i, i < (dn u).length → xs.getD (k + l.length + i) 0 = (dn u).getD i 0 := fun i hi => by rw [e3.get i, getD_left _ _ _ hi]
  have hN : dN xs (k + l.length) = (dn u).length := dN_of xs _ _ (fun i hi => by rw [hget i hi]; exact dn_digit u i hi) (by have := e3.len; rw [List.length_append] at this; omega) (fun hh => by
    have := e4.lt
    rw [this.2, hc] at hh
    simp at hh)
  have hv := dvl_dn xs (k + l.length) u hget
  refine ⟨?_, e4⟩
  simp only [uiA]
  unfold dgR
  rw [e1, hN, hv, if_pos]
  refine ⟨by omega, fun hh => ?_, by unfold Max64; omega⟩
  have h0 := hget 0 (by omega)
  rw [Nat.add_zero] at h0
  rw [h0] at hh
  have := dn_lead u hh.1
  omega
end Go.Proofs.Qxb6605662aDoor
