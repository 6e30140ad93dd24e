import Derived.Test.Qxb6605662aDoorE7
set_option linter.unusedVariables false
set_option linter.unusedSimpArgs false
namespace Go.Proofs.Qxb6605662aDoor
open Go.RowKit
/-! ### every number of the text is a byte -/
def InL (l : List Int) : Prop := ∀ x ∈ l, 0 ≤ x ∧ x < 256
theorem InL.app {a b : List Int} (ha : InL a) (hb : InL b) : InL (a ++ b) := fun x hx => by
  rcases List.mem_append.1 hx with h | h
  · exact ha x h
  · exact hb x h
theorem InL.nil : InL [] := fun x hx => by cases hx
theorem InL.one (c : Int) (h : 0 ≤ c ∧ c < 256) : InL [c] := fun x hx => by
  have : x = c := by simpa using hx
  subst this; exact h
theorem InL.nums (s : ByteArray) : InL (nums s) := fun x hx => by
  unfold Go.Proofs.Qxb6605662aDoor.nums at hx
  simp only [List.mem_map] at hx
  obtain ⟨b, _, rfl⟩ := hx
  have := b.toNat_lt
  omega
theorem InL.dn (u : Nat) : InL (dn u) := fun x hx => by
  obtain ⟨i, hi, rfl⟩ := List.mem_iff_getElem.1 hx
  have h := dn_digit u i hi
  rw [List.getD_eq_getElem?_getD, List.getElem?_eq_getElem hi] at h
  have := (isd_iff _).1 h
  simp at this
  omega
theorem InL.qs (s : ByteArray) : InL (qs s) := ((InL.one 34 (by omega)).app (InL.nums s)).app (InL.one 34 (by omega))
theorem InL.cl (s : ByteArray) : InL (cl s) := ((InL.nums s).app (InL.one 58 (by omega))).app (InL.nums s)
theorem InL.elsN (W : ByteArray) (us : List Int) : ∀ j, InL (elsN W us j) := fun j => by
  induction j with
  | zero => exact InL.nil
  | succ j ih =>
    unfold Go.Proofs.Qxb6605662aDoor.elsN
    refine ih.app (InL.app ?_ ((InL.nums W).app (InL.dn _)))
    split
    · exact (InL.nums W).app (InL.one 44 (by omega))
    · exact InL.nil
theorem InL.itm (W tx co ci : ByteArray) (st : Nat) (us : List Int) (r : Nat) : InL (itm W tx co ci st us r) := by
  unfold Go.Proofs.Qxb6605662aDoor.itm
  split
  · exact (InL.qs _).app ((InL.cl _).app (InL.qs _))
  · split
    · exact (InL.qs _).app ((InL.cl _).app (InL.qs _))
    · split
      · exact (InL.qs _).app ((InL.cl _).app (InL.qs _))
      · unfold hzA hzB
        exact InL.app ((InL.qs _).app ((InL.cl _).app ((InL.one _ (by omega)).app ((InL.nums _).app ((InL.qs _).app ((InL.cl _).app ((InL.dn _).app ((InL.nums _).app ((InL.one _ (by omega)).app ((InL.nums _).app ((InL.qs _).app ((InL.cl _).app (InL.one _ (by omega))))))))))))))
          ((InL.elsN _ _ _).app ((InL.nums _).app ((InL.one _ (by omega)).app ((InL.nums _).app (InL.one _ (by omega))))))
theorem InL.encN (W tx co ci : ByteArray) (st : Nat) (us : List Int) (f : Nat) : ∀ i, InL (encN W tx co ci st us f i) := fun i => by
  induction i with
  | zero => exact (InL.nums W).app (InL.one _ (by omega))
  | succ i ih =>
    unfold Go.Proofs.Qxb6605662aDoor.encN
    refine ih.app (InL.app ?_ ((InL.nums W).app (InL.itm _ _ _ _ _ _ _)))
    split
    · exact (InL.nums W).app (InL.one 44 (by omega))
    · exact InL.nil
theorem InL.inB {l : List Int} (h : InL l) : InB l := fun i => by
  by_cases hi : i < l.length
  · rw [List.getD_eq_getElem?_getD, List.getElem?_eq_getElem hi]
    exact h _ (List.getElem_mem hi)
  · rw [List.getD_eq_getElem?_getD, List.getElem?_eq_none (by omega)]
    exact ⟨Int.le_refl _, by decide⟩
theorem enc_InB (W tx co ci : ByteArray) (st : Nat) (us : List Int) (f : Nat) : InB (enc W tx co ci st us f) := InL.inB ((InL.encN _ _ _ _ _ _ _ 4).app ((InL.nums W).app (InL.one _ (by omega))))
theorem enc_le (W tx co ci : ByteArray) (st : Nat) (us : List Int) (f : Nat) (hW : W.size ≤ 4) (htx : tx.size ≤ 262144) (hco : co.size ≤ 262144) (hci : ci.size ≤ 262144) (hst : st < 18446744073709551616) (hun : us.length ≤ 32768) (hU : U64s us) : (enc W tx co ci st us f).length ≤ 10000000 ∧ 0 < (enc W tx co ci st us f).length := by
  have hi : ∀ r, (itm W tx co ci st us r).length ≤ 2000000 := fun r => by
    have h1 := elsN_le W us hW hU us.length
    have h2 := dn_le st hst
    have k1 : bTx.size = 3 := rfl
    have k2 : bCo.size = 11 := rfl
    have k3 : bCi.size = 14 := rfl
    have k4 : bHo.size = 7 := rfl
    have k5 : bSe.size = 7 := rfl
    have k6 : bUn.size = 9 := rfl
    unfold itm
    split
    · simp only [List.length_append, qs_length, cl_length]; omega
    · split
      · simp only [List.length_append, qs_length, cl_length]; omega
      · split
        · simp only [List.length_append, qs_length, cl_length]; omega
        · unfold hzA hzB
          simp only [List.length_append, qs_length, cl_length, nums_length, List.length_singleton]; omega
  have hs : ∀ i, (if 0 < i then nums W ++ [44] else ([] : List Int)).length ≤ 5 := fun i => by
    split
    · simp only [List.length_append, nums_length, List.length_singleton]; omega
    · simp
  have hn : ∀ i, (encN W tx co ci st us f i).length ≤ 2000009 * i + 5 := fun i => by
    induction i with
    | zero => simp only [encN, List.length_append, nums_length, List.length_singleton]; omega
    | succ i ih =>
      have := hi ((f + i) % 4)
      have := hs i
      rw [encN]
      simp only [List.length_append, nums_length]
      omega
  have := hn 4
  unfold enc
  simp only [List.length_append, nums_length, List.length_singleton]
  omega
end Go.Proofs.Qxb6605662aDoor
