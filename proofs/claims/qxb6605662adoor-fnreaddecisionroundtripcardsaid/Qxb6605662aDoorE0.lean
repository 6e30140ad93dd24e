import Derived.Test.Qxb6605662aDoorE2
set_option linter.unusedVariables false
set_option linter.unusedSimpArgs false
namespace Go.Proofs.Qxb6605662aDoor
open Go.RowKit

/-! ### what zzEncodeDecision writes -/
def bTx : ByteArray := ⟨#[116, 120, 110]⟩
def bCo : ByteArray := ⟨#[99, 111, 111, 114, 100, 105, 110, 97, 116, 111, 114]⟩
def bCi : ByteArray := ⟨#[99, 111, 111, 114, 100, 105, 110, 97, 116, 111, 114, 95, 105, 100]⟩
def bHo : ByteArray := ⟨#[104, 111, 114, 105, 122, 111, 110]⟩
def bSe : ByteArray := ⟨#[115, 101, 116, 116, 108, 101, 100]⟩
def bUn : ByteArray := ⟨#[117, 110, 115, 101, 116, 116, 108, 101, 100]⟩
/-- the first j numbers of the list -/
def elsN (W : ByteArray) (us : List Int) : Nat → List Int
  | 0 => []
  | j + 1 => elsN W us j ++ ((if 0 < j then nums W ++ [44] else []) ++ (nums W ++ dn (us.getD j 0).toNat))
def hzA (W : ByteArray) (st : Nat) : List Int := qs bHo ++ (cl W ++ ([123] ++ (nums W ++ (qs bSe ++ (cl W ++ (dn st ++ (nums W ++ ([44] ++ (nums W ++ (qs bUn ++ (cl W ++ [91])))))))))))
def hzB (W : ByteArray) : List Int := nums W ++ ([93] ++ (nums W ++ [125]))
def itm (W tx co ci : ByteArray) (st : Nat) (us : List Int) (r : Nat) : List Int :=
  if r = 0 then qs bTx ++ (cl W ++ qs tx) else if r = 1 then qs bCo ++ (cl W ++ qs co) else if r = 2 then qs bCi ++ (cl W ++ qs ci) else hzA W st ++ (elsN W us us.length ++ hzB W)
def encN (W tx co ci : ByteArray) (st : Nat) (us : List Int) (first : Nat) : Nat → List Int
  | 0 => nums W ++ [123]
  | i + 1 => encN W tx co ci st us first i ++ ((if 0 < i then nums W ++ [44] else []) ++ (nums W ++ itm W tx co ci st us ((first + i) % 4)))
def enc (W tx co ci : ByteArray) (st : Nat) (us : List Int) (first : Nat) : List Int := encN W tx co ci st us first 4 ++ (nums W ++ [125])
theorem OwnB.app {w : World} {B : Nat} {v : Value} {L : List Int} {M : List Int} {n : Nat} {cs : List Value} (h : w.ownsRow B 5 1 v n cs) (hn : n = L.length + M.length) (hc : cs = L.map (Value.int .u8) ++ M.map (Value.int .u8)) : OwnB w B v (L ++ M) := OwnB.of h (by rw [hn, List.length_append]) (by rw [hc, List.map_append])
theorem qs_length (s : ByteArray) : (qs s).length = s.size + 2 := by unfold qs; rw [List.length_append, List.length_append, nums_length]; simp; omega
theorem cl_length (s : ByteArray) : (cl s).length = s.size + s.size + 1 := by unfold cl; rw [List.length_append, List.length_append, nums_length]; simp; omega
theorem dn_le (u : Nat) (h : u < 18446744073709551616) : (dn u).length ≤ 20 := by
  rw [dn_length]
  exact nDigits_le 19 u (by
    have : (10 : Nat) ^ (19 + 1) = 100000000000000000000 := by decide
    omega)
def U64s (us : List Int) : Prop := ∀ i, 0 ≤ us.getD i 0 ∧ us.getD i 0 < 18446744073709551616
theorem elsN_le (W : ByteArray) (us : List Int) (hW : W.size ≤ 4) (hu : U64s us) : ∀ j, (elsN W us j).length ≤ 29 * j := by
  intro j
  induction j with
  | zero => simp [elsN]
  | succ j ih =>
    have h1 := dn_le (us.getD j 0).toNat (by have := hu j; omega)
    have h2 : (if 0 < j then nums W ++ [44] else ([] : List Int)).length ≤ 5 := by
      split
      · rw [List.length_append, nums_length]; simp; omega
      · simp
    rw [elsN, List.length_append, List.length_append, List.length_append, nums_length]
    omega
end Go.Proofs.Qxb6605662aDoor
