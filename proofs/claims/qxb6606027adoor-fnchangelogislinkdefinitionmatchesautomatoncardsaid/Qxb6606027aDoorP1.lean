import Derived.Test.Qxb6606027aDoorS2
import Derived.Test.Qxb6606027aDoorShelf
namespace Go.Proofs.Qxb6606027aDoor
open Go.RowKit

/-! ### the first of two bytes, plain -/
def ia : List Int → Int → Int → Int
  | [], _, _ => -1
  | x :: r, p, q => if x = p ∨ x = q then 0 else if ia r p q = -1 then -1 else ia r p q + 1
theorem ia_ge (p q : Int) : ∀ xs : List Int, -1 ≤ ia xs p q
  | [] => Int.le_refl _
  | x :: r => by
    have := ia_ge p q r
    unfold ia
    split
    · omega
    · split <;> omega
def NoPQ (xs : List Int) (p q : Int) (i : Nat) : Prop := ∀ j, j < i → xs.getD j 0 ≠ p ∧ xs.getD j 0 ≠ q
theorem ia_hit : ∀ {xs : List Int} {p q : Int} {i : Nat}, NoPQ xs p q i → i < xs.length → (xs.getD i 0 = p ∨ xs.getD i 0 = q) → ia xs p q = i
  | [], _, _, _, _, h, _ => by simp at h
  | x :: r, p, q, 0, _, _, h => by
    have h : x = p ∨ x = q := by simpa using h
    rw [ia, if_pos h]; rfl
  | x :: r, p, q, i + 1, hn, hl, h => by
    have h0 := hn 0 (by omega)
    have ih := ia_hit (xs := r) (p := p) (q := q) (i := i) (fun j hj => by simpa using hn (j + 1) (by omega)) (by simpa using hl) (by simpa using h)
    rw [ia, if_neg (by simp at h0; omega), ih, if_neg (by omega)]
    push_cast; rfl
theorem ia_none : ∀ {xs : List Int} {p q : Int}, NoPQ xs p q xs.length → ia xs p q = -1
  | [], _, _, _ => rfl
  | x :: r, p, q, hn => by
    have h0 := hn 0 (by simp)
    have ih := ia_none (xs := r) (p := p) (q := q) (fun j hj => by simpa using hn (j + 1) (by simp; omega))
    rw [ia, if_neg (by simp at h0; omega), ih, if_pos rfl]
theorem NoPQ.zero (xs : List Int) (p q : Int) : NoPQ xs p q 0 := fun j hj => absurd hj (by omega)
theorem NoPQ.add {xs : List Int} {p q : Int} {i K : Nat} (h : NoPQ xs p q i) (hk : ∀ j, j < K → xs.getD (i + j) 0 ≠ p ∧ xs.getD (i + j) 0 ≠ q) : NoPQ xs p q (i + K) := fun j hj => by
  by_cases e : j < i
  · exact h j e
  · have := hk (j - i) (by omega)
    rwa [show i + (j - i) = j from by omega] at this

/-! ### what DecodeRune hands back at a byte from 128 on -/
theorem encode_two (R : Nat) (h0 : 128 ≤ R) (h1 : R < 2048) : (Utf8.encode (R : Int)).size = 2 ∧ ∃ y z : UInt8, (Utf8.encode (R : Int)).data = #[y, z] ∧ 128 ≤ y.toNat := by
  have hv : Utf8.valid (R : Int) = true := by unfold Utf8.valid; simp; omega
  unfold Utf8.encode
  simp only [hv, if_true, Int.toNat_natCast]
  rw [if_neg (by omega), if_pos (by omega)]
  refine ⟨rfl, _, _, rfl, ?_⟩
  simp; omega
theorem encode_three (R : Nat) (h0 : 2048 ≤ R) (h1 : R < 65536) (h2 : R < 55296 ∨ 57344 ≤ R) : (Utf8.encode (R : Int)).size = 3 := by
  have hv : Utf8.valid (R : Int) = true := by unfold Utf8.valid; simp; omega
  unfold Utf8.encode
  simp only [hv, if_true, Int.toNat_natCast]
  rw [if_neg (by omega), if_neg (by omega), if_pos (by omega)]
  rfl
theorem encode_four (R : Nat) (h0 : 65536 ≤ R) (h1 : R ≤ 1114111) : (Utf8.encode (R : Int)).size = 4 := by
  have hv : Utf8.valid (R : Int) = true := by unfold Utf8.valid; simp; omega
  unfold Utf8.encode
  simp only [hv, if_true, Int.toNat_natCast]
  rw [if_neg (by omega), if_neg (by omega), if_neg (by omega)]
  rfl
theorem decN_facts (n b0 b1 b2 b3 R K : Nat) (hd : Lib.decodeN n b0 b1 b2 b3 = (R, K)) (hn : 1 ≤ n) (h0 : 128 ≤ b0) (hb0 : b0 < 256) (hb1 : b1 < 256) (hb2 : b2 < 256) (hb3 : b3 < 256) :
    128 ≤ R ∧ R ≤ 1114111 ∧ 1 ≤ K ∧ K ≤ n ∧ K ≤ 4 ∧ (1 < K → 128 ≤ b1) ∧ (2 < K → 128 ≤ b2) ∧ (3 < K → 128 ≤ b3) ∧ (R ≠ 65533 → 2 ≤ K ∧ (Utf8.encode (R : Int)).size = K) := by
  unfold Lib.decodeN at hd
  rw [if_neg (by omega)] at hd
  split at hd
  · split at hd
    · cases hd
      exact ⟨by omega, by omega, by omega, by omega, by omega, fun _ => by omega, fun h => absurd h (by omega), fun h => absurd h (by omega), fun _ => ⟨by omega, (encode_two _ (by omega) (by omega)).1⟩⟩
    · cases hd
      exact ⟨by omega, by omega, by omega, by omega, by omega, fun h => absurd h (by omega), fun h => absurd h (by omega), fun h => absurd h (by omega), fun h => absurd rfl h⟩
  · split at hd
    · split at hd
      · cases hd
        exact ⟨by omega, by omega, by omega, by omega, by omega, fun _ => by omega, fun h => by omega, fun h => absurd h (by omega), fun _ => ⟨by omega, encode_three _ (by omega) (by omega) (by omega)⟩⟩
      · cases hd
        exact ⟨by omega, by omega, by omega, by omega, by omega, fun h => absurd h (by omega), fun h => absurd h (by omega), fun h => absurd h (by omega), fun h => absurd rfl h⟩
    · split at hd
      · split at hd
        · cases hd
          exact ⟨by omega, by omega, by omega, by omega, by omega, fun _ => by omega, fun h => by omega, fun h => by omega, fun _ => ⟨by omega, encode_four _ (by omega) (by omega)⟩⟩
        · cases hd
          exact ⟨by omega, by omega, by omega, by omega, by omega, fun h => absurd h (by omega), fun h => absurd h (by omega), fun h => absurd h (by omega), fun h => absurd rfl h⟩
      · cases hd
        exact ⟨by omega, by omega, by omega, by omega, by omega, fun h => absurd h (by omega), fun h => absurd h (by omega), fun h => absurd h (by omega), fun h => absurd rfl h⟩
/-- the bytes as bytes -/
def bsOf (xs : List Int) : ByteArray := ⟨(xs.map fun x => x.toNat.toUInt8).toArray⟩
theorem bsOf_size (xs : List Int) : (bsOf xs).size = xs.length := by simp [bsOf, ByteArray.size]
theorem bsOf_get (xs : List Int) (j : Nat) (hj : j < xs.length) (hb : ∀ i, 0 ≤ xs.getD i 0 ∧ xs.getD i 0 < 256) : (((bsOf xs).get! j).toNat : Int) = xs.getD j 0 := by
  have h1 := hb j
  have e : (bsOf xs).get! j = (xs.getD j 0).toNat.toUInt8 := by
    unfold bsOf ByteArray.get!
    simp [List.getD_eq_getElem?_getD, hj]
  rw [e]
  generalize xs.getD j 0 = x at h1 ⊢
  simp
  omega
theorem dec_facts (xs : List Int) (R K : Nat) (hd : Lib.decodeGo (bsOf xs) = (R, K)) (hn : 0 < xs.length) (hb : ∀ i, 0 ≤ xs.getD i 0 ∧ xs.getD i 0 < 256) (h128 : 128 ≤ xs.getD 0 0) :
    128 ≤ R ∧ R ≤ 1114111 ∧ 1 ≤ K ∧ K ≤ xs.length ∧ K ≤ 4 ∧ (∀ j, j < K → 128 ≤ xs.getD j 0) ∧ (R ≠ 65533 → 2 ≤ K ∧ (Utf8.encode (R : Int)).size = K) := by
  unfold Lib.decodeGo at hd
  rw [if_neg (by rw [bsOf_size]; omega), Lib.decode_at] at hd
  have g0 := bsOf_get xs 0 hn hb
  obtain ⟨f1, f2, f3, f4, f5, f6, f7, f8, f9⟩ := decN_facts _ _ _ _ _ R K hd (by rw [bsOf_size]; omega) (by omega) (UInt8.toNat_lt _) (UInt8.toNat_lt _) (UInt8.toNat_lt _) (UInt8.toNat_lt _)
  rw [bsOf_size] at f4
  refine ⟨f1, f2, f3, by omega, f5, fun j hj => ?_, f9⟩
  have hjl : j < xs.length := by omega
  have gj := bsOf_get xs j hjl hb
  match j, hj, gj with
  | 0, _, _ => exact h128
  | 1, hj, gj => have := f6 hj; simp only [Nat.zero_add] at this; omega
  | 2, hj, gj => have := f7 hj; simp only [Nat.zero_add] at this; omega
  | 3, hj, gj => have := f8 hj; simp only [Nat.zero_add] at this; omega
  | j + 4, hj, _ => omega
end Go.Proofs.Qxb6606027aDoor
