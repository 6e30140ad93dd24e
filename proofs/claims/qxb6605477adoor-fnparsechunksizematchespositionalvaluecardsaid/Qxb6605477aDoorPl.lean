import Derived.Test.Qxb6605477aDoorW1
import Derived.Laws.BitsLemmas
import Derived.Laws.Bits64
namespace Go.Proofs.Qxb6605477aDoor

/-- the place of the first ';' (or the length) -/
def IsCut (xs : List Int) (E : Nat) : Prop := E ≤ xs.length ∧ (∀ i, i < E → xs.getD i 0 ≠ 59) ∧ (E < xs.length → xs.getD E 0 = 59)
/-- what is left of the first e bytes less trailing blanks -/
def IsTrim (xs : List Int) (E T : Nat) : Prop := T ≤ E ∧ (∀ i, T ≤ i → i < E → xs.getD i 0 = 32 ∨ xs.getD i 0 = 9) ∧ (0 < T → xs.getD (T - 1) 0 ≠ 32 ∧ xs.getD (T - 1) 0 ≠ 9)
/-- the value of the digits j .. j + m - 1 -/
def vl (xs : List Int) (j : Nat) : Nat → Int
  | 0 => 0
  | m + 1 => 16 * vl xs j m + hv (xs.getD (j + m) 0)
/-- all digits below T are hexadecimal -/
def AllHex (xs : List Int) (T : Nat) : Prop := ∀ i, i < T → 0 ≤ hv (xs.getD i 0)
/-- what both functions answer over the digits xs[0:T] -/
def Ans (xs : List Int) (T : Nat) (r : Int) (b : Bool) : Prop :=
  (0 < T ∧ AllHex xs T ∧ vl xs 0 T < 9223372036854775808 ∧ r = vl xs 0 T ∧ b = true) ∨ (¬ (0 < T ∧ AllHex xs T ∧ vl xs 0 T < 9223372036854775808) ∧ r = 0 ∧ b = false)
theorem Ans.unique {xs : List Int} {T : Nat} {r r' : Int} {b b' : Bool} (h : Ans xs T r b) (h' : Ans xs T r' b') : r = r' ∧ b = b' := by
  rcases h with ⟨h1, h2, h3, rfl, rfl⟩ | ⟨h1, rfl, rfl⟩ <;> rcases h' with ⟨g1, g2, g3, rfl, rfl⟩ | ⟨g1, rfl, rfl⟩
  · exact ⟨rfl, rfl⟩
  · exact absurd ⟨h1, h2, h3⟩ g1
  · exact absurd ⟨g1, g2, g3⟩ h1
  · exact ⟨rfl, rfl⟩

theorem hv_bd (c : Int) : -1 ≤ hv c ∧ hv c ≤ 15 := by
  unfold hv
  split
  · omega
  · split
    · omega
    · split <;> omega

theorem vl_nonneg (xs : List Int) (j m : Nat) (h : ∀ i, i < m → 0 ≤ hv (xs.getD (j + i) 0)) : 0 ≤ vl xs j m := by
  induction m with
  | zero => simp [vl]
  | succ m ih =>
    have h1 := ih (fun i hi => h i (by omega))
    have h2 := h m (by omega)
    simp only [vl]; omega
theorem vl_lt (xs : List Int) (j m : Nat) : vl xs j m < 16 ^ m := by
  induction m with
  | zero => simp [vl]
  | succ m ih =>
    have h2 := (hv_bd (xs.getD (j + m) 0)).2
    simp only [vl, Int.pow_succ]; omega
/-- the first digit off -/
theorem vl_first (xs : List Int) (j m : Nat) : vl xs j (m + 1) = hv (xs.getD j 0) * 16 ^ m + vl xs (j + 1) m := by
  induction m with
  | zero => simp [vl]
  | succ m ih =>
    rw [vl, ih, vl, Int.pow_succ, show j + 1 + m = j + (m + 1) by omega, ← Int.mul_assoc, Int.mul_comm _ 16, ]
    omega
theorem vl_zeros (xs : List Int) (F m : Nat) (h : ∀ i, i < F → hv (xs.getD i 0) = 0) : vl xs 0 (F + m) = vl xs F m := by
  induction m with
  | zero =>
    have : ∀ G, G ≤ F → vl xs 0 G = 0 := by
      intro G
      induction G with
      | zero => intro _; rfl
      | succ G ih => intro hG; rw [vl, ih (by omega), Nat.zero_add, h G (by omega)]; rfl
    rw [Nat.add_zero, this F (Nat.le_refl _)]; rfl
  | succ m ih => rw [← Nat.add_assoc, vl, ih, vl, Nat.zero_add]
theorem vl_mono (xs : List Int) (T k : Nat) (h : AllHex xs T) (hk : k ≤ T) : vl xs 0 k ≤ vl xs 0 T := by
  induction T with
  | zero => obtain rfl : k = 0 := by omega
            exact Int.le_refl _
  | succ T ih =>
    by_cases e : k = T + 1
    · rw [e]; exact Int.le_refl _
    · have h1 := ih (fun i hi => h i (by omega)) (by omega)
      have h2 := h T (by omega)
      have h3 := vl_nonneg xs 0 T (fun i hi => by rw [Nat.zero_add]; exact h i (by omega))
      rw [vl, Nat.zero_add]; omega

/-- the model's leading digit -/
def Lead (xs : List Int) (k : Nat) (f : Int) : Prop :=
  AllHex xs k ∧ ((f = -1 ∧ ∀ i, i < k → hv (xs.getD i 0) = 0) ∨ (0 ≤ f ∧ f < k ∧ 0 < hv (xs.getD f.toNat 0) ∧ ∀ i, i < f.toNat → hv (xs.getD i 0) = 0))
theorem Lead_zero (xs : List Int) : Lead xs 0 (-1) := ⟨fun i h => absurd h (by omega), .inl ⟨rfl, fun i h => absurd h (by omega)⟩⟩
theorem AllHex.next {xs : List Int} {k : Nat} (h : AllHex xs k) (hk : 0 ≤ hv (xs.getD k 0)) : AllHex xs (k + 1) := fun i hi => by
  by_cases e : i = k
  · rw [e]; exact hk
  · exact h i (by omega)
theorem Lead.zero {xs : List Int} {k : Nat} {f : Int} (h : Lead xs k f) (hz : hv (xs.getD k 0) = 0) : Lead xs (k + 1) f := by
  refine ⟨h.1.next (by omega), ?_⟩
  rcases h.2 with ⟨rfl, h2⟩ | ⟨h1, h2, h3, h4⟩
  · refine .inl ⟨rfl, fun i hi => ?_⟩
    by_cases e : i = k
    · rw [e]; exact hz
    · exact h2 i (by omega)
  · exact .inr ⟨h1, by omega, h3, h4⟩
theorem Lead.first {xs : List Int} {k : Nat} {f : Int} (h : Lead xs k f) (hf : f < 0) (hz : 0 < hv (xs.getD k 0)) : Lead xs (k + 1) k := by
  refine ⟨h.1.next (by omega), ?_⟩
  rcases h.2 with ⟨rfl, h2⟩ | ⟨h1, h2, h3, h4⟩
  · exact .inr ⟨by omega, by omega, by simpa using hz, fun i hi => h2 i (by simpa using hi)⟩
  · omega
theorem Lead.later {xs : List Int} {k : Nat} {f : Int} (h : Lead xs k f) (hf : ¬ f < 0) (hz : 0 ≤ hv (xs.getD k 0)) : Lead xs (k + 1) f := by
  refine ⟨h.1.next (by omega), ?_⟩
  rcases h.2 with ⟨rfl, h2⟩ | ⟨h1, h2, h3, h4⟩
  · omega
  · exact .inr ⟨h1, by omega, h3, h4⟩

theorem Ans.empty (xs : List Int) : Ans xs 0 0 false := .inr ⟨fun h => absurd h.1 (by omega), rfl, rfl⟩
theorem Ans.bad {xs : List Int} {T k : Nat} (hk : k < T) (h : hv (xs.getD k 0) < 0) : Ans xs T 0 false := .inr ⟨fun g => by have := g.2.1 k hk; omega, rfl, rfl⟩
theorem Ans.zeros {xs : List Int} {T : Nat} {f : Int} (hT : 0 < T) (h : Lead xs T f) (hf : f < 0) : Ans xs T 0 true := by
  rcases h.2 with ⟨rfl, h2⟩ | ⟨h1, h2, h3, h4⟩
  · have := vl_zeros xs T 0 h2
    rw [Nat.add_zero] at this
    have e : vl xs 0 T = 0 := this
    exact .inl ⟨hT, h.1, by omega, e.symm, rfl⟩
  · omega
theorem Ans.over {xs : List Int} {T k : Nat} (hk : k < T) (h : 576460752303423487 < vl xs 0 k) : Ans xs T 0 false := by
  refine .inr ⟨fun g => ?_, rfl, rfl⟩
  have h1 := vl_mono xs T (k + 1) g.2.1 (by omega)
  have h2 := g.2.1 k hk
  rw [vl, Nat.zero_add] at h1
  omega
theorem Ans.good {xs : List Int} {T : Nat} (hT : 0 < T) (h : AllHex xs T) (hv : vl xs 0 T < 9223372036854775808) : Ans xs T (vl xs 0 T) true := .inl ⟨hT, h, hv, rfl, rfl⟩

/-- with the first digit that is not nought at F: the number's size -/
theorem lead_val {xs : List Int} {F L : Nat} (h : Lead xs (F + (L + 1)) F) : vl xs 0 (F + (L + 1)) = hv (xs.getD F 0) * 16 ^ L + vl xs (F + 1) L ∧ 0 ≤ vl xs (F + 1) L ∧ vl xs (F + 1) L < 16 ^ L ∧ 0 < hv (xs.getD F 0) := by
  rcases h.2 with ⟨h1, _⟩ | ⟨h1, h2, h3, h4⟩
  · omega
  · simp only [Int.toNat_natCast] at h3 h4
    refine ⟨by rw [vl_zeros xs F (L + 1) h4, vl_first], vl_nonneg _ _ _ (fun i hi => h.1 _ (by omega)), vl_lt _ _ _, h3⟩
theorem Ans.long {xs : List Int} {F L : Nat} (h : Lead xs (F + (L + 1)) F) (hL : 16 ≤ L) : Ans xs (F + (L + 1)) 0 false := by
  obtain ⟨h1, h2, h3, h4⟩ := lead_val h
  refine .inr ⟨fun g => ?_, rfl, rfl⟩
  have hp : (16 : Int) ^ 16 ≤ 16 ^ L := by
    have := Nat.pow_le_pow_right (n := 16) (by omega) hL
    exact_mod_cast this
  have hm : (1 : Int) * 16 ^ L ≤ hv (xs.getD F 0) * 16 ^ L := Int.mul_le_mul_of_nonneg_right (by omega) (by omega)
  have e16 : (16 : Int) ^ 16 = 18446744073709551616 := by decide
  have := g.2.2
  omega
theorem Ans.great {xs : List Int} {F : Nat} (h : Lead xs (F + 16) F) (hd : 7 < hv (xs.getD F 0)) : Ans xs (F + 16) 0 false := by
  obtain ⟨h1, h2, h3, h4⟩ := lead_val (L := 15) h
  rw [show F + (15 + 1) = F + 16 from rfl] at h1
  refine .inr ⟨fun g => ?_, rfl, rfl⟩
  have e15 : (16 : Int) ^ 15 = 1152921504606846976 := by decide
  rw [e15] at h1
  have := g.2.2
  omega
theorem lead_fits {xs : List Int} {F L : Nat} (h : Lead xs (F + (L + 1)) F) (hL : L ≤ 14 ∨ (L = 15 ∧ hv (xs.getD F 0) ≤ 7)) : vl xs 0 (F + (L + 1)) < 9223372036854775808 := by
  obtain ⟨h1, h2, h3, h4⟩ := lead_val h
  rcases hL with hL | ⟨rfl, hd⟩
  · have h15 := (hv_bd (xs.getD F 0)).2
    have hp : (16 : Int) ^ L ≤ 16 ^ 14 := by
      have := Nat.pow_le_pow_right (n := 16) (by omega) hL
      exact_mod_cast this
    have hm : hv (xs.getD F 0) * 16 ^ L ≤ 15 * 16 ^ L := Int.mul_le_mul_of_nonneg_right h15 (by omega)
    have e14 : (16 : Int) ^ 14 = 72057594037927936 := by decide
    omega
  · have e15 : (16 : Int) ^ 15 = 1152921504606846976 := by decide
    rw [e15] at h1 h3
    omega

theorem bor_comm (k : IntKind) (x y : Int) : bits .or k x y = bits .or k y x := by
  simp only [bits, BitVec.or_comm]
theorem two_pow4 (q : Nat) : (2 : Int) ^ (4 * q) = 16 ^ q := by rw [Int.pow_mul]; rfl
/-- the model's round: the next digit set ahead of those that have been read -/
theorem or_shift (V d : Int) (q : Nat) (hq : q ≤ 15) (h0 : 0 ≤ V) (h1 : V < 16 ^ q) (hd0 : 0 ≤ d) (hd1 : d ≤ 15) :
    bits .or .u64 V (IntKind.u64.wrap (d * 2 ^ (4 * q))) = V + d * 16 ^ q := by
  have hp : (16 : Int) ^ q ≤ 16 ^ 15 := by
    have := Nat.pow_le_pow_right (n := 16) (by omega) hq
    exact_mod_cast this
  have hpos : (0 : Int) < 16 ^ q := Int.pow_pos (by omega)
  have e15 : (16 : Int) ^ 15 = 1152921504606846976 := by decide
  have hm : d * 16 ^ q ≤ 15 * 16 ^ q := Int.mul_le_mul_of_nonneg_right hd1 (by omega)
  have hm0 : 0 ≤ d * 16 ^ q := Int.mul_nonneg hd0 (by omega)
  have e64 : (2 : Int) ^ 64 = 18446744073709551616 := by decide
  rw [two_pow4, IntKind.wrap_u64, Int.emod_eq_of_lt hm0 (by omega), bor_comm]
  rw [bits_join .u64 64 (by decide) (fun n a b => by rw [IntKind.wrap_u64]; omega) (4 * q) _ _ hm0 (by rw [two_pow4]; simp) (by omega) h0 (by rw [two_pow4]; exact h1) (by omega)]
  omega
/-- the parser's round -/
theorem or_low (S d : Int) (h0 : 0 ≤ S) (h1 : S ≤ 576460752303423487) (hd0 : 0 ≤ d) (hd1 : d ≤ 15) : bits .or .i64 (S * 16) d = 16 * S + d := by
  have e63 : (2 : Int) ^ 63 = 9223372036854775808 := by decide
  rw [bits_join .i64 63 (by decide) (fun n a b => by rw [IntKind.wrap_i64]; omega) 4 (S * 16) d (by omega) (by omega) (by omega) hd0 (by omega) (by omega)]
  omega
end Go.Proofs.Qxb6605477aDoor
