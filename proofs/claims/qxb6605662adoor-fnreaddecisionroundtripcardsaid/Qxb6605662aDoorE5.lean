import Derived.Test.Qxb6605662aDoorE1
import Derived.Lib.ConvBytes
set_option linter.unusedVariables false
set_option linter.unusedSimpArgs false
namespace Go.Proofs.Qxb6605662aDoor
open Go.RowKit
def YesNo (w : World) (e : Ending) (w' : World) : Prop := (e = .returned (.bool true) ∨ e = .returned (.bool false)) ∧ w' = w
set_option maxHeartbeats 1000000 in
theorem bytes14_any (tx co ci : ByteArray) (st : Int) (pu : Option Addr) (n c : Nat) (lay : Int) (w : World) (h1 : tx.size ≤ 9223372036854775807) (h2 : co.size ≤ 9223372036854775807) (h3 : ci.size ≤ 9223372036854775807) (h4 : n ≤ 9223372036854775807) :
    Calls Tryd.prog 14 #[.string tx, .string co, .string ci, .int .u64 st, .slice pu n c, .int .u8 lay] w fun e w' => YesNo w e w' := by
  go_enter Tryd.func14, Tryd.ntmps14
  go_wp2
  all_goals go_ret
  all_goals first
    | exact ⟨.inl rfl, rfl⟩
    | exact ⟨.inr rfl, rfl⟩
/-! ### zzPlainText -/
/-- a text with no quote, no backslash, no control byte; valid UTF-8 -/
structure PT (s : ByteArray) : Prop where
  b : ∀ i, i < s.size → (nums s).getD i 0 ≠ 34 ∧ ¬ ((nums s).getD i 0 = 92 ∨ (nums s).getD i 0 < 32)
  v : vu (nums s) = true
def PtOut (s : ByteArray) (w : World) (e : Ending) (w' : World) : Prop := ((e = .returned (.bool true) ∧ PT s) ∨ e = .returned (.bool false)) ∧ Below w.heap.size w w'
theorem nums_at (s : ByteArray) (i : Nat) (h : i < s.size) : (nums s).getD i 0 = ((s[i]'h).toNat : Int) := by
  unfold nums
  rw [List.getD_eq_getElem?_getD, List.getElem?_map, List.getElem?_eq_getElem (by rw [Array.length_toList]; exact h)]
  rfl
theorem nums_InB (s : ByteArray) : InB (nums s) := fun i => by
  by_cases h : i < s.size
  · rw [nums_at s i h]
    have := (s[i]'h).toNat_lt
    omega
  · rw [List.getD_eq_getElem?_getD, List.getElem?_eq_none (by rw [nums_length]; omega)]
    exact ⟨Int.le_refl _, by decide⟩
set_option maxHeartbeats 2000000 in
set_option maxRecDepth 100000 in
theorem plainText_any (s : ByteArray) (w : World) (hs : s.size ≤ 262144) : Calls Tryd.prog 15 #[.string s] w fun e w' => PtOut s w e w' := by
  have kc := Lib.run_convert_string_bytes (P := Tryd.prog) w 9 22 5 s Tryd.underlying9 Tryd.underlying22 Tryd.underlying5
  have hB : Below w.heap.size w (Lib.bytesWorld w 5 s) := ⟨rfl, rfl, rfl, by rw [Lib.bytesWorld_size]; omega, fun k hk => Lib.bytesWorld_at_old w 5 s k hk⟩
  have hzv := zzvalid_any (some ⟨w.heap.size, 0, none⟩) s.size (grownCap w s.size 0 5) (nums s) (Lib.bytesWorld w 5 s) (by omega) (nums_length s) (nums_InB s) (fun i hi => ⟨w.heap.size, 0, rfl, by
    rw [Nat.zero_add, Lib.bytesWorld_cell w 5 s i hi, nums_at s i hi]
    rw [List.getD_eq_getElem?_getD, List.getElem?_eq_getElem (by rw [Array.length_toList]; exact hi)]
    rfl⟩)
  obtain ⟨N, HN⟩ : ∃ N, Hid (s.size = N) := ⟨_, rfl⟩
  have HB : Hid (Below w.heap.size w (Lib.bytesWorld w 5 s)) := hB
  obtain ⟨V, HV⟩ : ∃ V, Hid (vu (nums s) = V) := ⟨_, rfl⟩
  rw [HV.out] at hzv
  have HZV : Hid (Calls Tryd.prog 28 #[.slice (some ⟨w.heap.size, 0, none⟩) s.size (grownCap w s.size 0 5)] (Lib.bytesWorld w 5 s) fun e w' => e = .returned (.bool V) ∧ w' = Lib.bytesWorld w 5 s) := hzv
  clear hzv hB
  go_enter Tryd.func15, Tryd.ntmps15
  go_wp2
  go_loop [3] (fun i => ∃ j : Nat, j ≤ s.size ∧ i = .int .i64 j ∧ Hid (∀ i, i < j → (nums s).getD i 0 ≠ 34 ∧ ¬ ((nums s).getD i 0 = 92 ∨ (nums s).getD i 0 < 32))) (fun i => s.size - (intOf i).toNat)
  case atStart => exact ⟨0, Nat.zero_le _, rfl, fun i hi => by omega⟩
  case round =>
    obtain ⟨j, hj, rfl, HA⟩ := hrel
    by_cases hjn : j < s.size
    · have hji : (j : Int) < s.size := by omega
      obtain ⟨u, hu⟩ : ∃ u, s[j]'hjn = u := ⟨_, rfl⟩
      have HU : Hid ((nums s).getD j 0 = (u.toNat : Int)) := by show _ = _; rw [nums_at s j hjn, hu]
      have hu256 := u.toNat_lt
      by_cases h34 : u.toNat = 34
      · have g1 : ((u.toNat : Int) == 34) = true := beq_iff_eq.2 (by omega)
        go_wp2
        go_ret
        exact ⟨.inr rfl, Below.refl _ _⟩
      have g1 : ((u.toNat : Int) == 34) = false := beq_eq_false_iff_ne.2 (by omega)
      by_cases h92 : u.toNat = 92
      · have g2 : ((u.toNat : Int) == 92) = true := beq_iff_eq.2 (by omega)
        go_wp2
        go_ret
        exact ⟨.inr rfl, Below.refl _ _⟩
      have g2 : ((u.toNat : Int) == 92) = false := beq_eq_false_iff_ne.2 (by omega)
      by_cases h32 : u.toNat < 32
      · have g3 : (u.toNat : Int) < 32 := by omega
        go_wp2
        go_ret
        exact ⟨.inr rfl, Below.refl _ _⟩
      have g3 : ¬ (u.toNat : Int) < 32 := by omega
      have HA2 : Hid (∀ i, i < j + 1 → (nums s).getD i 0 ≠ 34 ∧ ¬ ((nums s).getD i 0 = 92 ∨ (nums s).getD i 0 < 32)) := fun i hi => by
        by_cases hij : i = j
        · subst hij
          rw [HU.out]
          omega
        · exact HA.out i (by omega)
      clear h34 h92 h32
      go_wp2
      go_round
      case rel => exact ⟨j + 1, by omega, by go_num, HA2⟩
      case measure => simp [intOf]; omega
    · have hji : ¬ (j : Int) < s.size := by omega
      obtain rfl : j = s.size := by omega
      go_wp2_with fail
      refine HZV.out.mono ?_
      rintro e w1 ⟨rfl, hw⟩
      have HW1 : Hid (w1 = Lib.bytesWorld w 5 s) := hw
      clear hw
      go_wp2_with fail
      go_ret
      refine ⟨?_, by rw [HW1.out]; exact HB.out⟩
      cases V with
      | true => exact .inl ⟨rfl, HA.out, HV.out⟩
      | false => exact .inr rfl
end Go.Proofs.Qxb6605662aDoor
