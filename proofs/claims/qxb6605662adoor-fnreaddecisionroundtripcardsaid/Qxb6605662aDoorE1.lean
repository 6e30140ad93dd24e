import Derived.Test.Qxb6605662aDoorM1
import Derived.Test.Qxb6605662aDoorH1
import Derived.Deep.AppendLies
import Derived.Laws.IdiomStrings
set_option linter.unusedVariables false
set_option linter.unusedSimpArgs false
namespace Go.Proofs.Qxb6605662aDoor
open Go.RowKit

/-! ### a text under way, in a row of the call's own -/
def OwnB (w : World) (B : Nat) (v : Value) (L : List Int) : Prop := w.ownsRow B 5 1 v L.length (L.map (Value.int .u8))
/-- a string's bytes as numbers -/
def nums (s : ByteArray) : List Int := s.data.toList.map fun b => (b.toNat : Int)
theorem nums_length (s : ByteArray) : (nums s).length = s.size := by unfold nums; rw [List.length_map, Array.length_toList]; rfl
theorem nums_length' (s : ByteArray) : s.size = (nums s).length := (nums_length s).symm
theorem nums_cells (s : ByteArray) : Lib.strCells s = (nums s).map (Value.int .u8) := by unfold Lib.strCells nums; rw [List.map_map]; rfl
theorem OwnB.of {w : World} {B : Nat} {v : Value} {L : List Int} {n : Nat} {cs : List Value} (h : w.ownsRow B 5 1 v n cs) (hn : n = L.length) (hc : cs = L.map (Value.int .u8)) : OwnB w B v L := by subst hn; subst hc; exact h
/-- what an append leaves -/
def AppOut (B : Nat) (L : List Int) (w : World) (e : Ending) (w' : World) : Prop := ∃ v', e = .returned v' ∧ OwnB w' B v' L ∧ Below B w w'
def qs (s : ByteArray) : List Int := [34] ++ nums s ++ [34]
set_option maxHeartbeats 2000000 in
theorem appStr_any (B : Nat) (v : Value) (L : List Int) (s : ByteArray) (w : World) (hO : OwnB w B v L) (hB : B ≤ w.heap.size) (hL : L.length + s.size + 2 ≤ 1073741824) :
    Calls Tryd.prog 29 #[v, .string s] w fun e w' => AppOut B (L ++ qs s) w e w' := by
  obtain ⟨i5, hi, hz0, hz1, hz2⟩ := info_parts Tryd.info5
  have HO0 : Hid (w.ownsRow B 5 1 v L.length (L.map (Value.int .u8))) := hO
  have HBB : Hid (B ≤ w.heap.size) := hB
  have hm : maxLen = maxLen := rfl
  clear hO hB
  go_enter Tryd.func29, Tryd.ntmps29
  go_wp2_with (first
    | (at_builtin; refine wpList_append_own_at _ rfl _ _ _ rfl B 5 i5 _ 1 1 Tryd.underlying22 hi hz0 hz1 hz2 rfl (by omega) v L.length (L.map (Value.int .u8)) (by rfl) (HO0.out.alloc _) ⟨w.heap.size, 0, none⟩ 1 1 [.int .u8 34] (by rfl) (by rfl) (World.news_of_block (cs := #[.int .u8 34]) (t := 5) (fr := (0, 0)) (heap_alloc_new w _)) (by simp [Value.oneCell']) (by unfold maxLen; omega) (by omega) (by have := HBB.out; simp; omega) ?_; intro v1 w1 ho1 hg1 _ _; have HO1 : Hid (w1.ownsRow B 5 1 v1 (L.length + 1) (L.map (Value.int .u8) ++ [.int .u8 34])) := ho1; have HB1 : Hid (Below B w w1) := ((Below.refl B w).alloc HBB.out _).grown hg1 (by have := HBB.out; simp; omega) (fun k hk => ((HO0.out.alloc (.cells #[.int .u8 34] 5)).lt k hk).1); clear ho1 hg1)
    | (at_builtin; refine Lib.wpList_append_own_string _ rfl _ _ 22 9 rfl B 5 i5 Tryd.underlying22 Tryd.underlying9 hi hz0 hz1 hz2 v1 (L.length + 1) _ (by rfl) HO1.out s (by rfl) (by unfold maxLen; omega) (by omega) (Nat.le_trans HBB.out HB1.out.size) ?_; intro v2 w2 ho2 hg2 _; have HO2 : Hid (w2.ownsRow B 5 1 v2 (L.length + 1 + s.size) (L.map (Value.int .u8) ++ [.int .u8 34] ++ Lib.strCells s)) := ho2; have HB2 : Hid (Below B w w2) := HB1.out.grown hg2 (Nat.le_trans HBB.out HB1.out.size) (fun k hk => (HO1.out.lt k hk).1); clear ho2 hg2)
    | (at_builtin; refine wpList_append_own_at _ rfl _ _ _ rfl B 5 i5 _ 1 1 Tryd.underlying22 hi hz0 hz1 hz2 rfl (by omega) v2 (L.length + 1 + s.size) _ (by rfl) (HO2.out.alloc _) ⟨w2.heap.size, 0, none⟩ 1 1 [.int .u8 34] (by rfl) (by rfl) (World.news_of_block (cs := #[.int .u8 34]) (t := 5) (fr := (0, 0)) (heap_alloc_new w2 _)) (by simp [Value.oneCell']) (by unfold maxLen; omega) (by omega) (by have := HBB.out; have := HB2.out.size; simp; omega) ?_; intro v3 w3 ho3 hg3 _ _; have HO3 : Hid (w3.ownsRow B 5 1 v3 (L.length + 1 + s.size + 1) (L.map (Value.int .u8) ++ [.int .u8 34] ++ Lib.strCells s ++ [.int .u8 34])) := ho3; have HB3 : Hid (Below B w w3) := (HB2.out.alloc (Nat.le_trans HBB.out HB2.out.size) _).grown hg3 (by have := HBB.out; have := HB2.out.size; simp; omega) (fun k hk => ((HO2.out.alloc (.cells #[.int .u8 34] 5)).lt k hk).1); clear ho3 hg3))
  go_ret
  refine ⟨v3, rfl, OwnB.of HO3.out ?_ ?_, HB3.out⟩
  · unfold qs; rw [List.length_append, List.length_append, List.length_append, nums_length]; simp; omega
  · unfold qs; rw [nums_cells]; simp
def cl (W : ByteArray) : List Int := nums W ++ [58] ++ nums W
set_option maxHeartbeats 2000000 in
theorem colon_any (B : Nat) (v : Value) (L : List Int) (s : ByteArray) (w : World) (hO : OwnB w B v L) (hB : B ≤ w.heap.size) (hL : L.length + s.size + s.size + 1 ≤ 1073741824) :
    Calls Tryd.prog 30 #[v, .string s] w fun e w' => AppOut B (L ++ cl s) w e w' := by
  obtain ⟨i5, hi, hz0, hz1, hz2⟩ := info_parts Tryd.info5
  have HO0 : Hid (w.ownsRow B 5 1 v L.length (L.map (Value.int .u8))) := hO
  have HBB : Hid (B ≤ w.heap.size) := hB
  clear hO hB
  go_enter Tryd.func30, Tryd.ntmps30
  go_wp2_with (first
    | (at_builtin; refine Lib.wpList_append_own_string _ rfl _ _ 22 9 rfl B 5 i5 Tryd.underlying22 Tryd.underlying9 hi hz0 hz1 hz2 v L.length _ (by rfl) HO0.out s (by rfl) (by unfold maxLen; omega) (by omega) HBB.out ?_; intro v1 w1 ho1 hg1 _; have HO1 : Hid (w1.ownsRow B 5 1 v1 (L.length + s.size) (L.map (Value.int .u8) ++ Lib.strCells s)) := ho1; have HB1 : Hid (Below B w w1) := (Below.refl B w).grown hg1 HBB.out (fun k hk => (HO0.out.lt k hk).1); clear ho1 hg1)
    | (at_builtin; refine wpList_append_own_at _ rfl _ _ _ rfl B 5 i5 _ 1 1 Tryd.underlying22 hi hz0 hz1 hz2 rfl (by omega) v1 (L.length + s.size) _ (by rfl) (HO1.out.alloc _) ⟨w1.heap.size, 0, none⟩ 1 1 [.int .u8 58] (by rfl) (by rfl) (World.news_of_block (cs := #[.int .u8 58]) (t := 5) (fr := (0, 0)) (heap_alloc_new w1 _)) (by simp [Value.oneCell']) (by unfold maxLen; omega) (by omega) (by have := HBB.out; have := HB1.out.size; simp; omega) ?_; intro v2 w2 ho2 hg2 _ _; have HO2 : Hid (w2.ownsRow B 5 1 v2 (L.length + s.size + 1) (L.map (Value.int .u8) ++ Lib.strCells s ++ [.int .u8 58])) := ho2; have HB2 : Hid (Below B w w2) := (HB1.out.alloc (Nat.le_trans HBB.out HB1.out.size) _).grown hg2 (by have := HBB.out; have := HB1.out.size; simp; omega) (fun k hk => ((HO1.out.alloc (.cells #[.int .u8 58] 5)).lt k hk).1); clear ho2 hg2)
    | (at_builtin; refine Lib.wpList_append_own_string _ rfl _ _ 22 9 rfl B 5 i5 Tryd.underlying22 Tryd.underlying9 hi hz0 hz1 hz2 v2 (L.length + s.size + 1) _ (by rfl) HO2.out s (by rfl) (by unfold maxLen; omega) (by omega) (Nat.le_trans HBB.out HB2.out.size) ?_; intro v3 w3 ho3 hg3 _; have HO3 : Hid (w3.ownsRow B 5 1 v3 (L.length + s.size + 1 + s.size) (L.map (Value.int .u8) ++ Lib.strCells s ++ [.int .u8 58] ++ Lib.strCells s)) := ho3; have HB3 : Hid (Below B w w3) := HB2.out.grown hg3 (Nat.le_trans HBB.out HB2.out.size) (fun k hk => (HO2.out.lt k hk).1); clear ho3 hg3))
  go_ret
  refine ⟨v3, rfl, OwnB.of HO3.out ?_ ?_, HB3.out⟩
  · unfold cl; rw [List.length_append, List.length_append, List.length_append, nums_length]; simp; omega
  · unfold cl; rw [nums_cells]; simp
end Go.Proofs.Qxb6605662aDoor
