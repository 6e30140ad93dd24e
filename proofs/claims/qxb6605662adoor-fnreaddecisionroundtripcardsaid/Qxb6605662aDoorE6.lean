import Derived.Test.Qxb6605662aDoorE1
import Derived.Test.Qxb6605662aDoorD2
set_option linter.unusedVariables false
set_option linter.unusedSimpArgs false
namespace Go.Proofs.Qxb6605662aDoor
open Go.RowKit
/-! ### zzCloneU64 -/
def Ub (w : World) (g : Nat) (l : List Int) : Prop := w.heap[g]? = some (.cells (l.map (Value.int .u64)).toArray 25 (0, 0))
theorem Ub.c {w : World} {g : Nat} {l : List Int} (h : Ub w g l) (k : Nat) (hk : k < l.length) : w.cell? ⟨g, k, none⟩ = some (.int .u64 (l.getD k 0)) := by
  have := cell_of_row w g k _ 25 (0, 0) h
  rw [this]
  simp [List.getD_eq_getElem?_getD, List.getElem?_eq_getElem hk]
theorem Ub.fz {w : World} {g : Nat} {l : List Int} (h : Ub w g l) (k : Nat) : w.frozen? ⟨g, k, none⟩ = false := frozen_of_row w g k _ 25 h
theorem Ub.set {w : World} {g : Nat} {l : List Int} (h : Ub w g l) (k : Nat) (x : Int) : Ub (w.setCell ⟨g, k, none⟩ (.int .u64 x)) g (l.set k x) := by
  have := heap_setCell_same w g k _ 25 (.int .u64 x) h
  unfold Ub
  rw [this]
  congr 2
  apply Array.ext'
  simp [List.map_set]
theorem cloneU_nil (w : World) : Calls Tryd.prog 16 #[.slice none 0 0] w fun e w' => e = .returned (.slice none 0 0) ∧ w' = w := by
  have q26 : ∀ (w : World) (a : Option Addr) (n c n' c' : Nat), (binOp .eql 26 (.slice a n c) (.slice none n' c')).run Tryd.prog w = .ok (.bool a.isNone) w := fun w a n c n' c' => Lib.run_eql_slice_nil w _ _ a n c n' c' Tryd.underlying26
  go_enter Tryd.func16, Tryd.ntmps16
  go_wp2
  go_ret
  exact ⟨rfl, rfl⟩
set_option maxHeartbeats 2000000 in
theorem cloneU_some (b o n c : Nat) (us : List Int) (w : World) (hn : n ≤ 32768) (hx : us.length = n) (hc : ∀ i, i < n → w.cell? ⟨b, o + i, none⟩ = some (.int .u64 (us.getD i 0))) :
    Calls Tryd.prog 16 #[.slice (some ⟨b, o, none⟩) n c] w fun e w' => e = .returned (.slice (some ⟨w.heap.size, 0, none⟩) n n) ∧ (∀ i, i < n → w'.cell? ⟨w.heap.size, i, none⟩ = some (.int .u64 (us.getD i 0))) ∧ Below w.heap.size w w' ∧ w.heap.size < w'.heap.size := by
  have q26 : ∀ (w : World) (a : Option Addr) (n c n' c' : Nat), (binOp .eql 26 (.slice a n c) (.slice none n' c')).run Tryd.prog w = .ok (.bool a.isNone) w := fun w a n c n' c' => Lib.run_eql_slice_nil w _ _ a n c n' c' Tryd.underlying26
  obtain ⟨i25, hi, hz0, hz1, hz2⟩ := info_parts Tryd.info25
  have HC : Hid (∀ i, i < n → w.cell? ⟨b, o + i, none⟩ = some (.int .u64 (us.getD i 0))) := hc
  have HX : Hid (us.length = n) := hx
  obtain ⟨g, HG⟩ : ∃ g, Hid (w.heap.size = g) := ⟨_, rfl⟩
  clear hc hx
  rw [HG.out]
  go_enter Tryd.func16, Tryd.ntmps16
  go_wp2_with (refine wpList_make_row _ rfl (.tmp 8) (.tmp 8) 26 rfl 25 i25 (.int .u64 0) Tryd.underlying26 hi hz0 hz1 rfl .i64 .i64 n rfl rfl (by rw [hz2]; omega) (by omega) ?_)
  rw [HG.out]
  have HU0 : Hid (Ub (w.alloc (.cells (madeCells #[.int .u64 0] n) 25)) g (List.replicate n 0)) := by
    rw [← HG.out]
    have hm : madeCells #[.int .u64 0] n = ((List.replicate n (0 : Int)).map (Value.int .u64)).toArray := by
      apply Array.ext
      · simp [size_madeCells]
      · intro i h1 h2
        simp [madeCells, Nat.mod_one]
    rw [hm]
    exact heap_alloc_new w _
  go_loopw [4] (fun a4 wr => ∃ (j : Nat) (l : List Int), j ≤ n ∧ a4 = .int .i64 j ∧ Hid (l.length = n) ∧ Hid (Ub wr g l) ∧ Hid (∀ k, k < j → l.getD k 0 = us.getD k 0) ∧ Hid (Below g w wr) ∧ Hid (g < wr.heap.size)) (fun a4 _ => n - (intOf a4).toNat)
  case atStart => exact ⟨0, List.replicate n 0, Nat.zero_le _, rfl, by show _ = _; simp, HU0, fun k hk => by omega, by rw [← HG.out]; exact (Below.refl _ _).alloc (Nat.le_refl _) _, by rw [← HG.out]; show w.heap.size < _; simp⟩
  case round =>
    obtain ⟨j, l, hj, rfl, HL, HU, HP, HB, HS⟩ := hrel
    clear HU0
    by_cases hjn : j < n
    · have hji : (j : Int) < n := by omega
      have hcw := HC.out j hjn
      have hlt : b < w.heap.size := World.block_lt_of_cell? _ _ hcw
      have hcr : wr.cell? ⟨b, o + j, none⟩ = some (.int .u64 (us.getD j 0)) := (HB.out.cell (p := ⟨b, o + j, none⟩) (by have := HG.out; show b < g; omega)).trans hcw
      have hcg := HU.out.c j (by rw [HL.out]; exact hjn)
      have hfg := HU.out.fz j
      have hbg : b ≠ g := by have := HG.out; omega
      generalize l.getD j 0 = z at hcg
      obtain ⟨x, HX2⟩ : ∃ x, Hid (us.getD j 0 = x) := ⟨_, rfl⟩
      rw [HX2.out] at hcr
      clear hcw
      go_wp2
      go_roundw
      case rel =>
        refine ⟨j + 1, l.set j x, by omega, by go_num, by show _ = _; rw [List.length_set]; exact HL.out, HU.out.set j x, fun k hk => ?_, ?_, by show _ < _; simpa using HS.out⟩
        · by_cases hkj : k = j
          · subst hkj
            rw [List.getD_eq_getElem?_getD, List.getElem?_set_self (by rw [HL.out]; exact hjn), HX2.out]
            rfl
          · rw [List.getD_eq_getElem?_getD, List.getElem?_set_ne (by omega), ← List.getD_eq_getElem?_getD]
            exact HP.out k (by omega)
        · exact ⟨HB.out.os, HB.out.tape, HB.out.output, by simpa using HB.out.size, fun k hk => (heap_setCell_other wr ⟨g, j, none⟩ k _ (fun e => by simp at e; omega)).trans (HB.out.block k hk)⟩
      case measure => simp [intOf]; omega
    · have hji : ¬ (j : Int) < n := by omega
      obtain rfl : j = n := by omega
      go_wp2
      go_ret
      exact ⟨rfl, fun i hi => by have h := HU.out.c i (by rw [HL.out]; exact hi); rw [HP.out i hi] at h; simpa using h, HB.out, HS.out⟩
end Go.Proofs.Qxb6605662aDoor
