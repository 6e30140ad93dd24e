import Derived.Test.Qxb6605477aDoorRows
import Derived.WalkKit
import Derived.WalkSpells
import Derived.WalkLawsBesides
import Derived.Deep.OwnRows
namespace Go.Proofs.Qxb6605477aDoor
open Go.RowKit
def digs : List Int := [48, 49, 50, 51, 52, 53, 54, 55, 56, 57, 97, 98, 99, 100, 101, 102, 65, 66, 67, 68, 69, 70]
def hv (c : Int) : Int :=
  if 48 ≤ c ∧ c ≤ 57 then c - 48 else if 97 ≤ c ∧ c ≤ 102 then c - 87 else if 65 ≤ c ∧ c ≤ 70 then c - 55 else -1
def digBytes : ByteArray := { data := #[48, 49, 50, 51, 52, 53, 54, 55, 56, 57, 97, 98, 99, 100, 101, 102, 65, 66, 67, 68, 69, 70] }
theorem digs_at (k : Nat) (hp : k < digBytes.size) : ((digBytes[k]'hp).toNat : Int) = digs.getD k 0 := by
  have h : ∀ k : Fin 22, ((digBytes[k.1]'k.2).toNat : Int) = digs.getD k.1 0 := by decide
  exact h ⟨k, hp⟩
theorem hv_digs (k : Nat) (h : k < 22) : hv (digs.getD k 0) = if k < 16 then (k : Int) else (k : Int) - 6 := by
  have h : ∀ k : Fin 22, hv (digs.getD k.1 0) = if k.1 < 16 then (k.1 : Int) else (k.1 : Int) - 6 := by decide
  exact h ⟨k, by assumption⟩
theorem hv_none (c : Int) (h : ∀ j, j < 22 → digs.getD j 0 ≠ c) : hv c = -1 := by
  unfold hv
  split
  · rename_i h1
    have := h (c - 48).toNat (by omega)
    have e : ∀ k : Nat, k < 10 → digs.getD k 0 = (k : Int) + 48 := by decide
    have := e (c - 48).toNat (by omega)
    omega
  · split
    · rename_i h1
      have := h (c - 87).toNat (by omega)
      have e : ∀ k : Nat, k < 16 → 10 ≤ k → digs.getD k 0 = (k : Int) + 87 := by decide
      have := e (c - 87).toNat (by omega) (by omega)
      omega
    · split
      · rename_i h1
        have := h (c - 49).toNat (by omega)
        have e : ∀ k : Nat, k < 22 → 16 ≤ k → digs.getD k 0 = (k : Int) + 49 := by decide
        have := e (c - 49).toNat (by omega) (by omega)
        omega
      · rfl
theorem ret_int {k : IntKind} {a b : Int} (h : a = b) : Ending.returned (.int k a) = .returned (.int k b) := by rw [h]

set_option maxHeartbeats 400000 in
theorem hexVal_any (c : Int) (w : World) :
    Calls Tryd.prog 12 #[.int .u8 c] w fun e w' => e = .returned (.int .i64 (hv c)) ∧ w' = w := by
  go_enter Tryd.func12, Tryd.ntmps12
  go_wp2
  go_loop [3] (fun i => ∃ k : Nat, k ≤ 22 ∧ i = .int .i64 k ∧ ∀ j, j < k → digs.getD j 0 ≠ c) (fun i => 22 - (intOf i).toNat)
  case atStart => exact ⟨0, by omega, rfl, fun j hj => absurd hj (by omega)⟩
  case round =>
    obtain ⟨k, hk, rfl, hn⟩ := hrel
    by_cases hlt : k < 22
    · have hp : k < digBytes.size := hlt
      go_wp2
      · have h1 : ((digBytes[k]'hp).toNat == c) = true := by assumption
        rw [digs_at, beq_iff_eq] at h1
        have h2 := hv_digs k hlt
        rw [h1, if_pos (by omega)] at h2
        go_ret
        exact ⟨ret_int h2.symm, rfl⟩
      · have h1 : ((digBytes[k]'hp).toNat == c) = true := by assumption
        rw [digs_at, beq_iff_eq] at h1
        have h2 := hv_digs k hlt
        rw [h1, if_neg (by omega)] at h2
        go_ret
        exact ⟨ret_int h2.symm, rfl⟩
      · have h1 : ((digBytes[k]'hp).toNat == c) = false := by assumption
        rw [digs_at, beq_eq_false_iff_ne] at h1
        go_round
        case rel => 
          refine ⟨k + 1, by omega, by go_num, fun j hj => ?_⟩
          by_cases e : j = k
          · rw [e]; exact h1
          · exact hn j (by omega)
        case measure => simp [intOf]; omega
    · go_wp2
      have h2 := hv_none c (fun j hj => hn j (by omega))
      go_ret
      exact ⟨ret_int h2.symm, rfl⟩
theorem Tryd.info5 : (Tryd.prog.info? 5).map (fun i => (i.zero, i.size, i.bytes)) = some (some (.int .u8 0), 1, 1) := by kernel_rfl

theorem fill_step {α : Type} (f : Int → α) (z : α) (xs : List Int) (n k : Nat) (hx : xs.length = n) (hk : k < n) :
    ((xs.take k).map f ++ List.replicate (n - k) z).set k (f (xs.getD k 0)) = (xs.take (k + 1)).map f ++ List.replicate (n - (k + 1)) z := by
  apply List.ext_getElem?
  intro j
  have hl : ((xs.take k).map f).length = k := by simp; omega
  rw [List.getElem?_set]
  by_cases e : k = j
  · subst e
    rw [if_pos rfl, if_pos (by simp; omega)]
    rw [List.getElem?_append_left (by simp; omega)]
    simp [show k < xs.length by omega]
  · rw [if_neg e]
    by_cases h : j < k
    · rw [List.getElem?_append_left (by omega), List.getElem?_append_left (by simp; omega)]
      simp [h, show j < k + 1 by omega]
    · rw [List.getElem?_append_right (by omega), List.getElem?_append_right (by simp; omega)]
      simp only [List.getElem?_replicate, hl]
      have hl2 : ((xs.take (k + 1)).map f).length = k + 1 := by simp; omega
      rw [hl2]
      by_cases h2 : j < n
      · rw [if_pos (by omega), if_pos (by omega)]
      · rw [if_neg (by omega), if_neg (by omega)]

theorem clone_nil (w : World) :
    Calls Tryd.prog 6 #[.slice none 0 0] w fun e w' => e = .returned (.slice none 0 0) ∧ w' = w := by
  have q22 : ∀ (w : World) (a : Option Addr) (n c n' c' : Nat), (binOp .eql 22 (.slice a n c) (.slice none n' c')).run Tryd.prog w = .ok (.bool a.isNone) w := fun w a n c n' c' => Lib.run_eql_slice_nil w _ _ a n c n' c' Tryd.underlying22
  go_enter Tryd.func6, Tryd.ntmps6
  go_wp2
  go_ret
  exact ⟨rfl, rfl⟩

set_option maxHeartbeats 400000 in
theorem clone_some (a : Addr) (n c : Nat) (xs : List Int) (w : World) (hn : n ≤ 1048576) (hx : xs.length = n) (hc : ∀ i, i < n → w.cell? (a.add i) = some (.int .u8 (xs.getD i 0))) :
    Calls Tryd.prog 6 #[.slice (some a) n c] w fun e w' => e = .returned (.slice (some ⟨w.heap.size, 0, none⟩) n n) ∧ w'.ownsRow w.heap.size 5 1 (.slice (some ⟨w.heap.size, 0, none⟩) n n) n (xs.map (Value.int .u8)) ∧ Below w.heap.size w w' := by
  have q22 : ∀ (w : World) (a : Option Addr) (n c n' c' : Nat), (binOp .eql 22 (.slice a n c) (.slice none n' c')).run Tryd.prog w = .ok (.bool a.isNone) w := fun w a n c n' c' => Lib.run_eql_slice_nil w _ _ a n c n' c' Tryd.underlying22
  obtain ⟨i5, hi, hz0, hz1, hz2⟩ := info_parts Tryd.info5
  go_enter Tryd.func6, Tryd.ntmps6
  go_wp2_with (refine wpList_make_full _ rfl (.tmp 8) (.tmp 8) 22 rfl w.heap.size 5 i5 (.int .u8 0) 1 Tryd.underlying22 hi hz0 hz1 .i64 .i64 _ _ n rfl rfl rfl rfl (by rw [hz2]; omega) (by unfold maxLen; omega) (Nat.le_refl _) ?_; intro w1 hown hgrow)
  go_loopw [4] (fun i wr => ∃ k : Nat, k ≤ n ∧ i = .int .i64 k ∧ wr.ownsRow w.heap.size 5 1 (.slice (some ⟨w.heap.size, 0, none⟩) n n) n ((xs.take k).map (Value.int .u8) ++ List.replicate (n - k) (.int .u8 0)) ∧ Below w.heap.size w wr) (fun i _ => n - (intOf i).toNat)
  case atStart => exact ⟨0, by omega, rfl, by simpa [Value.cells, toList_madeCells_one] using hown, (Below.refl _ _).grown hgrow (Nat.le_refl _) (by simp)⟩
  case round =>
    obtain ⟨k, hk, rfl, ho, hb⟩ := hrel
    by_cases hlt : k < n
    · have hbw : (a.add k).block < w.heap.size := World.block_lt_of_cell? w _ (hc k hlt)
      have hcx : wr.cell? (a.add k) = some (.int .u8 (xs.getD k 0)) := (hb.cell (by exact hbw)).trans (hc k hlt)
      obtain ⟨u, hcd⟩ : ∃ u, wr.cell? ⟨w.heap.size, k, none⟩ = some u := ⟨_, (ho.cellAt k (by omega)).trans (List.getElem?_eq_getElem (by simp; omega))⟩
      have hfd := ho.frozenAt k
      have R := (ho.stored k (.int .u8 (xs.getD k 0))).1
      rw [fill_step _ _ xs n k hx hlt] at R
      have hb2 := hb.setCell (p := ⟨w.heap.size, k, none⟩) (Nat.le_refl _) (.int .u8 (xs.getD k 0))
      have HR : Hid _ := And.intro R hb2
      clear R hb2 ho hb
      go_wp2
      go_roundw
      case rel =>
        rw [List.getD_eq_getElem?_getD, List.getElem?_eq_getElem (by omega)] at HR
        exact ⟨k + 1, by omega, by go_num, HR.out.1, HR.out.2⟩
      case measure => simp [intOf]; omega
    · obtain rfl : k = n := by omega
      go_wp2
      go_ret
      rw [List.take_of_length_le (by omega)] at ho
      exact ⟨rfl, by simpa using ho, hb⟩
end Go.Proofs.Qxb6605477aDoor
