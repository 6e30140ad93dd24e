import Derived.Test.Qxb6605662aDoorE1
import Derived.Test.Qxb6605662aDoorH2
set_option linter.unusedVariables false
set_option linter.unusedSimpArgs false
namespace Go.Proofs.Qxb6605662aDoor
open Go.RowKit
/-- twenty bytes in a block -/
def Tb (w : World) (T : Nat) (l : List Int) : Prop := l.length = 20 ∧ w.heap[T]? = some (.cells (l.map (Value.int .u8)).toArray 75 (0, 0))
theorem Tb.c {w : World} {T : Nat} {l : List Int} (h : Tb w T l) (k : Nat) (hk : k < 20) : w.cell? ⟨T, k, none⟩ = some (.int .u8 (l.getD k 0)) := by
  have := cell_of_row w T k _ 75 (0, 0) h.2
  rw [this]
  have hl := h.1
  simp [List.getD_eq_getElem?_getD, List.getElem?_eq_getElem (show k < l.length by omega)]
theorem Tb.fz {w : World} {T : Nat} {l : List Int} (h : Tb w T l) (k : Nat) : w.frozen? ⟨T, k, none⟩ = false := frozen_of_row w T k _ 75 h.2
theorem Tb.set {w : World} {T : Nat} {l : List Int} (h : Tb w T l) (k : Nat) (x : Int) : Tb (w.setCell ⟨T, k, none⟩ (.int .u8 x)) T (l.set k x) := by
  refine ⟨by rw [List.length_set]; exact h.1, ?_⟩
  have := heap_setCell_same w T k _ 75 (.int .u8 x) h.2
  rw [this]
  congr 2
  apply Array.ext'
  simp [List.map_set]
theorem slice20 (W : World) (T i : Nat) (hi : i < 20) : (Instr.sliceAt 75 (.pointer (some ⟨T, 0, none⟩)) (some (.int .i64 i)) none none).run Tryd.prog W = .ok (.slice (some ⟨T, i, none⟩) (20 - i : Nat) (20 - i : Nat)) W := by
  have hal : Tryd.prog.arrayLen 75 = 20 := by kernel_rfl
  have hel : Tryd.prog.elem 75 = 5 := by kernel_rfl
  have hu : Tryd.prog.underlying 75 = some (.array (Tryd.prog.arrayLen 75) (Tryd.prog.elem 75)) := by rw [hal, hel]; exact Tryd.underlying75
  have h := run_sliceAt_array_l (P := Tryd.prog) W 75 ⟨T, 0, none⟩ hu .i64 i (by omega) (by rw [hal]; omega)
  rw [h, hal, hel]
  have hs : (sizeOf 5).run Tryd.prog W = .ok 1 W := by
    obtain ⟨i5, hi5, hz0, hz1, hz2⟩ := info_parts Tryd.info5
    simp [sizeOf, typeInfo, hi5, hz1]
  rw [hs, Result.andThen_ok]
  unfold slicedAt
  simp only [Int.toNat_natCast, Nat.mul_one]
  rw [if_neg (by omega), Go.WideShapes.add_plain, Nat.zero_add]
set_option maxHeartbeats 2000000 in
set_option maxRecDepth 100000 in
theorem appDec_any (B : Nat) (v : Value) (L : List Int) (u : Nat) (w : World) (hu : u < 18446744073709551616) (hO : OwnB w B v L) (hB : B ≤ w.heap.size) (hL : L.length + 20 ≤ 1073741824) :
    Calls Tryd.prog 31 #[v, .int .u64 u] w fun e w' => AppOut B (L ++ dn u) w e w' := by
  have HO0 : Hid (w.ownsRow B 5 1 v L.length (L.map (Value.int .u8))) := hO
  have HBB : Hid (B ≤ w.heap.size) := hB
  have hd20 : Hid ((dn u).length ≤ 20) := by
    show (dn u).length ≤ 20
    rw [dn_length]
    exact nDigits_le 19 u (by
      have : (10 : Nat) ^ (19 + 1) = 100000000000000000000 := by decide
      omega)
  obtain ⟨T, HT⟩ : ∃ T, Hid (w.heap.size = T) := ⟨_, rfl⟩
  have HVB : Hid (∀ k, k = T → v.ownBlock = none ∨ v.ownBlock ≠ some k) := fun k hk => by
    cases hv : v.ownBlock with
    | none => exact .inl rfl
    | some g => exact .inr fun e => by have := (HO0.out.lt g hv).2; have := HT.out; simp at e; omega
  clear hO hB
  go_enter Tryd.func31, Tryd.ntmps31
  go_wp2
  rw [HT.out]
  go_loopw [1, 6] (fun a1 a6 wr => ∃ (c i : Nat) (acc l : List Int), c < 18446744073709551616 ∧ i ≤ 20 ∧ a1 = .int .u64 c ∧ a6 = .int .i64 i ∧ Hid (dn u = dn c ++ acc) ∧ Hid (acc.length + i = 20) ∧ Hid (Tb wr T l) ∧ Hid (∀ k, k < acc.length → l.getD (i + k) 0 = acc.getD k 0) ∧ Hid (wr.ownsRow B 5 1 v L.length (L.map (Value.int .u8))) ∧ Hid (Below B w wr)) (fun _ a6 _ => (intOf a6).toNat)
  case atStart =>
    refine ⟨u, 20, [], List.replicate 20 0, hu, by omega, rfl, rfl, by show _ = _; rw [List.append_nil], by show _ = _; rfl, ⟨by simp, ?_⟩, fun k hk => by simp at hk, HO0.out.alloc _, (Below.refl B w).alloc HBB.out _⟩
    rw [← HT.out]
    exact heap_alloc_new w _
  case round =>
    obtain ⟨c, i, acc, l, hc, hi, rfl, rfl, HD, HLN, HTB, HAC, HOW, HBL⟩ := hrel
    have hi1 : 1 ≤ i := by
      have h1 := hd20.out
      have h2 := HLN.out
      have h3 := dn_length c
      have h4 := Lib.nDigits_pos c
      rw [HD.out, List.length_append] at h1
      omega
    obtain ⟨i', rfl⟩ : ∃ i', i = i' + 1 := ⟨i - 1, by omega⟩
    have hck := HTB.out.c i' (by omega)
    have hfk := HTB.out.fz i'
    have hi20 : (i' : Int) < 20 := by omega
    have hmod : (48 : Int) + (c : Int) % 10 < 256 := by omega
    generalize l.getD i' 0 = z at hck
    have HAC2 : Hid (∀ x, ∀ k, k < (x :: acc).length → (l.set i' x).getD (i' + k) 0 = (x :: acc).getD k 0) := fun x k hk => by
      cases k with
      | zero =>
        have hl := HTB.out.1
        rw [Nat.add_zero, List.getD_eq_getElem?_getD, List.getElem?_set_self (by omega)]
        rfl
      | succ k =>
        have h := HAC.out k (by simpa using hk)
        rw [List.getD_eq_getElem?_getD, List.getElem?_set_ne (by omega), ← List.getD_eq_getElem?_getD, show i' + (k + 1) = i' + 1 + k by omega, h]
        rfl
    have HLN2 : Hid (∀ x : Int, (x :: acc).length + i' = 20) := fun x => by have := HLN.out; simp only [List.length_cons]; omega
    by_cases h10 : c < 10
    · have HDN : Hid (dn u = (48 + (c : Int) % 10) :: acc) := by
        show _ = _
        rw [HD.out, dn_small h10]
        have : (c : Int) % 10 = c := by omega
        rw [this]; rfl
      have hq0 : (c : Int) / 10 = 0 := by omega
      obtain ⟨i5, hi5, hz0, hz1, hz2⟩ := info_parts Tryd.info5
      obtain ⟨x, HX⟩ : ∃ x : Int, Hid (48 + (c : Int) % 10 = x) := ⟨_, rfl⟩
      rw [HX.out] at HDN
      have HTB2 : Hid (Tb (wr.setCell ⟨T, i', none⟩ (.int .u8 x)) T (l.set i' x)) := HTB.out.set i' x
      have HOW2 : Hid ((wr.setCell ⟨T, i', none⟩ (.int .u8 x)).ownsRow B 5 1 v L.length (L.map (Value.int .u8))) := HOW.out.kept (upd_set wr T i' _) (HVB.out T rfl)
      have HBL2 : Hid (Below B w (wr.setCell ⟨T, i', none⟩ (.int .u8 x))) := ⟨HBL.out.os, HBL.out.tape, HBL.out.output, by simpa using HBL.out.size, fun k hk => (heap_setCell_other wr ⟨T, i', none⟩ k _ (fun e => by simp at e; have := HBB.out; have := HT.out; omega)).trans (HBL.out.block k hk)⟩
      have ksl := slice20 (wr.setCell ⟨T, i', none⟩ (.int .u8 x)) T i' (by omega)
      have hl20 := (HLN2.out x)
      have HNW : Hid (∀ j y, ((x :: acc).map (Value.int .u8))[j]? = some y → (wr.setCell ⟨T, i', none⟩ (.int .u8 x)).cell? ((⟨T, i', none⟩ : Addr).add j) = some y) := fun j y hj => by
        have hjn : j < (x :: acc).length := by have := (List.getElem?_eq_some_iff.1 hj).1; simpa using this
        rw [Go.WideShapes.add_plain, HTB2.out.c (i' + j) (by omega), HAC2.out x j hjn]
        rw [List.getElem?_map, List.getElem?_eq_getElem hjn] at hj
        rw [List.getD_eq_getElem?_getD, List.getElem?_eq_getElem hjn]
        exact hj
      have HLC : Hid ((x :: acc).length = 20 - i') := by have := HLN2.out x; show _ = _; omega
      rw [← HX.out] at ksl HNW HOW2 HBL2
      generalize HW : wr.setCell ⟨T, i', none⟩ (.int .u8 (48 + (c : Int) % 10)) = W at ksl HNW HOW2 HBL2
      have HNW' : Hid (∀ j y, ((x :: acc).map (Value.int .u8))[j]? = some y → W.cell? ((⟨T, i', none⟩ : Addr).add j) = some y) := by rw [← HX.out]; exact HNW.out
      go_wp2_with (at_builtin; refine wpList_append_own_at _ rfl _ _ _ rfl B 5 i5 _ 1 1 Tryd.underlying22 hi5 hz0 hz1 hz2 rfl (by omega) v L.length (L.map (Value.int .u8)) (by rfl) HOW2.out ⟨T, i', none⟩ (20 - i') (20 - i') ((x :: acc).map (Value.int .u8)) (by rfl) (by rw [List.length_map, HLC.out, Nat.mul_one]) HNW'.out (by intro y hy; simp only [List.mem_map] at hy; obtain ⟨z, _, rfl⟩ := hy; rfl) (by unfold maxLen; omega) (by omega) (Nat.le_trans HBB.out HBL2.out.size) ?_; intro v3 w3 ho3 hg3 _ _; have HO3 : Hid (w3.ownsRow B 5 1 v3 (L.length + (20 - i')) (L.map (Value.int .u8) ++ (x :: acc).map (Value.int .u8))) := ho3; have HB3 : Hid (Below B w w3) := HBL2.out.grown hg3 (Nat.le_trans HBB.out HBL2.out.size) (fun k hk => (HOW2.out.lt k hk).1); clear ho3 hg3)
      go_ret
      refine ⟨v3, rfl, OwnB.of HO3.out ?_ ?_, HB3.out⟩
      · rw [HDN.out, List.length_append, HLC.out]
      · rw [HDN.out, List.map_append]
    · have HDN : Hid (dn u = dn (c / 10) ++ ((48 + ((c % 10 : Nat) : Int)) :: acc)) := by
        show _ = _
        rw [HD.out, dn_big h10]
        simp
      have hq0 : ((c : Int) / 10 == 0) = false := beq_eq_false_iff_ne.2 (by omega)
      have hmc : Hid ((c : Int) % 10 = ((c % 10 : Nat) : Int)) := by show _ = _; omega
      rw [← hmc.out] at HDN
      have HTB2 : Hid (Tb (wr.setCell ⟨T, i', none⟩ (.int .u8 (48 + (c : Int) % 10))) T (l.set i' (48 + (c : Int) % 10))) := HTB.out.set i' _
      have HOW2 : Hid ((wr.setCell ⟨T, i', none⟩ (.int .u8 (48 + (c : Int) % 10))).ownsRow B 5 1 v L.length (L.map (Value.int .u8))) := HOW.out.kept (upd_set wr T i' _) (HVB.out T rfl)
      have HBL2 : Hid (Below B w (wr.setCell ⟨T, i', none⟩ (.int .u8 (48 + (c : Int) % 10)))) := ⟨HBL.out.os, HBL.out.tape, HBL.out.output, by simpa using HBL.out.size, fun k hk => (heap_setCell_other wr ⟨T, i', none⟩ k _ (fun e => by simp at e; have := HBB.out; have := HT.out; omega)).trans (HBL.out.block k hk)⟩
      go_wp2
      go_round
      case rel => exact ⟨c / 10, i', (48 + (c : Int) % 10) :: acc, _, by omega, by omega, by first | rfl | (congr 1; omega), by go_num, HDN, HLN2.out _, HTB2, HAC2.out _, HOW2, HBL2⟩
      case measure => simp [intOf]
end Go.Proofs.Qxb6605662aDoor
