import Derived.Test.Qxb6606346aDoorP1
import Derived.WalkKit
import Derived.WalkLawsBesides
import Derived.WalkSpells
import Derived.Handy
import Derived.OwnWalk
import Derived.BigQuiet
import Derived.Deep.QuietTactic
import Derived.Deep.LoopGhost
import Derived.Deep.AppendLies
import Derived.Deep.OwnRows
import Derived.Laws.IdiomStrings
set_option linter.unusedVariables false
set_option linter.unusedSimpArgs false
namespace Go.Proofs.Qxb6606346aDoor
open Go.RowKit
theorem Tryd.info32 : (Tryd.prog.info? 32).map (fun i => (i.zero, i.size, i.bytes)) = some (some (.int .u8 0), 1, 1) := by kernel_rfl
theorem Tryd.info3 : (Tryd.prog.info? 3).map (fun i => (i.zero, i.size, i.bytes)) = some (some (.int .i64 0), 1, 8) := by kernel_rfl
/-! ### what lies in memory: the scripting, its ops, its two rows of numbers -/
/-- a row of numbers -/
def Ib (w : World) (g : Nat) (l : List Int) : Prop := w.heap[g]? = some (.cells (l.map (Value.int .i64)).toArray 3 (0, 0))
theorem Ib.c {w : World} {g : Nat} {l : List Int} (h : Ib w g l) (k : Nat) (hk : k < l.length) : w.cell? ⟨g, k, none⟩ = some (.int .i64 (l.getD k 0)) := by
  have := cell_of_row w g k _ 3 (0, 0) h
  rw [this]
  simp [List.getD_eq_getElem?_getD, List.getElem?_eq_getElem hk]
theorem Ib.fz {w : World} {g : Nat} {l : List Int} (h : Ib w g l) (k : Nat) : w.frozen? ⟨g, k, none⟩ = false := frozen_of_row w g k _ 3 h
theorem Ib.set {w : World} {g : Nat} {l : List Int} (h : Ib w g l) (k : Nat) (x : Int) : Ib (w.setCell ⟨g, k, none⟩ (.int .i64 x)) g (l.set k x) := by
  have := heap_setCell_same w g k _ 3 (.int .i64 x) h
  unfold Ib
  rw [this]
  congr 2
  apply Array.ext'
  simp [List.map_set]
theorem Ib.lt {w : World} {g : Nat} {l : List Int} (h : Ib w g l) : g < w.heap.size := (Array.getElem?_eq_some_iff.1 h).1
/-- the scripting's own block -/
def Sb (w : World) (S : Nat) (fv tv ov Fv Bv : Value) : Prop := w.heap[S]? = some (.cells #[fv, tv, ov, Fv, Bv] 37 (0, 0))
theorem Sb.lt {w : World} {S : Nat} {fv tv ov Fv Bv : Value} (h : Sb w S fv tv ov Fv Bv) : S < w.heap.size := (Array.getElem?_eq_some_iff.1 h).1
theorem Sb.c0 {w : World} {S : Nat} {fv tv ov Fv Bv : Value} (h : Sb w S fv tv ov Fv Bv) : w.cell? ⟨S, 0, none⟩ = some fv := by rw [cell_of_row w S 0 _ 37 (0, 0) h]; rfl
theorem Sb.c1 {w : World} {S : Nat} {fv tv ov Fv Bv : Value} (h : Sb w S fv tv ov Fv Bv) : w.cell? ⟨S, 1, none⟩ = some tv := by rw [cell_of_row w S 1 _ 37 (0, 0) h]; rfl
theorem Sb.c2 {w : World} {S : Nat} {fv tv ov Fv Bv : Value} (h : Sb w S fv tv ov Fv Bv) : w.cell? ⟨S, 2, none⟩ = some ov := by rw [cell_of_row w S 2 _ 37 (0, 0) h]; rfl
theorem Sb.c3 {w : World} {S : Nat} {fv tv ov Fv Bv : Value} (h : Sb w S fv tv ov Fv Bv) : w.cell? ⟨S, 3, none⟩ = some Fv := by rw [cell_of_row w S 3 _ 37 (0, 0) h]; rfl
theorem Sb.c4 {w : World} {S : Nat} {fv tv ov Fv Bv : Value} (h : Sb w S fv tv ov Fv Bv) : w.cell? ⟨S, 4, none⟩ = some Bv := by rw [cell_of_row w S 4 _ 37 (0, 0) h]; rfl
theorem Sb.fz {w : World} {S : Nat} {fv tv ov Fv Bv : Value} (h : Sb w S fv tv ov Fv Bv) (k : Nat) : w.frozen? ⟨S, k, none⟩ = false := frozen_of_row w S k _ 37 h
theorem Sb.set2 {w : World} {S : Nat} {fv tv ov Fv Bv : Value} (h : Sb w S fv tv ov Fv Bv) (v : Value) : Sb (w.setCell ⟨S, 2, none⟩ v) S fv tv v Fv Bv := by
  have := heap_setCell_same w S 2 _ 37 v h
  unfold Sb
  rw [this]
  rfl
/-- all of it; g: where the ops lie -/
structure StG (w : World) (B S Fg Bg : Nat) (fv tv : Value) (D g cap : Nat) (L FL BL : List Int) : Prop where
  s : Sb w S fv tv (.slice (some ⟨g, 0, none⟩) L.length cap) (.slice (some ⟨Fg, 0, none⟩) D D) (.slice (some ⟨Bg, 0, none⟩) D D)
  o : w.ownsRow B 32 1 (.slice (some ⟨g, 0, none⟩) L.length cap) L.length (L.map (Value.int .u8))
  f : Ib w Fg FL
  b : Ib w Bg BL
  fl : FL.length = D
  bl : BL.length = D
  ne : g ≠ S ∧ g ≠ Fg ∧ g ≠ Bg ∧ S ≠ Fg ∧ S ≠ Bg ∧ Fg ≠ Bg
  le : B ≤ S ∧ B ≤ Fg ∧ B ≤ Bg
theorem own_slice {w : World} {B : Nat} {e : TypeId} {g n cap : Nat} {xs : List Value} (h : w.ownsRow B e 1 (.slice (some ⟨g, 0, none⟩) n cap) n xs) : ∃ cur, B ≤ g ∧ w.heap[g]? = some (.cells cur e (0, 0)) ∧ n ≤ cap ∧ cap ≤ maxLen ∧ cur.size = cap * 1 ∧ cur.toList.take (n * 1) = xs := by
  obtain ⟨_, h | ⟨g', cap', cur, hv, hr⟩⟩ := h
  · cases h.1
  · cases hv
    exact ⟨cur, hr⟩
theorem StG.glt {w : World} {B S Fg Bg : Nat} {fv tv : Value} {D g cap : Nat} {L FL BL : List Int} (h : StG w B S Fg Bg fv tv D g cap L FL BL) : B ≤ g ∧ g < w.heap.size := by
  obtain ⟨cur, h1, h2, _⟩ := own_slice h.o
  exact ⟨h1, (Array.getElem?_eq_some_iff.1 h2).1⟩
/-- the same blocks: the same state -/
theorem StG.congr {w w' : World} {B S Fg Bg : Nat} {fv tv : Value} {D g cap : Nat} {L FL BL : List Int} (h : StG w B S Fg Bg fv tv D g cap L FL BL) (h1 : w'.heap[S]? = w.heap[S]?) (h2 : w'.heap[g]? = w.heap[g]?) (h3 : w'.heap[Fg]? = w.heap[Fg]?) (h4 : w'.heap[Bg]? = w.heap[Bg]?) : StG w' B S Fg Bg fv tv D g cap L FL BL := by
  refine ⟨h1.trans h.s, ⟨h.o.1, .inr ?_⟩, h3.trans h.f, h4.trans h.b, h.fl, h.bl, h.ne, h.le⟩
  obtain ⟨cur, k1, k2, k3⟩ := own_slice h.o
  exact ⟨g, cap, cur, rfl, k1, h2.trans k2, k3⟩
/-- an op appended and the field stored -/
theorem StG.app {w w2 : World} {B S Fg Bg : Nat} {fv tv : Value} {D g cap g2 cap2 : Nat} {L FL BL : List Int} {op : Int} {o : Obj} (h : StG w B S Fg Bg fv tv D g cap L FL BL) (hB : B ≤ w.heap.size)
    (ho : w2.ownsRow B 32 1 (.slice (some ⟨g2, 0, none⟩) (L.length + 1) cap2) (L.length + 1) (L.map (Value.int .u8) ++ [.int .u8 op])) (hg : (w.alloc o).grownBy w2 (some g)) (hat : some g = some g2 ∨ g2 = w.heap.size + 1) :
    StG (w2.setCell ⟨S, 2, none⟩ (.slice (some ⟨g2, 0, none⟩) (L.length + 1) cap2)) B S Fg Bg fv tv D g2 cap2 (L ++ [op]) FL BL ∧ Below B w (w2.setCell ⟨S, 2, none⟩ (.slice (some ⟨g2, 0, none⟩) (L.length + 1) cap2)) := by
  have l1 := h.s.lt
  have l2 := h.f.lt
  have l3 := h.b.lt
  have l4 := h.glt
  have hk : ∀ k, k < w.heap.size → k ≠ g → w2.heap[k]? = w.heap[k]? := fun k hk hne => (hg.block k (by simp; omega) (by simpa using hne)).trans (Below.heap_alloc w o k hk)
  have hne := h.ne
  have hle := h.le
  have ng : g2 ≠ S ∧ g2 ≠ Fg ∧ g2 ≠ Bg := by
    rcases hat with e | e
    · simp only [Option.some.injEq] at e
      subst e
      exact ⟨hne.1, hne.2.1, hne.2.2.1⟩
    · omega
  have hS : Sb w2 S fv tv (.slice (some ⟨g, 0, none⟩) L.length cap) (.slice (some ⟨Fg, 0, none⟩) D D) (.slice (some ⟨Bg, 0, none⟩) D D) := (hk S l1 (Ne.symm hne.1)).trans h.s
  refine ⟨⟨?_, ?_, ?_, ?_, h.fl, h.bl, ⟨ng.1, ng.2.1, ng.2.2, hne.2.2.2⟩, hle⟩, ?_⟩
  · have := hS.set2 (.slice (some ⟨g2, 0, none⟩) (L.length + 1) cap2)
    rw [List.length_append]
    exact this
  · obtain ⟨cur, k1, k2, k3⟩ := own_slice ho
    refine ⟨by simp, .inr ⟨g2, cap2, cur, by simp, k1, (heap_setCell_other w2 _ g2 _ (by simpa using ng.1)).trans k2, by simpa using k3⟩⟩
  · exact (heap_setCell_other w2 _ Fg _ (by simpa using Ne.symm hne.2.2.2.1)).trans ((hk Fg l2 (Ne.symm hne.2.1)).trans h.f)
  · exact (heap_setCell_other w2 _ Bg _ (by simpa using Ne.symm hne.2.2.2.2.1)).trans ((hk Bg l3 (Ne.symm hne.2.2.1)).trans h.b)
  · refine ⟨hg.os, hg.tape, hg.output, ?_, fun k hk2 => ?_⟩
    · have := hg.size
      simp at this ⊢
      omega
    · exact (heap_setCell_other w2 _ k _ (by simp; omega)).trans (hk k (by omega) (by omega))

theorem StG.sb_app {w w2 : World} {B S Fg Bg : Nat} {fv tv : Value} {D g cap : Nat} {L FL BL : List Int} {o : Obj} (h : StG w B S Fg Bg fv tv D g cap L FL BL) (hg : (w.alloc o).grownBy w2 (some g)) :
    Sb w2 S fv tv (.slice (some ⟨g, 0, none⟩) L.length cap) (.slice (some ⟨Fg, 0, none⟩) D D) (.slice (some ⟨Bg, 0, none⟩) D D) :=
  (hg.block S (by have := h.s.lt; simp; omega) (by simpa using Ne.symm h.ne.1)).trans ((Below.heap_alloc w o S h.s.lt).trans h.s)
set_option maxHeartbeats 2000000 in
/-- (*scripting).add -/
theorem add_any (B S Fg Bg : Nat) (fv tv : Value) (D g cap : Nat) (L FL BL : List Int) (op : Int) (c : Nat) (w : World) (hB : B ≤ w.heap.size) (hc : L.length + c ≤ 1048576) (h : StG w B S Fg Bg fv tv D g cap L FL BL) :
    Calls Tryd.prog 18 #[.pointer (some ⟨S, 0, none⟩), .int .u8 op, .int .i64 c] w fun e w' => e = .returned (.tuple #[]) ∧ (∃ g' cap', StG w' B S Fg Bg fv tv D g' cap' (L ++ List.replicate c op) FL BL) ∧ Below B w w' := by
  obtain ⟨i32, hi, hz0, hz1, hz2⟩ := info_parts Tryd.info32
  have HH : Hid (StG w B S Fg Bg fv tv D g cap L FL BL) := h
  have HBB : Hid (B ≤ w.heap.size) := hB
  clear h hB
  go_enter Tryd.func18, Tryd.ntmps18
  go_wp2
  go_loopw [7] (fun i wr => ∃ (j g cap : Nat), j ≤ c ∧ i = .int .i64 j ∧ Hid (StG wr B S Fg Bg fv tv D g cap (L ++ List.replicate j op) FL BL) ∧ Hid (Below B w wr)) (fun i _ => c - (intOf i).toNat)
  case atStart => exact ⟨0, g, cap, Nat.zero_le _, rfl, by simpa using HH, Below.refl _ _⟩
  case round =>
    obtain ⟨j, g, cap, hj, rfl, HS, HW⟩ := hrel
    clear HH
    by_cases hjc : j < c
    · have hji : (j : Int) < c := by omega
      obtain ⟨M, HM⟩ : ∃ M, Hid (L ++ List.replicate j op = M) := ⟨_, rfl⟩
      have hlM : M.length < 1048576 := by rw [← HM.out]; simp; omega
      rw [HM.out] at HS
      have hc2 := HS.out.s.c2
      have HZ : Hid (B ≤ wr.heap.size) := Nat.le_trans HBB.out HW.out.size
      go_wp2_with (at_builtin; refine wpList_append_lies _ rfl _ _ _ rfl B 32 i32 _ 1 1 Tryd.underlying28 hi hz0 hz1 hz2 rfl (by omega) _ M.length (M.map (Value.int .u8)) (by rfl) (HS.out.o.alloc _) ⟨wr.heap.size, 0, none⟩ 1 1 [.int .u8 op] (by rfl) (by rfl) (World.news_of_block (cs := #[.int .u8 op]) (t := 32) (fr := (0, 0)) (heap_alloc_new wr _)) (by simp [Value.oneCell']) (by omega) (by unfold maxLen; omega) (by omega) (by have := HZ.out; simp; omega) (wr.heap.size + 1) (by simp) ?_; intro g2 cap2 w2 ho hg hat hlt; have HA : Hid _ := HS.out.app (op := op) HZ.out ho hg hat; have hs2 := StG.sb_app HS.out hg; have hc3 := hs2.c2; have hf3 := hs2.fz 2; clear hs2; clear ho hg hat hlt)
      go_roundw
      case rel => exact ⟨j + 1, g2, cap2, by omega, by go_num, by have := HA.out.1; rw [← HM.out, List.append_assoc] at this; rw [List.replicate_succ']; rw [← HM.out]; exact this, by exact HW.out.trans HA.out.2⟩
      case measure => simp [intOf]; omega
    · have hji : ¬ (j : Int) < c := by omega
      obtain rfl : j = c := by omega
      go_wp2
      go_end0
      exact ⟨rfl, ⟨g, cap, HS.out⟩, HW.out⟩
end Go.Proofs.Qxb6606346aDoor
