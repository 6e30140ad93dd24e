import Derived.Test.Qxb6605662aDoorM7
import Derived.Laws.Tables
set_option linter.unusedVariables false
set_option linter.unusedSimpArgs false
namespace Go.Proofs.Qxb6605662aDoor
open Go.RowKit

/-! ### zzModelDecision -/
def Mb (w : World) (M : Nat) (a0 a1 a2 a3 a4 a5 a6 a7 : Value) : Prop := w.heap[M]? = some (.cells #[a0, a1, a2, a3, a4, a5, a6, a7] 28 (0, 0))
section
variable {w w' : World} {M : Nat} {a0 a1 a2 a3 a4 a5 a6 a7 : Value}
theorem Mb.c0 (h : Mb w M a0 a1 a2 a3 a4 a5 a6 a7) : w.cell? ⟨M, 0, none⟩ = some a0 := cell_of_row w M 0 _ 28 (0, 0) h
theorem Mb.set0 (h : Mb w M a0 a1 a2 a3 a4 a5 a6 a7) (v : Value) : Mb (w.setCell ⟨M, 0, none⟩ v) M v a1 a2 a3 a4 a5 a6 a7 := heap_setCell_same w M 0 _ 28 v h
theorem Mb.c1 (h : Mb w M a0 a1 a2 a3 a4 a5 a6 a7) : w.cell? ⟨M, 1, none⟩ = some a1 := cell_of_row w M 1 _ 28 (0, 0) h
theorem Mb.set1 (h : Mb w M a0 a1 a2 a3 a4 a5 a6 a7) (v : Value) : Mb (w.setCell ⟨M, 1, none⟩ v) M a0 v a2 a3 a4 a5 a6 a7 := heap_setCell_same w M 1 _ 28 v h
theorem Mb.c2 (h : Mb w M a0 a1 a2 a3 a4 a5 a6 a7) : w.cell? ⟨M, 2, none⟩ = some a2 := cell_of_row w M 2 _ 28 (0, 0) h
theorem Mb.set2 (h : Mb w M a0 a1 a2 a3 a4 a5 a6 a7) (v : Value) : Mb (w.setCell ⟨M, 2, none⟩ v) M a0 a1 v a3 a4 a5 a6 a7 := heap_setCell_same w M 2 _ 28 v h
theorem Mb.c3 (h : Mb w M a0 a1 a2 a3 a4 a5 a6 a7) : w.cell? ⟨M, 3, none⟩ = some a3 := cell_of_row w M 3 _ 28 (0, 0) h
theorem Mb.set3 (h : Mb w M a0 a1 a2 a3 a4 a5 a6 a7) (v : Value) : Mb (w.setCell ⟨M, 3, none⟩ v) M a0 a1 a2 v a4 a5 a6 a7 := heap_setCell_same w M 3 _ 28 v h
theorem Mb.c4 (h : Mb w M a0 a1 a2 a3 a4 a5 a6 a7) : w.cell? ⟨M, 4, none⟩ = some a4 := cell_of_row w M 4 _ 28 (0, 0) h
theorem Mb.set4 (h : Mb w M a0 a1 a2 a3 a4 a5 a6 a7) (v : Value) : Mb (w.setCell ⟨M, 4, none⟩ v) M a0 a1 a2 a3 v a5 a6 a7 := heap_setCell_same w M 4 _ 28 v h
theorem Mb.c5 (h : Mb w M a0 a1 a2 a3 a4 a5 a6 a7) : w.cell? ⟨M, 5, none⟩ = some a5 := cell_of_row w M 5 _ 28 (0, 0) h
theorem Mb.set5 (h : Mb w M a0 a1 a2 a3 a4 a5 a6 a7) (v : Value) : Mb (w.setCell ⟨M, 5, none⟩ v) M a0 a1 a2 a3 a4 v a6 a7 := heap_setCell_same w M 5 _ 28 v h
theorem Mb.c6 (h : Mb w M a0 a1 a2 a3 a4 a5 a6 a7) : w.cell? ⟨M, 6, none⟩ = some a6 := cell_of_row w M 6 _ 28 (0, 0) h
theorem Mb.set6 (h : Mb w M a0 a1 a2 a3 a4 a5 a6 a7) (v : Value) : Mb (w.setCell ⟨M, 6, none⟩ v) M a0 a1 a2 a3 a4 a5 v a7 := heap_setCell_same w M 6 _ 28 v h
theorem Mb.c7 (h : Mb w M a0 a1 a2 a3 a4 a5 a6 a7) : w.cell? ⟨M, 7, none⟩ = some a7 := cell_of_row w M 7 _ 28 (0, 0) h
theorem Mb.set7 (h : Mb w M a0 a1 a2 a3 a4 a5 a6 a7) (v : Value) : Mb (w.setCell ⟨M, 7, none⟩ v) M a0 a1 a2 a3 a4 a5 a6 v := heap_setCell_same w M 7 _ 28 v h
theorem Mb.fz (h : Mb w M a0 a1 a2 a3 a4 a5 a6 a7) (j : Nat) : w.frozen? ⟨M, j, none⟩ = false := frozen_of_row w M j _ 28 h
theorem Mb.lt (h : Mb w M a0 a1 a2 a3 a4 a5 a6 a7) : M < w.heap.size := by
  rcases Nat.lt_or_ge M w.heap.size with hl | hl
  · exact hl
  · rw [Mb, Array.getElem?_eq_none hl] at h; cases h
theorem Mb.far (h : Mb w M a0 a1 a2 a3 a4 a5 a6 a7) {b : Nat} (hb : b ≠ M) (j : Nat) (v : Value) : Mb (w.setCell ⟨b, j, none⟩ v) M a0 a1 a2 a3 a4 a5 a6 a7 := (heap_setCell_other w ⟨b, j, none⟩ M v (fun e => hb e.symm)).trans h
theorem Mb.row0 (h : Mb w M a0 a1 a2 a3 a4 a5 a6 a7) : w.heap[M]? = some (.cells #[a0, a1, a2, a3, a4, a5, a6, a7] 28 (0, 0)) := h
theorem Mb.row (h : Mb w M a0 a1 a2 a3 a4 a5 a6 a7) (c0 c1 c2 c3 c4 c5 c6 c7 : Value) : (w.setRow M #[c0, c1, c2, c3, c4, c5, c6, c7]).heap[M]? = some (.cells #[c0, c1, c2, c3, c4, c5, c6, c7] 28 (0, 0)) := setRow_heap w M _ _ 28 _ h
theorem Mb.set8 (h : Mb w M a0 a1 a2 a3 a4 a5 a6 a7) (c0 c1 c2 c3 c4 c5 c6 c7 : Value) : Mb (((((((((w).setCell ⟨M, 0, none⟩ c0).setCell ⟨M, 1, none⟩ c1).setCell ⟨M, 2, none⟩ c2).setCell ⟨M, 3, none⟩ c3).setCell ⟨M, 4, none⟩ c4).setCell ⟨M, 5, none⟩ c5).setCell ⟨M, 6, none⟩ c6).setCell ⟨M, 7, none⟩ c7) M c0 c1 c2 c3 c4 c5 c6 c7 :=
  (((((((h.set0 c0).set1 c1).set2 c2).set3 c3).set4 c4).set5 c5).set6 c6).set7 c7
end
theorem below_set {B : Nat} {a w : World} (h : Below B a w) {b : Nat} (hb : B ≤ b) (j : Nat) (v : Value) : Below B a (w.setCell ⟨b, j, none⟩ v) :=
  ⟨h.os, h.tape, h.output, by simpa using h.size, fun k hk => (heap_setCell_other w ⟨b, j, none⟩ k v (fun e => by simp at e; omega)).trans (h.block k hk)⟩
theorem below_row {B M : Nat} {a w : World} (h : Below B a w) (hb : B ≤ M) (cs : Array Value) : Below B a (w.setRow M cs) :=
  ⟨h.os, h.tape, h.output, by simpa using h.size, fun k hk => (setRow_other w M k cs (fun e => by omega)).trans (h.block k hk)⟩
theorem UnV.row {w : World} {B M : Nat} {un : Option (List Int)} {v : Value} (h : UnV w B un v) (hb : M < B) (cs : Array Value) : UnV (w.setRow M cs) B un v :=
  h.kept (row := M) ⟨rfl, rfl, rfl, by simp, fun k _ hk => setRow_other w M k cs (fun e => hk (by simp [e]))⟩ hb
theorem Hid.mk' {p : Prop} (h : p) : Hid p := h
theorem below_set8 {B M : Nat} {a w : World} (h : Below B a w) (hb : B ≤ M) (c0 c1 c2 c3 c4 c5 c6 c7 : Value) : Below B a (((((((((w).setCell ⟨M, 0, none⟩ c0).setCell ⟨M, 1, none⟩ c1).setCell ⟨M, 2, none⟩ c2).setCell ⟨M, 3, none⟩ c3).setCell ⟨M, 4, none⟩ c4).setCell ⟨M, 5, none⟩ c5).setCell ⟨M, 6, none⟩ c6).setCell ⟨M, 7, none⟩ c7) :=
  below_set (below_set (below_set (below_set (below_set (below_set (below_set (below_set h hb 0 c0) hb 1 c1) hb 2 c2) hb 3 c3) hb 4 c4) hb 5 c5) hb 6 c6) hb 7 c7
def Sb (w : World) (S v : Nat) : Prop := w.heap[S]? = some (.cells #[.bool (v.testBit 0), .bool (v.testBit 1), .bool (v.testBit 2), .bool (v.testBit 3)] 56 (0, 0))
theorem Sb.c {w : World} {S v : Nat} (h : Sb w S v) (j : Nat) (hj : j < 4) : w.cell? ⟨S, j, none⟩ = some (.bool (v.testBit j)) := by
  have := cell_of_row w S j _ 56 (0, 0) h
  rw [this]
  match j, hj with
  | 0, _ => rfl
  | 1, _ => rfl
  | 2, _ => rfl
  | 3, _ => rfl
theorem Sb.fz {w : World} {S v : Nat} (h : Sb w S v) (j : Nat) : w.frozen? ⟨S, j, none⟩ = false := frozen_of_row w S j _ 56 h
theorem mask_bit (v j i : Nat) (hv : v < 16) (hj : j < 4) (hi : i < 4) : (v ||| 2 ^ j).testBit i = (decide (i = j) || v.testBit i) := by
  have : ∀ v : Fin 16, ∀ j : Fin 4, ∀ i : Fin 4, (v.val ||| 2 ^ j.val).testBit i.val = (decide (i.val = j.val) || v.val.testBit i.val) := by decide
  exact this ⟨v, hv⟩ ⟨j, hj⟩ ⟨i, hi⟩
theorem Sb.set {w : World} {S v : Nat} (h : Sb w S v) (j : Nat) (hj : j < 4) (hv : v < 16) : Sb (w.setCell ⟨S, j, none⟩ (.bool true)) S (v ||| 2 ^ j) := by
  have hs := heap_setCell_same w S j _ 56 (.bool true) h
  unfold Sb
  rw [hs]
  have key := fun i hi => mask_bit v j i hv hj hi
  rw [key 0 (by omega), key 1 (by omega), key 2 (by omega), key 3 (by omega)]
  match j, hj with
  | 0, _ => rfl
  | 1, _ => rfl
  | 2, _ => rfl
  | 3, _ => rfl
theorem Sb.far {w : World} {S v : Nat} (h : Sb w S v) {b : Nat} (hb : b ≠ S) (j : Nat) (x : Value) : Sb (w.setCell ⟨b, j, none⟩ x) S v := (heap_setCell_other w ⟨b, j, none⟩ S x (fun e => hb e.symm)).trans h
theorem UnV.far {w : World} {B : Nat} {un : Option (List Int)} {v : Value} (h : UnV w B un v) {b : Nat} (hb : b < B) (j : Nat) (x : Value) : UnV (w.setCell ⟨b, j, none⟩ x) B un v := h.kept (upd_set w b j x) hb
structure MI (w : World) (M0 : Nat) (wr : World) (T : DS) (uv : Value) : Prop where
  m0 : Mb wr M0 (.bool false) (.int .i64 0) (.string ⟨#[]⟩) (.string ⟨#[]⟩) (.string ⟨#[]⟩) (.int .u64 0) (.slice none 0 0) (.bool false)
  m1 : Mb wr (M0 + 1) (.bool false) (.int .i64 0) (.string T.txn) (.string T.co) (.string T.ci) (.int .u64 T.st) uv (.bool T.un.isSome)
  sb : Sb wr (M0 + 2) T.seen
  uv : UnV wr (M0 + 3) T.un uv
  bl : Below w.heap.size w wr
def MdOut (RES : Option (Nat × DS)) (w : World) (e : Ending) (w' : World) : Prop := Below w.heap.size w w' ∧ (match RES with
  | none => e = .returned (.agg #[.bool false, .int .i64 0, .string ⟨#[]⟩, .string ⟨#[]⟩, .string ⟨#[]⟩, .int .u64 0, .slice none 0 0, .bool false])
  | some (m, T) => ∃ uv, e = .returned (.agg #[.bool true, .int .i64 m, .string T.txn, .string T.co, .string T.ci, .int .u64 T.st, uv, .bool T.un.isSome]) ∧ UnV w' w.heap.size T.un uv)
theorem MI.below {w : World} {M0 : Nat} {wr w' : World} {T : DS} {uv : Value} (h : MI w M0 wr T uv) (hb : Below wr.heap.size wr w') : MI w M0 w' T uv := by
  have h0 := h.m0.lt
  have h1 := h.m1.lt
  have h2 : M0 + 2 < wr.heap.size := by
    rcases Nat.lt_or_ge (M0 + 2) wr.heap.size with hl | hl
    · exact hl
    · have := h.sb; rw [Sb, Array.getElem?_eq_none hl] at this; cases this
  refine ⟨(hb.block _ h0).trans h.m0, (hb.block _ h1).trans h.m1, (hb.block _ h2).trans h.sb, h.uv.below ⟨hb.os, hb.tape, hb.output, hb.size, fun k hk _ => hb.block k hk⟩, ?_⟩
  have hs := h.bl.size
  exact ⟨hb.os.trans h.bl.os, hb.tape.trans h.bl.tape, hb.output.trans h.bl.output, Nat.le_trans hs hb.size, fun k hk => (hb.block k (by omega)).trans (h.bl.block k hk)⟩
theorem MI.slt {w : World} {M0 : Nat} {wr : World} {T : DS} {uv : Value} (h : MI w M0 wr T uv) : M0 + 3 ≤ wr.heap.size := by
  rcases Nat.lt_or_ge (M0 + 2) wr.heap.size with hl | hl
  · exact hl
  · have := h.sb; rw [Sb, Array.getElem?_eq_none hl] at this; cases this
theorem MI.seen {w : World} {M0 : Nat} {wr : World} {T : DS} {uv : Value} (h : MI w M0 wr T uv) (hw : w.heap.size ≤ M0) (j : Nat) (hj : j < 4) (hv : T.seen < 16) : MI w M0 (wr.setCell ⟨M0 + 2, j, none⟩ (.bool true)) { T with seen := T.seen ||| 2 ^ j } uv :=
  ⟨h.m0.far (by omega) j _, h.m1.far (by omega) j _, h.sb.set j hj hv, h.uv.far (by omega) j _, below_set h.bl (by omega) j _⟩
theorem MI.txn {w : World} {M0 : Nat} {wr : World} {T : DS} {uv : Value} (h : MI w M0 wr T uv) (hw : w.heap.size ≤ M0) (x : ByteArray) : MI w M0 (wr.setCell ⟨M0 + 1, 2, none⟩ (.string x)) { T with txn := x } uv :=
  ⟨h.m0.far (by omega) 2 _, h.m1.set2 _, h.sb.far (by omega) 2 _, h.uv.far (by omega) 2 _, below_set h.bl (by omega) 2 _⟩
theorem MI.co {w : World} {M0 : Nat} {wr : World} {T : DS} {uv : Value} (h : MI w M0 wr T uv) (hw : w.heap.size ≤ M0) (x : ByteArray) : MI w M0 (wr.setCell ⟨M0 + 1, 3, none⟩ (.string x)) { T with co := x } uv :=
  ⟨h.m0.far (by omega) 3 _, h.m1.set3 _, h.sb.far (by omega) 3 _, h.uv.far (by omega) 3 _, below_set h.bl (by omega) 3 _⟩
theorem MI.ci {w : World} {M0 : Nat} {wr : World} {T : DS} {uv : Value} (h : MI w M0 wr T uv) (hw : w.heap.size ≤ M0) (x : ByteArray) : MI w M0 (wr.setCell ⟨M0 + 1, 4, none⟩ (.string x)) { T with ci := x } uv :=
  ⟨h.m0.far (by omega) 4 _, h.m1.set4 _, h.sb.far (by omega) 4 _, h.uv.far (by omega) 4 _, below_set h.bl (by omega) 4 _⟩
theorem MI.hor {w : World} {M0 : Nat} {wr : World} {T : DS} {uv : Value} (h : MI w M0 wr T uv) (hw : w.heap.size ≤ M0) (st' : Int) (un' : Option (List Int)) (uv' : Value) (hu : UnV wr (M0 + 3) un' uv') : MI w M0 (((wr.setCell ⟨M0 + 1, 5, none⟩ (.int .u64 st')).setCell ⟨M0 + 1, 6, none⟩ uv').setCell ⟨M0 + 1, 7, none⟩ (.bool un'.isSome)) { T with st := st', un := un' } uv' :=
  ⟨((h.m0.far (by omega) 5 _).far (by omega) 6 _).far (by omega) 7 _, ((h.m1.set5 _).set6 _).set7 _, ((h.sb.far (by omega) 5 _).far (by omega) 6 _).far (by omega) 7 _, ((hu.far (by omega) 5 _).far (by omega) 6 _).far (by omega) 7 _, below_set (below_set (below_set h.bl (by omega) 5 _) (by omega) 6 _) (by omega) 7 _⟩
structure MP (w : World) (M0 : Nat) (wr : World) : Prop where
  m0 : Mb wr M0 (.bool false) (.int .i64 0) (.string ⟨#[]⟩) (.string ⟨#[]⟩) (.string ⟨#[]⟩) (.int .u64 0) (.slice none 0 0) (.bool false)
  m1 : Mb wr (M0 + 1) (.bool false) (.int .i64 0) (.string ⟨#[]⟩) (.string ⟨#[]⟩) (.string ⟨#[]⟩) (.int .u64 0) (.slice none 0 0) (.bool false)
  bl : Below w.heap.size w wr
theorem objT_dup {σ : Type} {xs : List Int} (step : ByteArray → Nat → σ → Option (Nat × σ)) (f : Nat) {p s e np : Nat} (T : σ) (ht : tk xs p = (7, s, e, np)) (hs : ∀ m, step (strOfNums (sub xs s e)) m T = none) : objT xs step (f + 1) p T = none := by
  rcases h2 : tk xs np with ⟨k2, s2, e2, np2⟩
  by_cases hk : k2 = 5
  · subst hk
    rw [objT_key step f T ht h2, hs]; rfl
  · exact objT_nocolon step f T ht h2 hk
theorem horR_le2 {xs : List Int} {m : Nat} {x : Nat × HS} (hm : m ≤ xs.length) (h : horR xs (some m) = some x) : x.1 ≤ xs.length := by
  unfold horR objR at h
  cases he : exA xs 123 (some m) with
  | none => rw [he] at h; simp [hd] at h
  | some k =>
    rw [he] at h
    have h1 := exA_lt hm he
    exact (hd_le stepH_le _ _ _ _ _ h1.2 h).2
theorem UnV.set8 {w : World} {B M : Nat} {un : Option (List Int)} {v : Value} (h : UnV w B un v) (hb : M < B) (c0 c1 c2 c3 c4 c5 c6 c7 : Value) : UnV (((((((((w).setCell ⟨M, 0, none⟩ c0).setCell ⟨M, 1, none⟩ c1).setCell ⟨M, 2, none⟩ c2).setCell ⟨M, 3, none⟩ c3).setCell ⟨M, 4, none⟩ c4).setCell ⟨M, 5, none⟩ c5).setCell ⟨M, 6, none⟩ c6).setCell ⟨M, 7, none⟩ c7) B un v :=
  (((((((h.far hb 0 c0).far hb 1 c1).far hb 2 c2).far hb 3 c3).far hb 4 c4).far hb 5 c5).far hb 6 c6).far hb 7 c7
set_option maxHeartbeats 8000000 in
set_option maxRecDepth 100000 in
theorem mdec_any (b o n cap : Nat) (xs : List Int) (w : World) (hM : MD w (some ⟨b, o, none⟩) n cap xs) :
    Calls Tryd.prog 8 #[.slice (some ⟨b, o, none⟩) n cap] w fun e w' => MdOut (decR xs (some 0)) w e w' := by
  have HM : Hid (MD w (some ⟨b, o, none⟩) n cap xs) := hM
  have hn := hM.hn
  have hcap := hM.hcap
  have hcb := hM.hcb
  have HX : Hid (xs.length = n) := hM.hx
  have HRES : Hid (decR xs (some 0) = hd xs (stepD xs) (n + 1) (exA xs 123 (some 0)) true DS0) := by show _ = _; rw [← HX.out]; rfl
  generalize decR xs (some 0) = RES at HRES ⊢
  clear hM
  obtain ⟨M0, HM0⟩ : ∃ M0, Hid (w.heap.size = M0) := ⟨_, rfl⟩
  obtain ⟨w1, HW1⟩ : ∃ w1, Hid ((w.alloc (Obj.cells #[.bool false, .int .i64 0, .string ⟨#[]⟩, .string ⟨#[]⟩, .string ⟨#[]⟩, .int .u64 0, .slice none 0 0, .bool false] 28)).alloc (Obj.cells #[.bool false, .int .i64 0, .string ⟨#[]⟩, .string ⟨#[]⟩, .string ⟨#[]⟩, .int .u64 0, .slice none 0 0, .bool false] 28) = w1) := ⟨_, rfl⟩
  have hM0w : w.heap.size ≤ M0 := by rw [HM0.out]; exact Nat.le_refl _
  have HI : Hid (MP w M0 w1) := by
    rw [← HW1.out, ← HM0.out]
    refine ⟨?_, heap_alloc2_new w _ _, ((Below.refl _ _).alloc (Nat.le_refl _) _).alloc (by simp) _⟩
    exact (heap_alloc_old _ _ (by simp)).trans (heap_alloc_new w _)
  obtain ⟨k1, s1, e1, np1, ht1, hl11, hl21, hl31, hl41, hc1⟩ := tokC HM.out 0 (Nat.zero_le _)
  have HT1 : Hid (tk xs 0 = (k1, s1, e1, np1)) := ht1
  have HC1 : Hid (∀ wr, Below w.heap.size w wr → Calls Tryd.prog 24 #[.slice (some ⟨b, o, none⟩) n cap, .int .i64 0] wr fun x w' => x = .returned (.tuple #[.int .i64 k1, .int .i64 s1, .int .i64 e1, .int .i64 np1]) ∧ w' = wr) := hc1
  clear ht1 hc1
  go_enter Tryd.func8, Tryd.ntmps8
  go_wp2_with fail
  rw [HW1.out, HM0.out]
  refine (HC1.out _ HI.out.bl).mono ?_
  rintro x0 w0 ⟨rfl, hw0⟩; obtain rfl := hw0.symm
  clear HC1
  rcases exA_of_tk HT1.out 1 123 (by simp) with ⟨hk1, -, hex, -⟩ | ⟨hk1, -, hex⟩
  rotate_left
  · as_aux_lemma =>
    have HN : Hid (RES = none) := by show _ = _; rw [HRES.out, hex]; rfl
    have g1 : ((k1 : Int) == 1) = false := beq_eq_false_iff_ne.2 (by omega)
    have g1' : ((k1 : Int) != 1) = true := by simp; omega
    clear hex hk1
    have HMH := Hid.mk' HI.out.m0.row0
    go_wp2_with (with_reducible refine wpList_store_row (by with_unfolding_all rfl) 28 _ _ (by with_unfolding_all rfl) M0 _ (by with_unfolding_all rfl) (by with_unfolding_all rfl) 28 _ HMH.out (by kernel_rfl) (by with_unfolding_all rfl) (by with_unfolding_all rfl) ?_)
    (try simp only [Exit.inBlock, Exit.then])
    refine bodyPost_ret (results_cell_row (p := 2) (ty := 28) (by kernel_rfl) _ _ M0 28 _ (0, 0) _ (by rfl) (HI.out.m0.row (.bool false) (.int .i64 0) (.string ⟨#[]⟩) (.string ⟨#[]⟩) (.string ⟨#[]⟩) (.int .u64 0) (.slice none 0 0) (.bool false)) Tryd.underlying28 rfl (by kernel_rfl)) rfl ?_
    rw [HN.out]
    exact ⟨below_row HI.out.bl hM0w _, rfl⟩
  subst hk1
  have HRES2 : Hid (RES = hd xs (stepD xs) (n + 1) (some np1) true DS0) := by show _ = _; rw [HRES.out, hex]
  clear hex HRES HT1
  obtain ⟨k2, s2, e2, np2, ht2, hl12, hl22, hl32, hl42, hc2⟩ := tokC HM.out np1 hl21
  have HT2 : Hid (tk xs np1 = (k2, s2, e2, np2)) := ht2
  have HC2 : Hid (∀ wr, Below w.heap.size w wr → Calls Tryd.prog 24 #[.slice (some ⟨b, o, none⟩) n cap, .int .i64 np1] wr fun x w' => x = .returned (.tuple #[.int .i64 k2, .int .i64 s2, .int .i64 e2, .int .i64 np2]) ∧ w' = wr) := hc2
  clear ht2 hc2
  go_wp2_with fail
  refine (HC2.out _ HI.out.bl).mono ?_
  rintro x0 w0 ⟨rfl, hw0⟩; obtain rfl := hw0.symm
  clear HC2
  rcases exA_of_tk HT2.out 2 125 (by simp) with ⟨hk2, hi2, -, hnp⟩ | ⟨hk2, hi2, -⟩
  · as_aux_lemma =>
    subst hk2
    have HN : Hid (RES = some (np2, DS0)) := by show _ = _; rw [HRES2.out]; unfold hd; simp only; rw [hi2, hnp]; rfl
    clear hi2 hnp HRES2
    have yd0 := HI.out.m1.c0
    have ye0 := HI.out.m1.fz 0
    have yd1 := HI.out.m1.c1
    have ye1 := HI.out.m1.fz 1
    have HMH := Hid.mk' (((HI.out.m0.far (show M0 + 1 ≠ M0 by omega) 0 (.bool true)).far (show M0 + 1 ≠ M0 by omega) 1 (.int .i64 np2)).row0)
    have HLH := Hid.mk' (((HI.out.m1.set0 (.bool true)).set1 (.int .i64 np2)).row0)
    have HL8 := Hid.mk' (below_set (below_set HI.out.bl (show w.heap.size ≤ M0 + 1 by omega) 0 (.bool true)) (show w.heap.size ≤ M0 + 1 by omega) 1 (.int .i64 np2))
    go_wp2_with (first | (with_reducible refine wpList_load_row (by with_unfolding_all rfl) 28 _ (by with_unfolding_all rfl) (M0 + 1) (by with_unfolding_all rfl) 28 _ (0, 0) _ HLH.out Tryd.underlying28 (by with_unfolding_all rfl) (by kernel_rfl) ?_) | (with_reducible refine wpList_store_row (by with_unfolding_all rfl) 28 _ _ (by with_unfolding_all rfl) M0 _ (by with_unfolding_all rfl) (by with_unfolding_all rfl) 28 _ HMH.out (by kernel_rfl) (by with_unfolding_all rfl) (by with_unfolding_all rfl) ?_))
    have HB8 := Mb.row HMH.out (.bool true) (.int .i64 np2) (.string ⟨#[]⟩) (.string ⟨#[]⟩) (.string ⟨#[]⟩) (.int .u64 0) (.slice none 0 0) (.bool false)
    (try simp only [Exit.inBlock, Exit.then])
    refine bodyPost_ret (results_cell_row (p := 2) (ty := 28) (by kernel_rfl) _ _ M0 28 _ (0, 0) _ (by rfl) HB8 Tryd.underlying28 rfl (by kernel_rfl)) rfl ?_
    rw [HN.out]
    exact ⟨below_row HL8.out hM0w _, _, rfl, rfl⟩
  have g2 : ((k2 : Int) == 2) = false := beq_eq_false_iff_ne.2 (by omega)
  have HR3 : Hid (RES = objT xs (stepD xs) (n + 1 - 0) np1 DS0) := by show _ = _; rw [HRES2.out]; unfold hd; simp only; rw [hi2]; rfl
  clear hi2 HRES2
  have hsz : w1.heap.size = M0 + 2 := by rw [← HW1.out, ← HM0.out]; simp
  have HSZ : Hid (w1.heap.size = M0 + 2) := hsz
  obtain ⟨w2, HW2⟩ : ∃ w2, Hid (w1.alloc (Obj.cells #[.bool false, .bool false, .bool false, .bool false] 56) = w2) := ⟨_, rfl⟩
  have HI2 : Hid (MI w M0 w2 DS0 (.slice none 0 0)) := by
    rw [← HW2.out]
    refine ⟨(heap_alloc_old _ _ HI.out.m0.lt).trans HI.out.m0, (heap_alloc_old _ _ HI.out.m1.lt).trans HI.out.m1, ?_, rfl, HI.out.bl.alloc HI.out.bl.size _⟩
    have := heap_alloc_new w1 (Obj.cells #[.bool false, .bool false, .bool false, .bool false] 56)
    rw [HSZ.out] at this
    exact this
  clear hsz
  go_wp2_with fail
  rw [HW2.out, HSZ.out]
  clear HI
  go_loopw [4, 5, 6, 7, 9] (fun a4 a5 a6 a7 a9 wr => ∃ (j p0 k s e np : Nat) (T : DS) (uv : Value), j ≤ n + 1 ∧ p0 ≤ n ∧ np ≤ n ∧ s ≤ e ∧ e ≤ n ∧ T.seen < 16 ∧ a9 = .int .i64 j ∧ a4 = .int .i64 k ∧ a5 = .int .i64 s ∧ a6 = .int .i64 e ∧ a7 = .int .i64 np ∧ Hid (tk xs p0 = (k, s, e, np)) ∧ Hid (MI w M0 wr T uv) ∧ Hid (RES = objT xs (stepD xs) (n + 1 - j) p0 T)) (fun _ _ _ _ a9 _ => n + 1 - (intOf a9).toNat)
  case atStart => exact ⟨0, np1, k2, s2, e2, np2, DS0, _, by omega, hl21, hl22, hl32, hl42, by decide, rfl, rfl, rfl, rfl, rfl, HT2, HI2, HR3⟩
  case round =>
    clear HR3 HT2 HI2
    obtain ⟨j, p0, k, s, e, np, ⟨seen, tx, co, ci, st, un⟩, uv, hj, hp0, hnp, hse, hen, hsn, rfl, rfl, rfl, rfl, rfl, HT, HI, HR⟩ := hrel
    simp only at hsn
    clear hl11 hl31 hl41 hl12 hl22 hl32 hl42 g2 hk2
    by_cases hjn : j ≤ n
    rotate_left
    · as_aux_lemma =>
      obtain rfl : j = n + 1 := by omega
      have HN : Hid (RES = none) := by show _ = _; rw [HR.out, Nat.sub_self]; rfl
      have hji : ¬ ((n : Int) + 1 ≤ n) := by omega
      clear HR
      have HMH := Hid.mk' HI.out.m0.row0
      go_wp2_with (with_reducible refine wpList_store_row (by with_unfolding_all rfl) 28 _ _ (by with_unfolding_all rfl) M0 _ (by with_unfolding_all rfl) (by with_unfolding_all rfl) 28 _ HMH.out (by kernel_rfl) (by with_unfolding_all rfl) (by with_unfolding_all rfl) ?_)
      (try simp only [Exit.inBlock, Exit.then])
      refine bodyPost_ret (results_cell_row (p := 2) (ty := 28) (by kernel_rfl) _ _ M0 28 _ (0, 0) _ (by rfl) (HI.out.m0.row (.bool false) (.int .i64 0) (.string ⟨#[]⟩) (.string ⟨#[]⟩) (.string ⟨#[]⟩) (.int .u64 0) (.slice none 0 0) (.bool false)) Tryd.underlying28 rfl (by kernel_rfl)) rfl ?_
      rw [HN.out]
      exact ⟨below_row HI.out.bl hM0w _, rfl⟩

    have hji : (j : Int) ≤ n := by omega
    have HR1 : Hid (RES = objT xs (stepD xs) ((n - j) + 1) p0 ⟨seen, tx, co, ci, st, un⟩) := by have := HR.out; rw [show n + 1 - j = n - j + 1 by omega] at this; exact this
    clear HR
    by_cases hk7 : k = 7
    rotate_left
    · as_aux_lemma =>
      have g7 : ((k : Int) == 7) = false := beq_eq_false_iff_ne.2 (by omega)
      have g7' : ((k : Int) != 7) = true := by simp; omega
      have HN : Hid (RES = none) := HR1.out.trans (objT_no _ _ _ HT.out hk7)
      clear HR1 hk7
      have HMH := Hid.mk' HI.out.m0.row0
      go_wp2_with (with_reducible refine wpList_store_row (by with_unfolding_all rfl) 28 _ _ (by with_unfolding_all rfl) M0 _ (by with_unfolding_all rfl) (by with_unfolding_all rfl) 28 _ HMH.out (by kernel_rfl) (by with_unfolding_all rfl) (by with_unfolding_all rfl) ?_)
      (try simp only [Exit.inBlock, Exit.then])
      refine bodyPost_ret (results_cell_row (p := 2) (ty := 28) (by kernel_rfl) _ _ M0 28 _ (0, 0) _ (by rfl) (HI.out.m0.row (.bool false) (.int .i64 0) (.string ⟨#[]⟩) (.string ⟨#[]⟩) (.string ⟨#[]⟩) (.int .u64 0) (.slice none 0 0) (.bool false)) Tryd.underlying28 rfl (by kernel_rfl)) rfl ?_
      rw [HN.out]
      exact ⟨below_row HI.out.bl hM0w _, rfl⟩

    subst hk7
    have hen' : e < n := by have := (tk7_lt HT.out).2; rw [HX.out] at this; exact this
    have hscap : s < cap := by omega
    have hsl : (0 : Int) ≤ (s : Int) ∧ (s : Int) ≤ e ∧ (e : Int) ≤ cap := by omega
    have hky := dkey_any HM.out s e hse hen wr HI.out.bl
    obtain ⟨K, HK⟩ : ∃ K, Hid (strOfNums (sub xs s e) = K) := ⟨_, rfl⟩
    rw [HK.out] at hky
    have HKI : Hid (kidx K = if K = kCo then 0 else if K = kCi then 1 else if K = kTx then 2 else if K = kHo then 3 else -1) := rfl
    obtain ⟨I, HI0⟩ : ∃ I, Hid (kidx K = I) := ⟨_, rfl⟩
    rw [HI0.out] at hky HKI
    have HKY : Hid (Calls Tryd.prog 25 #[.slice (some ⟨b, o + s, none⟩) (e - s : Nat) (cap - s : Nat)] wr fun e w' => e = .returned (.int .i64 I) ∧ w' = wr) := hky
    clear hky HI0
    go_wp2_with fail
    refine HKY.out.mono ?_
    rintro x0 w0 ⟨rfl, hw0⟩; obtain rfl := hw0.symm
    clear HKY
    by_cases hK0 : K = kCo
    · as_aux_lemma =>
      have hI : I = 0 := by rw [HKI.out, if_pos hK0]
      subst hI
      have hK' : K = kCo := hK0
      have cS := HI.out.sb.c 0 (by omega)
      have fS := HI.out.sb.fz 0
      simp only at cS
      cases hb : seen.testBit 0 with
      | true =>
        have HN : Hid (RES = none) := HR1.out.trans (objT_dup _ _ _ HT.out fun m => by
          rw [HK.out, hK']
          unfold stepD onA
          rw [if_pos rfl]
          simp only
          rw [hb]
          rfl)
        rw [hb] at cS
        clear HR1 hb hK' HKI hK0
        have HMH := Hid.mk' HI.out.m0.row0
        go_wp2_with (with_reducible refine wpList_store_row (by with_unfolding_all rfl) 28 _ _ (by with_unfolding_all rfl) M0 _ (by with_unfolding_all rfl) (by with_unfolding_all rfl) 28 _ HMH.out (by kernel_rfl) (by with_unfolding_all rfl) (by with_unfolding_all rfl) ?_)
        (try simp only [Exit.inBlock, Exit.then])
        refine bodyPost_ret (results_cell_row (p := 2) (ty := 28) (by kernel_rfl) _ _ M0 28 _ (0, 0) _ (by rfl) (HI.out.m0.row (.bool false) (.int .i64 0) (.string ⟨#[]⟩) (.string ⟨#[]⟩) (.string ⟨#[]⟩) (.int .u64 0) (.slice none 0 0) (.bool false)) Tryd.underlying28 rfl (by kernel_rfl)) rfl ?_
        rw [HN.out]
        exact ⟨below_row HI.out.bl hM0w _, rfl⟩
      | false =>
        have HI1 : Hid (MI w M0 (wr.setCell ⟨M0 + 2, 0, none⟩ (.bool true)) ⟨seen ||| 1, tx, co, ci, st, un⟩ uv) := HI.out.seen hM0w 0 (by omega) hsn
        have hsn1 := mask_lt seen 0 hsn (by omega)
        have HSN1 : Hid (seen ||| 1 < 16) := hsn1
        have HST : Hid (∀ m, stepD xs (strOfNums (sub xs s e)) m ⟨seen, tx, co, ci, st, un⟩ = (stR xs (some m)).map fun x => (x.2 + 1, (⟨seen ||| 1, tx, strOfNums (sub xs x.1 x.2), ci, st, un⟩ : DS))) := fun m => by
          rw [HK.out, hK']
          unfold stepD onA
          rw [if_pos rfl]
          simp only
          rw [hb]
          rfl
        rw [hb] at cS
        clear hsn1 hb hK' HKI HK hK0
        obtain ⟨k3, s3, e3, np3, ht3, hl13, hl23, hl33, hl43, hc3⟩ := tokC HM.out np hnp
        have HT3 : Hid (tk xs np = (k3, s3, e3, np3)) := ht3
        have HC3 : Hid (∀ wr, Below w.heap.size w wr → Calls Tryd.prog 24 #[.slice (some ⟨b, o, none⟩) n cap, .int .i64 np] wr fun x w' => x = .returned (.tuple #[.int .i64 k3, .int .i64 s3, .int .i64 e3, .int .i64 np3]) ∧ w' = wr) := hc3
        clear ht3 hc3
        go_wp2_with fail
        clear HI hsn
        have HI := HI1
        generalize wr.setCell ⟨M0 + 2, 0, none⟩ (.bool true) = wr1 at HI ⊢
        clear HI1 cS fS
        refine (HC3.out _ HI.out.bl).mono ?_
        rintro x0 w0 ⟨rfl, hw0⟩; obtain rfl := hw0.symm
        clear HC3
        by_cases hk5 : k3 = 5
        rotate_left
        · as_aux_lemma =>
          have g5 : ((k3 : Int) == 5) = false := beq_eq_false_iff_ne.2 (by omega)
          have g5' : ((k3 : Int) != 5) = true := by simp; omega
          have HN : Hid (RES = none) := HR1.out.trans (objT_nocolon _ _ _ HT.out HT3.out hk5)
          clear HR1 hk5 HST
          have HMH := Hid.mk' HI.out.m0.row0
          go_wp2_with (with_reducible refine wpList_store_row (by with_unfolding_all rfl) 28 _ _ (by with_unfolding_all rfl) M0 _ (by with_unfolding_all rfl) (by with_unfolding_all rfl) 28 _ HMH.out (by kernel_rfl) (by with_unfolding_all rfl) (by with_unfolding_all rfl) ?_)
          (try simp only [Exit.inBlock, Exit.then])
          refine bodyPost_ret (results_cell_row (p := 2) (ty := 28) (by kernel_rfl) _ _ M0 28 _ (0, 0) _ (by rfl) (HI.out.m0.row (.bool false) (.int .i64 0) (.string ⟨#[]⟩) (.string ⟨#[]⟩) (.string ⟨#[]⟩) (.int .u64 0) (.slice none 0 0) (.bool false)) Tryd.underlying28 rfl (by kernel_rfl)) rfl ?_
          rw [HN.out]
          exact ⟨below_row HI.out.bl hM0w _, rfl⟩
        subst hk5
        have HRK : Hid (RES = bindH ((stR xs (some np3)).map fun x => (x.2 + 1, (⟨seen ||| 1, tx, strOfNums (sub xs x.1 x.2), ci, st, un⟩ : DS))) fun m' S' => hd xs (stepD xs) (n - j) (some m') false S') := by
          have h := objT_key (stepD xs) (n - j) ⟨seen, tx, co, ci, st, un⟩ HT.out HT3.out
          rw [HST.out] at h
          exact HR1.out.trans h
        clear HR1 HT HT3 HST
        obtain ⟨k4, s4, e4, np4, ht4, hl14, hl24, hl34, hl44, hc4⟩ := tokC HM.out np3 hl23
        have HT4 : Hid (tk xs np3 = (k4, s4, e4, np4)) := ht4
        have HC4 : Hid (∀ wr, Below w.heap.size w wr → Calls Tryd.prog 24 #[.slice (some ⟨b, o, none⟩) n cap, .int .i64 np3] wr fun x w' => x = .returned (.tuple #[.int .i64 k4, .int .i64 s4, .int .i64 e4, .int .i64 np4]) ∧ w' = wr) := hc4
        clear ht4 hc4
        go_wp2_with fail
        refine (HC4.out _ HI.out.bl).mono ?_
        rintro x0 w0 ⟨rfl, hw0⟩; obtain rfl := hw0.symm
        clear HC4
        have hstr := tk_str xs np3
        rw [HT4.out] at hstr
        by_cases hk7 : k4 = 7
        rotate_left
        · as_aux_lemma =>
          have g7 : ((k4 : Int) == 7) = false := beq_eq_false_iff_ne.2 (by omega)
          have g7' : ((k4 : Int) != 7) = true := by simp; omega
          have HN : Hid (RES = none) := by
            rcases hstr with ⟨h1, _⟩ | ⟨_, h2⟩
            · exact absurd h1 hk7
            · have h := HRK.out
              unfold stR at h
              simp only at h
              rw [h2] at h
              exact h
          clear HRK hk7 hstr
          have HMH := Hid.mk' HI.out.m0.row0
          go_wp2_with (with_reducible refine wpList_store_row (by with_unfolding_all rfl) 28 _ _ (by with_unfolding_all rfl) M0 _ (by with_unfolding_all rfl) (by with_unfolding_all rfl) 28 _ HMH.out (by kernel_rfl) (by with_unfolding_all rfl) (by with_unfolding_all rfl) ?_)
          (try simp only [Exit.inBlock, Exit.then])
          refine bodyPost_ret (results_cell_row (p := 2) (ty := 28) (by kernel_rfl) _ _ M0 28 _ (0, 0) _ (by rfl) (HI.out.m0.row (.bool false) (.int .i64 0) (.string ⟨#[]⟩) (.string ⟨#[]⟩) (.string ⟨#[]⟩) (.int .u64 0) (.slice none 0 0) (.bool false)) Tryd.underlying28 rfl (by kernel_rfl)) rfl ?_
          rw [HN.out]
          exact ⟨below_row HI.out.bl hM0w _, rfl⟩
        subst hk7
        obtain ⟨V, HV⟩ : ∃ V, Hid (strOfNums (sub xs s4 e4) = V) := ⟨_, rfl⟩
        have HRT : Hid (RES = hd xs (stepD xs) (n - j) (some np4) false ⟨seen ||| 1, tx, V, ci, st, un⟩) := by
          rcases hstr with ⟨_, h2, h3⟩ | ⟨h1, _⟩
          · have h := HRK.out
            unfold stR at h
            simp only at h h2 h3
            rw [h2] at h
            simp only [Option.map_some] at h
            rw [HV.out, ← h3] at h
            exact h
          · exact absurd rfl h1
        have he4 : e4 < n := by have := (tk7_lt HT4.out).2; rw [HX.out] at this; exact this
        have hs4cap : s4 < cap := by omega
        have hsl4 : (0 : Int) ≤ (s4 : Int) ∧ (s4 : Int) ≤ e4 ∧ (e4 : Int) ≤ cap := by omega
        have kc := convM HM.out s4 e4 hl34 hl44 wr1 HI.out.bl
        rw [HV.out] at kc
        have HI5 : Hid (MI w M0 (wr1.setCell ⟨M0 + 1, 3, none⟩ (.string V)) ⟨seen ||| 1, tx, V, ci, st, un⟩ uv) := HI.out.co hM0w V
        have cM := HI.out.m1.c3
        have fM := HI.out.m1.fz 3
        clear HRK hstr HV
        obtain ⟨k6a, s6a, e6a, np6a, ht6a, hl16a, hl26a, hl36a, hl46a, hc6a⟩ := tokC HM.out np4 hl24
        have HT6a : Hid (tk xs np4 = (k6a, s6a, e6a, np6a)) := ht6a
        have HC6a : Hid (∀ wr, Below w.heap.size w wr → Calls Tryd.prog 24 #[.slice (some ⟨b, o, none⟩) n cap, .int .i64 np4] wr fun x w' => x = .returned (.tuple #[.int .i64 k6a, .int .i64 s6a, .int .i64 e6a, .int .i64 np6a]) ∧ w' = wr) := hc6a
        clear ht6a hc6a
        go_wp2_with fail
        clear HI cM fM kc
        have HI := HI5
        generalize wr1.setCell ⟨M0 + 1, 3, none⟩ (.string V) = wr2 at HI ⊢
        clear HI5
        have hsn := HSN1.out
        clear HSN1
        generalize seen ||| 1 = seen' at HI HRT hsn
        refine (HC6a.out _ HI.out.bl).mono ?_
        rintro x0 w0 ⟨rfl, hw0⟩; obtain rfl := hw0.symm
        clear HC6a
        by_cases hk26a : k6a = 2
        · as_aux_lemma =>
          subst hk26a
          have HN : Hid (RES = some (np6a, ⟨seen', tx, V, ci, st, un⟩)) := HRT.out.trans ((hd_of_tk (stepD xs) (n - j) _ HT6a.out).1 rfl)
          clear HRT HT6a
          obtain ⟨pa, ln, cp, huv⟩ := HI.out.uv.form
          subst huv
          have yd0 := HI.out.m1.c0
          have ye0 := HI.out.m1.fz 0
          have yd1 := HI.out.m1.c1
          have ye1 := HI.out.m1.fz 1
          have HMH := Hid.mk' (((HI.out.m0.far (show M0 + 1 ≠ M0 by omega) 0 (.bool true)).far (show M0 + 1 ≠ M0 by omega) 1 (.int .i64 np6a)).row0)
          have HLH := Hid.mk' (((HI.out.m1.set0 (.bool true)).set1 (.int .i64 np6a)).row0)
          have HL8 := Hid.mk' (below_set (below_set HI.out.bl (show w.heap.size ≤ M0 + 1 by omega) 0 (.bool true)) (show w.heap.size ≤ M0 + 1 by omega) 1 (.int .i64 np6a))
          have HU8 := Hid.mk' ((HI.out.uv.far (show M0 + 1 < M0 + 3 by omega) 0 (.bool true)).far (show M0 + 1 < M0 + 3 by omega) 1 (.int .i64 np6a))
          go_wp2_with (first | (with_reducible refine wpList_load_row (by with_unfolding_all rfl) 28 _ (by with_unfolding_all rfl) (M0 + 1) (by with_unfolding_all rfl) 28 _ (0, 0) _ HLH.out Tryd.underlying28 (by with_unfolding_all rfl) (by kernel_rfl) ?_) | (with_reducible refine wpList_store_row (by with_unfolding_all rfl) 28 _ _ (by with_unfolding_all rfl) M0 _ (by with_unfolding_all rfl) (by with_unfolding_all rfl) 28 _ HMH.out (by kernel_rfl) (by with_unfolding_all rfl) (by with_unfolding_all rfl) ?_))
          have HB8 := Mb.row HMH.out (.bool true) (.int .i64 np6a) (.string tx) (.string V) (.string ci) (.int .u64 st) (.slice pa ln cp) (.bool un.isSome)
          (try simp only [Exit.inBlock, Exit.then])
          refine bodyPost_ret (results_cell_row (p := 2) (ty := 28) (by kernel_rfl) _ _ M0 28 _ (0, 0) _ (by rfl) HB8 Tryd.underlying28 rfl (by kernel_rfl)) rfl ?_
          rw [HN.out]
          exact ⟨below_row HL8.out hM0w _, _, rfl, (HU8.out.row (show M0 < M0 + 3 by omega) _).mono (by omega)⟩
        have g26a : ((k6a : Int) == 2) = false := beq_eq_false_iff_ne.2 (by omega)
        by_cases hk66a : k6a = 6
        · as_aux_lemma =>
          subst hk66a
          have HR2 : Hid (RES = objT xs (stepD xs) (n + 1 - (j + 1)) np6a ⟨seen', tx, V, ci, st, un⟩) := by show _ = _; rw [Nat.add_sub_add_right]; exact HRT.out.trans ((hd_of_tk (stepD xs) (n - j) _ HT6a.out).2.1 rfl)
          clear HRT HT6a g26a hk26a
          obtain ⟨k6b, s6b, e6b, np6b, ht6b, hl16b, hl26b, hl36b, hl46b, hc6b⟩ := tokC HM.out np6a hl26a
          have HT6b : Hid (tk xs np6a = (k6b, s6b, e6b, np6b)) := ht6b
          have HC6b : Hid (∀ wr, Below w.heap.size w wr → Calls Tryd.prog 24 #[.slice (some ⟨b, o, none⟩) n cap, .int .i64 np6a] wr fun x w' => x = .returned (.tuple #[.int .i64 k6b, .int .i64 s6b, .int .i64 e6b, .int .i64 np6b]) ∧ w' = wr) := hc6b
          clear ht6b hc6b
          go_wp2_with fail
          refine (HC6b.out _ HI.out.bl).mono ?_
          rintro x0 w0 ⟨rfl, hw0⟩; obtain rfl := hw0.symm
          clear HC6b
          go_wp2_with fail
          go_round
          case rel => exact ⟨j + 1, np6a, k6b, s6b, e6b, np6b, ⟨seen', tx, V, ci, st, un⟩, uv, by omega, hl26a, hl26b, hl36b, hl46b, hsn, by go_num, rfl, rfl, rfl, rfl, HT6b, HI, HR2⟩
          case measure => simp [intOf]; omega
        · as_aux_lemma =>
          have g66a : ((k6a : Int) == 6) = false := beq_eq_false_iff_ne.2 (by omega)
          have g66a' : ((k6a : Int) != 6) = true := by simp; omega
          have HN : Hid (RES = none) := HRT.out.trans ((hd_of_tk (stepD xs) (n - j) _ HT6a.out).2.2 hk26a hk66a)
          clear HRT HT6a hk26a hk66a
          have HMH := Hid.mk' HI.out.m0.row0
          go_wp2_with (with_reducible refine wpList_store_row (by with_unfolding_all rfl) 28 _ _ (by with_unfolding_all rfl) M0 _ (by with_unfolding_all rfl) (by with_unfolding_all rfl) 28 _ HMH.out (by kernel_rfl) (by with_unfolding_all rfl) (by with_unfolding_all rfl) ?_)
          (try simp only [Exit.inBlock, Exit.then])
          refine bodyPost_ret (results_cell_row (p := 2) (ty := 28) (by kernel_rfl) _ _ M0 28 _ (0, 0) _ (by rfl) (HI.out.m0.row (.bool false) (.int .i64 0) (.string ⟨#[]⟩) (.string ⟨#[]⟩) (.string ⟨#[]⟩) (.int .u64 0) (.slice none 0 0) (.bool false)) Tryd.underlying28 rfl (by kernel_rfl)) rfl ?_
          rw [HN.out]
          exact ⟨below_row HI.out.bl hM0w _, rfl⟩
    by_cases hK1 : K = kCi
    · as_aux_lemma =>
      have hI : I = 1 := by rw [HKI.out, if_neg hK0, if_pos hK1]
      subst hI
      have hK' : K = kCi := hK1
      have cS := HI.out.sb.c 1 (by omega)
      have fS := HI.out.sb.fz 1
      simp only at cS
      cases hb : seen.testBit 1 with
      | true =>
        have HN : Hid (RES = none) := HR1.out.trans (objT_dup _ _ _ HT.out fun m => by
          rw [HK.out, hK']
          unfold stepD onA
          rw [if_neg (by decide), if_pos rfl]
          simp only
          rw [hb]
          rfl)
        rw [hb] at cS
        clear HR1 hb hK' HKI hK0 hK1
        have HMH := Hid.mk' HI.out.m0.row0
        go_wp2_with (with_reducible refine wpList_store_row (by with_unfolding_all rfl) 28 _ _ (by with_unfolding_all rfl) M0 _ (by with_unfolding_all rfl) (by with_unfolding_all rfl) 28 _ HMH.out (by kernel_rfl) (by with_unfolding_all rfl) (by with_unfolding_all rfl) ?_)
        (try simp only [Exit.inBlock, Exit.then])
        refine bodyPost_ret (results_cell_row (p := 2) (ty := 28) (by kernel_rfl) _ _ M0 28 _ (0, 0) _ (by rfl) (HI.out.m0.row (.bool false) (.int .i64 0) (.string ⟨#[]⟩) (.string ⟨#[]⟩) (.string ⟨#[]⟩) (.int .u64 0) (.slice none 0 0) (.bool false)) Tryd.underlying28 rfl (by kernel_rfl)) rfl ?_
        rw [HN.out]
        exact ⟨below_row HI.out.bl hM0w _, rfl⟩
      | false =>
        have HI1 : Hid (MI w M0 (wr.setCell ⟨M0 + 2, 1, none⟩ (.bool true)) ⟨seen ||| 2, tx, co, ci, st, un⟩ uv) := HI.out.seen hM0w 1 (by omega) hsn
        have hsn1 := mask_lt seen 1 hsn (by omega)
        have HSN1 : Hid (seen ||| 2 < 16) := hsn1
        have HST : Hid (∀ m, stepD xs (strOfNums (sub xs s e)) m ⟨seen, tx, co, ci, st, un⟩ = (stR xs (some m)).map fun x => (x.2 + 1, (⟨seen ||| 2, tx, co, strOfNums (sub xs x.1 x.2), st, un⟩ : DS))) := fun m => by
          rw [HK.out, hK']
          unfold stepD onA
          rw [if_neg (by decide), if_pos rfl]
          simp only
          rw [hb]
          rfl
        rw [hb] at cS
        clear hsn1 hb hK' HKI HK hK0 hK1
        obtain ⟨k3, s3, e3, np3, ht3, hl13, hl23, hl33, hl43, hc3⟩ := tokC HM.out np hnp
        have HT3 : Hid (tk xs np = (k3, s3, e3, np3)) := ht3
        have HC3 : Hid (∀ wr, Below w.heap.size w wr → Calls Tryd.prog 24 #[.slice (some ⟨b, o, none⟩) n cap, .int .i64 np] wr fun x w' => x = .returned (.tuple #[.int .i64 k3, .int .i64 s3, .int .i64 e3, .int .i64 np3]) ∧ w' = wr) := hc3
        clear ht3 hc3
        go_wp2_with fail
        clear HI hsn
        have HI := HI1
        generalize wr.setCell ⟨M0 + 2, 1, none⟩ (.bool true) = wr1 at HI ⊢
        clear HI1 cS fS
        refine (HC3.out _ HI.out.bl).mono ?_
        rintro x0 w0 ⟨rfl, hw0⟩; obtain rfl := hw0.symm
        clear HC3
        by_cases hk5 : k3 = 5
        rotate_left
        · as_aux_lemma =>
          have g5 : ((k3 : Int) == 5) = false := beq_eq_false_iff_ne.2 (by omega)
          have g5' : ((k3 : Int) != 5) = true := by simp; omega
          have HN : Hid (RES = none) := HR1.out.trans (objT_nocolon _ _ _ HT.out HT3.out hk5)
          clear HR1 hk5 HST
          have HMH := Hid.mk' HI.out.m0.row0
          go_wp2_with (with_reducible refine wpList_store_row (by with_unfolding_all rfl) 28 _ _ (by with_unfolding_all rfl) M0 _ (by with_unfolding_all rfl) (by with_unfolding_all rfl) 28 _ HMH.out (by kernel_rfl) (by with_unfolding_all rfl) (by with_unfolding_all rfl) ?_)
          (try simp only [Exit.inBlock, Exit.then])
          refine bodyPost_ret (results_cell_row (p := 2) (ty := 28) (by kernel_rfl) _ _ M0 28 _ (0, 0) _ (by rfl) (HI.out.m0.row (.bool false) (.int .i64 0) (.string ⟨#[]⟩) (.string ⟨#[]⟩) (.string ⟨#[]⟩) (.int .u64 0) (.slice none 0 0) (.bool false)) Tryd.underlying28 rfl (by kernel_rfl)) rfl ?_
          rw [HN.out]
          exact ⟨below_row HI.out.bl hM0w _, rfl⟩
        subst hk5
        have HRK : Hid (RES = bindH ((stR xs (some np3)).map fun x => (x.2 + 1, (⟨seen ||| 2, tx, co, strOfNums (sub xs x.1 x.2), st, un⟩ : DS))) fun m' S' => hd xs (stepD xs) (n - j) (some m') false S') := by
          have h := objT_key (stepD xs) (n - j) ⟨seen, tx, co, ci, st, un⟩ HT.out HT3.out
          rw [HST.out] at h
          exact HR1.out.trans h
        clear HR1 HT HT3 HST
        obtain ⟨k4, s4, e4, np4, ht4, hl14, hl24, hl34, hl44, hc4⟩ := tokC HM.out np3 hl23
        have HT4 : Hid (tk xs np3 = (k4, s4, e4, np4)) := ht4
        have HC4 : Hid (∀ wr, Below w.heap.size w wr → Calls Tryd.prog 24 #[.slice (some ⟨b, o, none⟩) n cap, .int .i64 np3] wr fun x w' => x = .returned (.tuple #[.int .i64 k4, .int .i64 s4, .int .i64 e4, .int .i64 np4]) ∧ w' = wr) := hc4
        clear ht4 hc4
        go_wp2_with fail
        refine (HC4.out _ HI.out.bl).mono ?_
        rintro x0 w0 ⟨rfl, hw0⟩; obtain rfl := hw0.symm
        clear HC4
        have hstr := tk_str xs np3
        rw [HT4.out] at hstr
        by_cases hk7 : k4 = 7
        rotate_left
        · as_aux_lemma =>
          have g7 : ((k4 : Int) == 7) = false := beq_eq_false_iff_ne.2 (by omega)
          have g7' : ((k4 : Int) != 7) = true := by simp; omega
          have HN : Hid (RES = none) := by
            rcases hstr with ⟨h1, _⟩ | ⟨_, h2⟩
            · exact absurd h1 hk7
            · have h := HRK.out
              unfold stR at h
              simp only at h
              rw [h2] at h
              exact h
          clear HRK hk7 hstr
          have HMH := Hid.mk' HI.out.m0.row0
          go_wp2_with (with_reducible refine wpList_store_row (by with_unfolding_all rfl) 28 _ _ (by with_unfolding_all rfl) M0 _ (by with_unfolding_all rfl) (by with_unfolding_all rfl) 28 _ HMH.out (by kernel_rfl) (by with_unfolding_all rfl) (by with_unfolding_all rfl) ?_)
          (try simp only [Exit.inBlock, Exit.then])
          refine bodyPost_ret (results_cell_row (p := 2) (ty := 28) (by kernel_rfl) _ _ M0 28 _ (0, 0) _ (by rfl) (HI.out.m0.row (.bool false) (.int .i64 0) (.string ⟨#[]⟩) (.string ⟨#[]⟩) (.string ⟨#[]⟩) (.int .u64 0) (.slice none 0 0) (.bool false)) Tryd.underlying28 rfl (by kernel_rfl)) rfl ?_
          rw [HN.out]
          exact ⟨below_row HI.out.bl hM0w _, rfl⟩
        subst hk7
        obtain ⟨V, HV⟩ : ∃ V, Hid (strOfNums (sub xs s4 e4) = V) := ⟨_, rfl⟩
        have HRT : Hid (RES = hd xs (stepD xs) (n - j) (some np4) false ⟨seen ||| 2, tx, co, V, st, un⟩) := by
          rcases hstr with ⟨_, h2, h3⟩ | ⟨h1, _⟩
          · have h := HRK.out
            unfold stR at h
            simp only at h h2 h3
            rw [h2] at h
            simp only [Option.map_some] at h
            rw [HV.out, ← h3] at h
            exact h
          · exact absurd rfl h1
        have he4 : e4 < n := by have := (tk7_lt HT4.out).2; rw [HX.out] at this; exact this
        have hs4cap : s4 < cap := by omega
        have hsl4 : (0 : Int) ≤ (s4 : Int) ∧ (s4 : Int) ≤ e4 ∧ (e4 : Int) ≤ cap := by omega
        have kc := convM HM.out s4 e4 hl34 hl44 wr1 HI.out.bl
        rw [HV.out] at kc
        have HI5 : Hid (MI w M0 (wr1.setCell ⟨M0 + 1, 4, none⟩ (.string V)) ⟨seen ||| 2, tx, co, V, st, un⟩ uv) := HI.out.ci hM0w V
        have cM := HI.out.m1.c4
        have fM := HI.out.m1.fz 4
        clear HRK hstr HV
        obtain ⟨k6a, s6a, e6a, np6a, ht6a, hl16a, hl26a, hl36a, hl46a, hc6a⟩ := tokC HM.out np4 hl24
        have HT6a : Hid (tk xs np4 = (k6a, s6a, e6a, np6a)) := ht6a
        have HC6a : Hid (∀ wr, Below w.heap.size w wr → Calls Tryd.prog 24 #[.slice (some ⟨b, o, none⟩) n cap, .int .i64 np4] wr fun x w' => x = .returned (.tuple #[.int .i64 k6a, .int .i64 s6a, .int .i64 e6a, .int .i64 np6a]) ∧ w' = wr) := hc6a
        clear ht6a hc6a
        go_wp2_with fail
        clear HI cM fM kc
        have HI := HI5
        generalize wr1.setCell ⟨M0 + 1, 4, none⟩ (.string V) = wr2 at HI ⊢
        clear HI5
        have hsn := HSN1.out
        clear HSN1
        generalize seen ||| 2 = seen' at HI HRT hsn
        refine (HC6a.out _ HI.out.bl).mono ?_
        rintro x0 w0 ⟨rfl, hw0⟩; obtain rfl := hw0.symm
        clear HC6a
        by_cases hk26a : k6a = 2
        · as_aux_lemma =>
          subst hk26a
          have HN : Hid (RES = some (np6a, ⟨seen', tx, co, V, st, un⟩)) := HRT.out.trans ((hd_of_tk (stepD xs) (n - j) _ HT6a.out).1 rfl)
          clear HRT HT6a
          obtain ⟨pa, ln, cp, huv⟩ := HI.out.uv.form
          subst huv
          have yd0 := HI.out.m1.c0
          have ye0 := HI.out.m1.fz 0
          have yd1 := HI.out.m1.c1
          have ye1 := HI.out.m1.fz 1
          have HMH := Hid.mk' (((HI.out.m0.far (show M0 + 1 ≠ M0 by omega) 0 (.bool true)).far (show M0 + 1 ≠ M0 by omega) 1 (.int .i64 np6a)).row0)
          have HLH := Hid.mk' (((HI.out.m1.set0 (.bool true)).set1 (.int .i64 np6a)).row0)
          have HL8 := Hid.mk' (below_set (below_set HI.out.bl (show w.heap.size ≤ M0 + 1 by omega) 0 (.bool true)) (show w.heap.size ≤ M0 + 1 by omega) 1 (.int .i64 np6a))
          have HU8 := Hid.mk' ((HI.out.uv.far (show M0 + 1 < M0 + 3 by omega) 0 (.bool true)).far (show M0 + 1 < M0 + 3 by omega) 1 (.int .i64 np6a))
          go_wp2_with (first | (with_reducible refine wpList_load_row (by with_unfolding_all rfl) 28 _ (by with_unfolding_all rfl) (M0 + 1) (by with_unfolding_all rfl) 28 _ (0, 0) _ HLH.out Tryd.underlying28 (by with_unfolding_all rfl) (by kernel_rfl) ?_) | (with_reducible refine wpList_store_row (by with_unfolding_all rfl) 28 _ _ (by with_unfolding_all rfl) M0 _ (by with_unfolding_all rfl) (by with_unfolding_all rfl) 28 _ HMH.out (by kernel_rfl) (by with_unfolding_all rfl) (by with_unfolding_all rfl) ?_))
          have HB8 := Mb.row HMH.out (.bool true) (.int .i64 np6a) (.string tx) (.string co) (.string V) (.int .u64 st) (.slice pa ln cp) (.bool un.isSome)
          (try simp only [Exit.inBlock, Exit.then])
          refine bodyPost_ret (results_cell_row (p := 2) (ty := 28) (by kernel_rfl) _ _ M0 28 _ (0, 0) _ (by rfl) HB8 Tryd.underlying28 rfl (by kernel_rfl)) rfl ?_
          rw [HN.out]
          exact ⟨below_row HL8.out hM0w _, _, rfl, (HU8.out.row (show M0 < M0 + 3 by omega) _).mono (by omega)⟩
        have g26a : ((k6a : Int) == 2) = false := beq_eq_false_iff_ne.2 (by omega)
        by_cases hk66a : k6a = 6
        · as_aux_lemma =>
          subst hk66a
          have HR2 : Hid (RES = objT xs (stepD xs) (n + 1 - (j + 1)) np6a ⟨seen', tx, co, V, st, un⟩) := by show _ = _; rw [Nat.add_sub_add_right]; exact HRT.out.trans ((hd_of_tk (stepD xs) (n - j) _ HT6a.out).2.1 rfl)
          clear HRT HT6a g26a hk26a
          obtain ⟨k6b, s6b, e6b, np6b, ht6b, hl16b, hl26b, hl36b, hl46b, hc6b⟩ := tokC HM.out np6a hl26a
          have HT6b : Hid (tk xs np6a = (k6b, s6b, e6b, np6b)) := ht6b
          have HC6b : Hid (∀ wr, Below w.heap.size w wr → Calls Tryd.prog 24 #[.slice (some ⟨b, o, none⟩) n cap, .int .i64 np6a] wr fun x w' => x = .returned (.tuple #[.int .i64 k6b, .int .i64 s6b, .int .i64 e6b, .int .i64 np6b]) ∧ w' = wr) := hc6b
          clear ht6b hc6b
          go_wp2_with fail
          refine (HC6b.out _ HI.out.bl).mono ?_
          rintro x0 w0 ⟨rfl, hw0⟩; obtain rfl := hw0.symm
          clear HC6b
          go_wp2_with fail
          go_round
          case rel => exact ⟨j + 1, np6a, k6b, s6b, e6b, np6b, ⟨seen', tx, co, V, st, un⟩, uv, by omega, hl26a, hl26b, hl36b, hl46b, hsn, by go_num, rfl, rfl, rfl, rfl, HT6b, HI, HR2⟩
          case measure => simp [intOf]; omega
        · as_aux_lemma =>
          have g66a : ((k6a : Int) == 6) = false := beq_eq_false_iff_ne.2 (by omega)
          have g66a' : ((k6a : Int) != 6) = true := by simp; omega
          have HN : Hid (RES = none) := HRT.out.trans ((hd_of_tk (stepD xs) (n - j) _ HT6a.out).2.2 hk26a hk66a)
          clear HRT HT6a hk26a hk66a
          have HMH := Hid.mk' HI.out.m0.row0
          go_wp2_with (with_reducible refine wpList_store_row (by with_unfolding_all rfl) 28 _ _ (by with_unfolding_all rfl) M0 _ (by with_unfolding_all rfl) (by with_unfolding_all rfl) 28 _ HMH.out (by kernel_rfl) (by with_unfolding_all rfl) (by with_unfolding_all rfl) ?_)
          (try simp only [Exit.inBlock, Exit.then])
          refine bodyPost_ret (results_cell_row (p := 2) (ty := 28) (by kernel_rfl) _ _ M0 28 _ (0, 0) _ (by rfl) (HI.out.m0.row (.bool false) (.int .i64 0) (.string ⟨#[]⟩) (.string ⟨#[]⟩) (.string ⟨#[]⟩) (.int .u64 0) (.slice none 0 0) (.bool false)) Tryd.underlying28 rfl (by kernel_rfl)) rfl ?_
          rw [HN.out]
          exact ⟨below_row HI.out.bl hM0w _, rfl⟩
    by_cases hK2 : K = kTx
    · as_aux_lemma =>
      have hI : I = 2 := by rw [HKI.out, if_neg hK0, if_neg hK1, if_pos hK2]
      subst hI
      have hK' : K = kTx := hK2
      have cS := HI.out.sb.c 2 (by omega)
      have fS := HI.out.sb.fz 2
      simp only at cS
      cases hb : seen.testBit 2 with
      | true =>
        have HN : Hid (RES = none) := HR1.out.trans (objT_dup _ _ _ HT.out fun m => by
          rw [HK.out, hK']
          unfold stepD onA
          rw [if_neg (by decide), if_neg (by decide), if_pos rfl]
          simp only
          rw [hb]
          rfl)
        rw [hb] at cS
        clear HR1 hb hK' HKI hK0 hK1 hK2
        have HMH := Hid.mk' HI.out.m0.row0
        go_wp2_with (with_reducible refine wpList_store_row (by with_unfolding_all rfl) 28 _ _ (by with_unfolding_all rfl) M0 _ (by with_unfolding_all rfl) (by with_unfolding_all rfl) 28 _ HMH.out (by kernel_rfl) (by with_unfolding_all rfl) (by with_unfolding_all rfl) ?_)
        (try simp only [Exit.inBlock, Exit.then])
        refine bodyPost_ret (results_cell_row (p := 2) (ty := 28) (by kernel_rfl) _ _ M0 28 _ (0, 0) _ (by rfl) (HI.out.m0.row (.bool false) (.int .i64 0) (.string ⟨#[]⟩) (.string ⟨#[]⟩) (.string ⟨#[]⟩) (.int .u64 0) (.slice none 0 0) (.bool false)) Tryd.underlying28 rfl (by kernel_rfl)) rfl ?_
        rw [HN.out]
        exact ⟨below_row HI.out.bl hM0w _, rfl⟩
      | false =>
        have HI1 : Hid (MI w M0 (wr.setCell ⟨M0 + 2, 2, none⟩ (.bool true)) ⟨seen ||| 4, tx, co, ci, st, un⟩ uv) := HI.out.seen hM0w 2 (by omega) hsn
        have hsn1 := mask_lt seen 2 hsn (by omega)
        have HSN1 : Hid (seen ||| 4 < 16) := hsn1
        have HST : Hid (∀ m, stepD xs (strOfNums (sub xs s e)) m ⟨seen, tx, co, ci, st, un⟩ = (stR xs (some m)).map fun x => (x.2 + 1, (⟨seen ||| 4, strOfNums (sub xs x.1 x.2), co, ci, st, un⟩ : DS))) := fun m => by
          rw [HK.out, hK']
          unfold stepD onA
          rw [if_neg (by decide), if_neg (by decide), if_pos rfl]
          simp only
          rw [hb]
          rfl
        rw [hb] at cS
        clear hsn1 hb hK' HKI HK hK0 hK1 hK2
        obtain ⟨k3, s3, e3, np3, ht3, hl13, hl23, hl33, hl43, hc3⟩ := tokC HM.out np hnp
        have HT3 : Hid (tk xs np = (k3, s3, e3, np3)) := ht3
        have HC3 : Hid (∀ wr, Below w.heap.size w wr → Calls Tryd.prog 24 #[.slice (some ⟨b, o, none⟩) n cap, .int .i64 np] wr fun x w' => x = .returned (.tuple #[.int .i64 k3, .int .i64 s3, .int .i64 e3, .int .i64 np3]) ∧ w' = wr) := hc3
        clear ht3 hc3
        go_wp2_with fail
        clear HI hsn
        have HI := HI1
        generalize wr.setCell ⟨M0 + 2, 2, none⟩ (.bool true) = wr1 at HI ⊢
        clear HI1 cS fS
        refine (HC3.out _ HI.out.bl).mono ?_
        rintro x0 w0 ⟨rfl, hw0⟩; obtain rfl := hw0.symm
        clear HC3
        by_cases hk5 : k3 = 5
        rotate_left
        · as_aux_lemma =>
          have g5 : ((k3 : Int) == 5) = false := beq_eq_false_iff_ne.2 (by omega)
          have g5' : ((k3 : Int) != 5) = true := by simp; omega
          have HN : Hid (RES = none) := HR1.out.trans (objT_nocolon _ _ _ HT.out HT3.out hk5)
          clear HR1 hk5 HST
          have HMH := Hid.mk' HI.out.m0.row0
          go_wp2_with (with_reducible refine wpList_store_row (by with_unfolding_all rfl) 28 _ _ (by with_unfolding_all rfl) M0 _ (by with_unfolding_all rfl) (by with_unfolding_all rfl) 28 _ HMH.out (by kernel_rfl) (by with_unfolding_all rfl) (by with_unfolding_all rfl) ?_)
          (try simp only [Exit.inBlock, Exit.then])
          refine bodyPost_ret (results_cell_row (p := 2) (ty := 28) (by kernel_rfl) _ _ M0 28 _ (0, 0) _ (by rfl) (HI.out.m0.row (.bool false) (.int .i64 0) (.string ⟨#[]⟩) (.string ⟨#[]⟩) (.string ⟨#[]⟩) (.int .u64 0) (.slice none 0 0) (.bool false)) Tryd.underlying28 rfl (by kernel_rfl)) rfl ?_
          rw [HN.out]
          exact ⟨below_row HI.out.bl hM0w _, rfl⟩
        subst hk5
        have HRK : Hid (RES = bindH ((stR xs (some np3)).map fun x => (x.2 + 1, (⟨seen ||| 4, strOfNums (sub xs x.1 x.2), co, ci, st, un⟩ : DS))) fun m' S' => hd xs (stepD xs) (n - j) (some m') false S') := by
          have h := objT_key (stepD xs) (n - j) ⟨seen, tx, co, ci, st, un⟩ HT.out HT3.out
          rw [HST.out] at h
          exact HR1.out.trans h
        clear HR1 HT HT3 HST
        obtain ⟨k4, s4, e4, np4, ht4, hl14, hl24, hl34, hl44, hc4⟩ := tokC HM.out np3 hl23
        have HT4 : Hid (tk xs np3 = (k4, s4, e4, np4)) := ht4
        have HC4 : Hid (∀ wr, Below w.heap.size w wr → Calls Tryd.prog 24 #[.slice (some ⟨b, o, none⟩) n cap, .int .i64 np3] wr fun x w' => x = .returned (.tuple #[.int .i64 k4, .int .i64 s4, .int .i64 e4, .int .i64 np4]) ∧ w' = wr) := hc4
        clear ht4 hc4
        go_wp2_with fail
        refine (HC4.out _ HI.out.bl).mono ?_
        rintro x0 w0 ⟨rfl, hw0⟩; obtain rfl := hw0.symm
        clear HC4
        have hstr := tk_str xs np3
        rw [HT4.out] at hstr
        by_cases hk7 : k4 = 7
        rotate_left
        · as_aux_lemma =>
          have g7 : ((k4 : Int) == 7) = false := beq_eq_false_iff_ne.2 (by omega)
          have g7' : ((k4 : Int) != 7) = true := by simp; omega
          have HN : Hid (RES = none) := by
            rcases hstr with ⟨h1, _⟩ | ⟨_, h2⟩
            · exact absurd h1 hk7
            · have h := HRK.out
              unfold stR at h
              simp only at h
              rw [h2] at h
              exact h
          clear HRK hk7 hstr
          have HMH := Hid.mk' HI.out.m0.row0
          go_wp2_with (with_reducible refine wpList_store_row (by with_unfolding_all rfl) 28 _ _ (by with_unfolding_all rfl) M0 _ (by with_unfolding_all rfl) (by with_unfolding_all rfl) 28 _ HMH.out (by kernel_rfl) (by with_unfolding_all rfl) (by with_unfolding_all rfl) ?_)
          (try simp only [Exit.inBlock, Exit.then])
          refine bodyPost_ret (results_cell_row (p := 2) (ty := 28) (by kernel_rfl) _ _ M0 28 _ (0, 0) _ (by rfl) (HI.out.m0.row (.bool false) (.int .i64 0) (.string ⟨#[]⟩) (.string ⟨#[]⟩) (.string ⟨#[]⟩) (.int .u64 0) (.slice none 0 0) (.bool false)) Tryd.underlying28 rfl (by kernel_rfl)) rfl ?_
          rw [HN.out]
          exact ⟨below_row HI.out.bl hM0w _, rfl⟩
        subst hk7
        obtain ⟨V, HV⟩ : ∃ V, Hid (strOfNums (sub xs s4 e4) = V) := ⟨_, rfl⟩
        have HRT : Hid (RES = hd xs (stepD xs) (n - j) (some np4) false ⟨seen ||| 4, V, co, ci, st, un⟩) := by
          rcases hstr with ⟨_, h2, h3⟩ | ⟨h1, _⟩
          · have h := HRK.out
            unfold stR at h
            simp only at h h2 h3
            rw [h2] at h
            simp only [Option.map_some] at h
            rw [HV.out, ← h3] at h
            exact h
          · exact absurd rfl h1
        have he4 : e4 < n := by have := (tk7_lt HT4.out).2; rw [HX.out] at this; exact this
        have hs4cap : s4 < cap := by omega
        have hsl4 : (0 : Int) ≤ (s4 : Int) ∧ (s4 : Int) ≤ e4 ∧ (e4 : Int) ≤ cap := by omega
        have kc := convM HM.out s4 e4 hl34 hl44 wr1 HI.out.bl
        rw [HV.out] at kc
        have HI5 : Hid (MI w M0 (wr1.setCell ⟨M0 + 1, 2, none⟩ (.string V)) ⟨seen ||| 4, V, co, ci, st, un⟩ uv) := HI.out.txn hM0w V
        have cM := HI.out.m1.c2
        have fM := HI.out.m1.fz 2
        clear HRK hstr HV
        obtain ⟨k6a, s6a, e6a, np6a, ht6a, hl16a, hl26a, hl36a, hl46a, hc6a⟩ := tokC HM.out np4 hl24
        have HT6a : Hid (tk xs np4 = (k6a, s6a, e6a, np6a)) := ht6a
        have HC6a : Hid (∀ wr, Below w.heap.size w wr → Calls Tryd.prog 24 #[.slice (some ⟨b, o, none⟩) n cap, .int .i64 np4] wr fun x w' => x = .returned (.tuple #[.int .i64 k6a, .int .i64 s6a, .int .i64 e6a, .int .i64 np6a]) ∧ w' = wr) := hc6a
        clear ht6a hc6a
        go_wp2_with fail
        clear HI cM fM kc
        have HI := HI5
        generalize wr1.setCell ⟨M0 + 1, 2, none⟩ (.string V) = wr2 at HI ⊢
        clear HI5
        have hsn := HSN1.out
        clear HSN1
        generalize seen ||| 4 = seen' at HI HRT hsn
        refine (HC6a.out _ HI.out.bl).mono ?_
        rintro x0 w0 ⟨rfl, hw0⟩; obtain rfl := hw0.symm
        clear HC6a
        by_cases hk26a : k6a = 2
        · as_aux_lemma =>
          subst hk26a
          have HN : Hid (RES = some (np6a, ⟨seen', V, co, ci, st, un⟩)) := HRT.out.trans ((hd_of_tk (stepD xs) (n - j) _ HT6a.out).1 rfl)
          clear HRT HT6a
          obtain ⟨pa, ln, cp, huv⟩ := HI.out.uv.form
          subst huv
          have yd0 := HI.out.m1.c0
          have ye0 := HI.out.m1.fz 0
          have yd1 := HI.out.m1.c1
          have ye1 := HI.out.m1.fz 1
          have HMH := Hid.mk' (((HI.out.m0.far (show M0 + 1 ≠ M0 by omega) 0 (.bool true)).far (show M0 + 1 ≠ M0 by omega) 1 (.int .i64 np6a)).row0)
          have HLH := Hid.mk' (((HI.out.m1.set0 (.bool true)).set1 (.int .i64 np6a)).row0)
          have HL8 := Hid.mk' (below_set (below_set HI.out.bl (show w.heap.size ≤ M0 + 1 by omega) 0 (.bool true)) (show w.heap.size ≤ M0 + 1 by omega) 1 (.int .i64 np6a))
          have HU8 := Hid.mk' ((HI.out.uv.far (show M0 + 1 < M0 + 3 by omega) 0 (.bool true)).far (show M0 + 1 < M0 + 3 by omega) 1 (.int .i64 np6a))
          go_wp2_with (first | (with_reducible refine wpList_load_row (by with_unfolding_all rfl) 28 _ (by with_unfolding_all rfl) (M0 + 1) (by with_unfolding_all rfl) 28 _ (0, 0) _ HLH.out Tryd.underlying28 (by with_unfolding_all rfl) (by kernel_rfl) ?_) | (with_reducible refine wpList_store_row (by with_unfolding_all rfl) 28 _ _ (by with_unfolding_all rfl) M0 _ (by with_unfolding_all rfl) (by with_unfolding_all rfl) 28 _ HMH.out (by kernel_rfl) (by with_unfolding_all rfl) (by with_unfolding_all rfl) ?_))
          have HB8 := Mb.row HMH.out (.bool true) (.int .i64 np6a) (.string V) (.string co) (.string ci) (.int .u64 st) (.slice pa ln cp) (.bool un.isSome)
          (try simp only [Exit.inBlock, Exit.then])
          refine bodyPost_ret (results_cell_row (p := 2) (ty := 28) (by kernel_rfl) _ _ M0 28 _ (0, 0) _ (by rfl) HB8 Tryd.underlying28 rfl (by kernel_rfl)) rfl ?_
          rw [HN.out]
          exact ⟨below_row HL8.out hM0w _, _, rfl, (HU8.out.row (show M0 < M0 + 3 by omega) _).mono (by omega)⟩
        have g26a : ((k6a : Int) == 2) = false := beq_eq_false_iff_ne.2 (by omega)
        by_cases hk66a : k6a = 6
        · as_aux_lemma =>
          subst hk66a
          have HR2 : Hid (RES = objT xs (stepD xs) (n + 1 - (j + 1)) np6a ⟨seen', V, co, ci, st, un⟩) := by show _ = _; rw [Nat.add_sub_add_right]; exact HRT.out.trans ((hd_of_tk (stepD xs) (n - j) _ HT6a.out).2.1 rfl)
          clear HRT HT6a g26a hk26a
          obtain ⟨k6b, s6b, e6b, np6b, ht6b, hl16b, hl26b, hl36b, hl46b, hc6b⟩ := tokC HM.out np6a hl26a
          have HT6b : Hid (tk xs np6a = (k6b, s6b, e6b, np6b)) := ht6b
          have HC6b : Hid (∀ wr, Below w.heap.size w wr → Calls Tryd.prog 24 #[.slice (some ⟨b, o, none⟩) n cap, .int .i64 np6a] wr fun x w' => x = .returned (.tuple #[.int .i64 k6b, .int .i64 s6b, .int .i64 e6b, .int .i64 np6b]) ∧ w' = wr) := hc6b
          clear ht6b hc6b
          go_wp2_with fail
          refine (HC6b.out _ HI.out.bl).mono ?_
          rintro x0 w0 ⟨rfl, hw0⟩; obtain rfl := hw0.symm
          clear HC6b
          go_wp2_with fail
          go_round
          case rel => exact ⟨j + 1, np6a, k6b, s6b, e6b, np6b, ⟨seen', V, co, ci, st, un⟩, uv, by omega, hl26a, hl26b, hl36b, hl46b, hsn, by go_num, rfl, rfl, rfl, rfl, HT6b, HI, HR2⟩
          case measure => simp [intOf]; omega
        · as_aux_lemma =>
          have g66a : ((k6a : Int) == 6) = false := beq_eq_false_iff_ne.2 (by omega)
          have g66a' : ((k6a : Int) != 6) = true := by simp; omega
          have HN : Hid (RES = none) := HRT.out.trans ((hd_of_tk (stepD xs) (n - j) _ HT6a.out).2.2 hk26a hk66a)
          clear HRT HT6a hk26a hk66a
          have HMH := Hid.mk' HI.out.m0.row0
          go_wp2_with (with_reducible refine wpList_store_row (by with_unfolding_all rfl) 28 _ _ (by with_unfolding_all rfl) M0 _ (by with_unfolding_all rfl) (by with_unfolding_all rfl) 28 _ HMH.out (by kernel_rfl) (by with_unfolding_all rfl) (by with_unfolding_all rfl) ?_)
          (try simp only [Exit.inBlock, Exit.then])
          refine bodyPost_ret (results_cell_row (p := 2) (ty := 28) (by kernel_rfl) _ _ M0 28 _ (0, 0) _ (by rfl) (HI.out.m0.row (.bool false) (.int .i64 0) (.string ⟨#[]⟩) (.string ⟨#[]⟩) (.string ⟨#[]⟩) (.int .u64 0) (.slice none 0 0) (.bool false)) Tryd.underlying28 rfl (by kernel_rfl)) rfl ?_
          rw [HN.out]
          exact ⟨below_row HI.out.bl hM0w _, rfl⟩
    by_cases hK3 : K = kHo
    · as_aux_lemma =>
      have hI : I = 3 := by rw [HKI.out, if_neg hK0, if_neg hK1, if_neg hK2, if_pos hK3]
      subst hI
      have hK' : K = kHo := hK3
      have cS := HI.out.sb.c 3 (by omega)
      have fS := HI.out.sb.fz 3
      simp only at cS
      cases hb : seen.testBit 3 with
      | true =>
        have HN : Hid (RES = none) := HR1.out.trans (objT_dup _ _ _ HT.out fun m => by
          rw [HK.out, hK']
          unfold stepD onA
          rw [if_neg (by decide), if_neg (by decide), if_neg (by decide), if_pos rfl]
          simp only
          rw [hb]
          rfl)
        rw [hb] at cS
        clear HR1 hb hK' HKI hK0 hK1 hK2 hK3
        have HMH := Hid.mk' HI.out.m0.row0
        go_wp2_with (with_reducible refine wpList_store_row (by with_unfolding_all rfl) 28 _ _ (by with_unfolding_all rfl) M0 _ (by with_unfolding_all rfl) (by with_unfolding_all rfl) 28 _ HMH.out (by kernel_rfl) (by with_unfolding_all rfl) (by with_unfolding_all rfl) ?_)
        (try simp only [Exit.inBlock, Exit.then])
        refine bodyPost_ret (results_cell_row (p := 2) (ty := 28) (by kernel_rfl) _ _ M0 28 _ (0, 0) _ (by rfl) (HI.out.m0.row (.bool false) (.int .i64 0) (.string ⟨#[]⟩) (.string ⟨#[]⟩) (.string ⟨#[]⟩) (.int .u64 0) (.slice none 0 0) (.bool false)) Tryd.underlying28 rfl (by kernel_rfl)) rfl ?_
        rw [HN.out]
        exact ⟨below_row HI.out.bl hM0w _, rfl⟩
      | false =>
        have HI1 : Hid (MI w M0 (wr.setCell ⟨M0 + 2, 3, none⟩ (.bool true)) ⟨seen ||| 8, tx, co, ci, st, un⟩ uv) := HI.out.seen hM0w 3 (by omega) hsn
        have hsn1 := mask_lt seen 3 hsn (by omega)
        have HSN1 : Hid (seen ||| 8 < 16) := hsn1
        have HST : Hid (∀ m, stepD xs (strOfNums (sub xs s e)) m ⟨seen, tx, co, ci, st, un⟩ = (horR xs (some m)).map fun x => (x.1, (⟨seen ||| 8, tx, co, ci, x.2.st, x.2.un⟩ : DS))) := fun m => by
          rw [HK.out, hK']
          unfold stepD onA
          rw [if_neg (by decide), if_neg (by decide), if_neg (by decide), if_pos rfl]
          simp only
          rw [hb]
          rfl
        rw [hb] at cS
        clear hsn1 hb hK' HKI HK hK0 hK1 hK2 hK3
        obtain ⟨k3, s3, e3, np3, ht3, hl13, hl23, hl33, hl43, hc3⟩ := tokC HM.out np hnp
        have HT3 : Hid (tk xs np = (k3, s3, e3, np3)) := ht3
        have HC3 : Hid (∀ wr, Below w.heap.size w wr → Calls Tryd.prog 24 #[.slice (some ⟨b, o, none⟩) n cap, .int .i64 np] wr fun x w' => x = .returned (.tuple #[.int .i64 k3, .int .i64 s3, .int .i64 e3, .int .i64 np3]) ∧ w' = wr) := hc3
        clear ht3 hc3
        go_wp2_with fail
        clear HI hsn
        have HI := HI1
        generalize wr.setCell ⟨M0 + 2, 3, none⟩ (.bool true) = wr1 at HI ⊢
        clear HI1 cS fS
        refine (HC3.out _ HI.out.bl).mono ?_
        rintro x0 w0 ⟨rfl, hw0⟩; obtain rfl := hw0.symm
        clear HC3
        by_cases hk5 : k3 = 5
        rotate_left
        · as_aux_lemma =>
          have g5 : ((k3 : Int) == 5) = false := beq_eq_false_iff_ne.2 (by omega)
          have g5' : ((k3 : Int) != 5) = true := by simp; omega
          have HN : Hid (RES = none) := HR1.out.trans (objT_nocolon _ _ _ HT.out HT3.out hk5)
          clear HR1 hk5 HST
          have HMH := Hid.mk' HI.out.m0.row0
          go_wp2_with (with_reducible refine wpList_store_row (by with_unfolding_all rfl) 28 _ _ (by with_unfolding_all rfl) M0 _ (by with_unfolding_all rfl) (by with_unfolding_all rfl) 28 _ HMH.out (by kernel_rfl) (by with_unfolding_all rfl) (by with_unfolding_all rfl) ?_)
          (try simp only [Exit.inBlock, Exit.then])
          refine bodyPost_ret (results_cell_row (p := 2) (ty := 28) (by kernel_rfl) _ _ M0 28 _ (0, 0) _ (by rfl) (HI.out.m0.row (.bool false) (.int .i64 0) (.string ⟨#[]⟩) (.string ⟨#[]⟩) (.string ⟨#[]⟩) (.int .u64 0) (.slice none 0 0) (.bool false)) Tryd.underlying28 rfl (by kernel_rfl)) rfl ?_
          rw [HN.out]
          exact ⟨below_row HI.out.bl hM0w _, rfl⟩
        subst hk5
        have HRK : Hid (RES = bindH ((horR xs (some np3)).map fun x => (x.1, (⟨seen ||| 8, tx, co, ci, x.2.st, x.2.un⟩ : DS))) fun m' S' => hd xs (stepD xs) (n - j) (some m') false S') := by
          have h := objT_key (stepD xs) (n - j) ⟨seen, tx, co, ci, st, un⟩ HT.out HT3.out
          rw [HST.out] at h
          exact HR1.out.trans h
        clear HR1 HT HT3 HST
        have hmh := mhor_any b o n cap xs np3 wr1 (HM.out.below HI.out.bl) hl23
        have HMH : Hid (Calls Tryd.prog 26 #[.slice (some ⟨b, o, none⟩) n cap, .int .i64 np3] wr1 fun e w' => MhOut (horR xs (some np3)) wr1 e w') := hmh
        clear hmh
        cases hhr : horR xs (some np3) with
        | none => as_aux_lemma =>
          rw [hhr] at HMH HRK
          have HN : Hid (RES = none) := HRK.out
          clear HRK hhr
          go_wp2_with fail
          refine HMH.out.mono ?_
          rintro x0 w0 ⟨hb0, rfl⟩
          have HI' : Hid (MI w M0 w0 ⟨seen ||| 8, tx, co, ci, st, un⟩ uv) := HI.out.below hb0
          clear HI hb0 HMH
          have HI := HI'
          clear HI'
          have HMH := Hid.mk' HI.out.m0.row0
          go_wp2_with (with_reducible refine wpList_store_row (by with_unfolding_all rfl) 28 _ _ (by with_unfolding_all rfl) M0 _ (by with_unfolding_all rfl) (by with_unfolding_all rfl) 28 _ HMH.out (by kernel_rfl) (by with_unfolding_all rfl) (by with_unfolding_all rfl) ?_)
          (try simp only [Exit.inBlock, Exit.then])
          refine bodyPost_ret (results_cell_row (p := 2) (ty := 28) (by kernel_rfl) _ _ M0 28 _ (0, 0) _ (by rfl) (HI.out.m0.row (.bool false) (.int .i64 0) (.string ⟨#[]⟩) (.string ⟨#[]⟩) (.string ⟨#[]⟩) (.int .u64 0) (.slice none 0 0) (.bool false)) Tryd.underlying28 rfl (by kernel_rfl)) rfl ?_
          rw [HN.out]
          exact ⟨below_row HI.out.bl hM0w _, rfl⟩
        | some x => as_aux_lemma =>
          obtain ⟨m', ⟨seen2, st2, un2⟩⟩ := x
          have hm' : m' ≤ n := by have := horR_le2 (by rw [HX.out]; exact hl23) hhr; rw [HX.out] at this; exact this
          rw [hhr] at HMH HRK
          have HRT : Hid (RES = hd xs (stepD xs) (n - j) (some m') false ⟨seen ||| 8, tx, co, ci, st2, un2⟩) := HRK.out
          clear HRK hhr
          obtain ⟨k6a, s6a, e6a, np6a, ht6a, hl16a, hl26a, hl36a, hl46a, hc6a⟩ := tokC HM.out m' hm'
          have HT6a : Hid (tk xs m' = (k6a, s6a, e6a, np6a)) := ht6a
          have HC6a : Hid (∀ wr, Below w.heap.size w wr → Calls Tryd.prog 24 #[.slice (some ⟨b, o, none⟩) n cap, .int .i64 m'] wr fun x w' => x = .returned (.tuple #[.int .i64 k6a, .int .i64 s6a, .int .i64 e6a, .int .i64 np6a]) ∧ w' = wr) := hc6a
          clear ht6a hc6a
          go_wp2_with fail
          refine HMH.out.mono ?_
          rintro x0 w0 ⟨hb0, uv2, rfl, hu2⟩
          have HIb : Hid (MI w M0 w0 ⟨seen ||| 8, tx, co, ci, st, un⟩ uv) := HI.out.below hb0
          have HI5 : Hid (MI w M0 (((w0.setCell ⟨M0 + 1, 5, none⟩ (.int .u64 st2)).setCell ⟨M0 + 1, 6, none⟩ uv2).setCell ⟨M0 + 1, 7, none⟩ (.bool un2.isSome)) ⟨seen ||| 8, tx, co, ci, st2, un2⟩ uv2) := HIb.out.hor hM0w st2 un2 uv2 (hu2.mono HI.out.slt)
          obtain ⟨pa, ln, cp, rfl⟩ := hu2.form
          have cM5 := HIb.out.m1.c5
          have fM5 := HIb.out.m1.fz 5
          have cM6 := HIb.out.m1.c6
          have fM6 := HIb.out.m1.fz 6
          have cM7 := HIb.out.m1.c7
          have fM7 := HIb.out.m1.fz 7
          clear HI hb0 HMH HIb hu2
          go_wp2_with fail
          have HI := HI5
          generalize ((w0.setCell ⟨M0 + 1, 5, none⟩ (.int .u64 st2)).setCell ⟨M0 + 1, 6, none⟩ (.slice pa ln cp)).setCell ⟨M0 + 1, 7, none⟩ (.bool un2.isSome) = wr2 at HI ⊢
          generalize Value.slice pa ln cp = uv3 at HI ⊢
          clear HI5 cM5 fM5 cM6 fM6 cM7 fM7
          have hsn := HSN1.out
          clear HSN1
          generalize seen ||| 8 = seen' at HI HRT hsn
          refine (HC6a.out _ HI.out.bl).mono ?_
          rintro x0 w0 ⟨rfl, hw0⟩; obtain rfl := hw0.symm
          clear HC6a
          by_cases hk26a : k6a = 2
          · as_aux_lemma =>
            subst hk26a
            have HN : Hid (RES = some (np6a, ⟨seen', tx, co, ci, st2, un2⟩)) := HRT.out.trans ((hd_of_tk (stepD xs) (n - j) _ HT6a.out).1 rfl)
            clear HRT HT6a
            obtain ⟨pa, ln, cp, huv⟩ := HI.out.uv.form
            subst huv
            have yd0 := HI.out.m1.c0
            have ye0 := HI.out.m1.fz 0
            have yd1 := HI.out.m1.c1
            have ye1 := HI.out.m1.fz 1
            have HMH := Hid.mk' (((HI.out.m0.far (show M0 + 1 ≠ M0 by omega) 0 (.bool true)).far (show M0 + 1 ≠ M0 by omega) 1 (.int .i64 np6a)).row0)
            have HLH := Hid.mk' (((HI.out.m1.set0 (.bool true)).set1 (.int .i64 np6a)).row0)
            have HL8 := Hid.mk' (below_set (below_set HI.out.bl (show w.heap.size ≤ M0 + 1 by omega) 0 (.bool true)) (show w.heap.size ≤ M0 + 1 by omega) 1 (.int .i64 np6a))
            have HU8 := Hid.mk' ((HI.out.uv.far (show M0 + 1 < M0 + 3 by omega) 0 (.bool true)).far (show M0 + 1 < M0 + 3 by omega) 1 (.int .i64 np6a))
            go_wp2_with (first | (with_reducible refine wpList_load_row (by with_unfolding_all rfl) 28 _ (by with_unfolding_all rfl) (M0 + 1) (by with_unfolding_all rfl) 28 _ (0, 0) _ HLH.out Tryd.underlying28 (by with_unfolding_all rfl) (by kernel_rfl) ?_) | (with_reducible refine wpList_store_row (by with_unfolding_all rfl) 28 _ _ (by with_unfolding_all rfl) M0 _ (by with_unfolding_all rfl) (by with_unfolding_all rfl) 28 _ HMH.out (by kernel_rfl) (by with_unfolding_all rfl) (by with_unfolding_all rfl) ?_))
            have HB8 := Mb.row HMH.out (.bool true) (.int .i64 np6a) (.string tx) (.string co) (.string ci) (.int .u64 st2) (.slice pa ln cp) (.bool un2.isSome)
            (try simp only [Exit.inBlock, Exit.then])
            refine bodyPost_ret (results_cell_row (p := 2) (ty := 28) (by kernel_rfl) _ _ M0 28 _ (0, 0) _ (by rfl) HB8 Tryd.underlying28 rfl (by kernel_rfl)) rfl ?_
            rw [HN.out]
            exact ⟨below_row HL8.out hM0w _, _, rfl, (HU8.out.row (show M0 < M0 + 3 by omega) _).mono (by omega)⟩
          have g26a : ((k6a : Int) == 2) = false := beq_eq_false_iff_ne.2 (by omega)
          by_cases hk66a : k6a = 6
          · as_aux_lemma =>
            subst hk66a
            have HR2 : Hid (RES = objT xs (stepD xs) (n + 1 - (j + 1)) np6a ⟨seen', tx, co, ci, st2, un2⟩) := by show _ = _; rw [Nat.add_sub_add_right]; exact HRT.out.trans ((hd_of_tk (stepD xs) (n - j) _ HT6a.out).2.1 rfl)
            clear HRT HT6a g26a hk26a
            obtain ⟨k6b, s6b, e6b, np6b, ht6b, hl16b, hl26b, hl36b, hl46b, hc6b⟩ := tokC HM.out np6a hl26a
            have HT6b : Hid (tk xs np6a = (k6b, s6b, e6b, np6b)) := ht6b
            have HC6b : Hid (∀ wr, Below w.heap.size w wr → Calls Tryd.prog 24 #[.slice (some ⟨b, o, none⟩) n cap, .int .i64 np6a] wr fun x w' => x = .returned (.tuple #[.int .i64 k6b, .int .i64 s6b, .int .i64 e6b, .int .i64 np6b]) ∧ w' = wr) := hc6b
            clear ht6b hc6b
            go_wp2_with fail
            refine (HC6b.out _ HI.out.bl).mono ?_
            rintro x0 w0 ⟨rfl, hw0⟩; obtain rfl := hw0.symm
            clear HC6b
            go_wp2_with fail
            go_round
            case rel => exact ⟨j + 1, np6a, k6b, s6b, e6b, np6b, ⟨seen', tx, co, ci, st2, un2⟩, uv3, by omega, hl26a, hl26b, hl36b, hl46b, hsn, by go_num, rfl, rfl, rfl, rfl, HT6b, HI, HR2⟩
            case measure => simp [intOf]; omega
          · as_aux_lemma =>
            have g66a : ((k6a : Int) == 6) = false := beq_eq_false_iff_ne.2 (by omega)
            have g66a' : ((k6a : Int) != 6) = true := by simp; omega
            have HN : Hid (RES = none) := HRT.out.trans ((hd_of_tk (stepD xs) (n - j) _ HT6a.out).2.2 hk26a hk66a)
            clear HRT HT6a hk26a hk66a
            have HMH := Hid.mk' HI.out.m0.row0
            go_wp2_with (with_reducible refine wpList_store_row (by with_unfolding_all rfl) 28 _ _ (by with_unfolding_all rfl) M0 _ (by with_unfolding_all rfl) (by with_unfolding_all rfl) 28 _ HMH.out (by kernel_rfl) (by with_unfolding_all rfl) (by with_unfolding_all rfl) ?_)
            (try simp only [Exit.inBlock, Exit.then])
            refine bodyPost_ret (results_cell_row (p := 2) (ty := 28) (by kernel_rfl) _ _ M0 28 _ (0, 0) _ (by rfl) (HI.out.m0.row (.bool false) (.int .i64 0) (.string ⟨#[]⟩) (.string ⟨#[]⟩) (.string ⟨#[]⟩) (.int .u64 0) (.slice none 0 0) (.bool false)) Tryd.underlying28 rfl (by kernel_rfl)) rfl ?_
            rw [HN.out]
            exact ⟨below_row HI.out.bl hM0w _, rfl⟩
    as_aux_lemma =>
      have hI : I = -1 := by rw [HKI.out, if_neg hK0, if_neg hK1, if_neg hK2, if_neg hK3]
      subst hI
      have HN : Hid (RES = none) := HR1.out.trans (objT_dup _ _ _ HT.out fun m => by
        rw [HK.out]
        unfold stepD
        rw [if_neg hK0, if_neg hK1, if_neg hK2, if_neg hK3])
      clear HR1 HKI hK0 hK1 hK2 hK3
      have HMH := Hid.mk' HI.out.m0.row0
      go_wp2_with (with_reducible refine wpList_store_row (by with_unfolding_all rfl) 28 _ _ (by with_unfolding_all rfl) M0 _ (by with_unfolding_all rfl) (by with_unfolding_all rfl) 28 _ HMH.out (by kernel_rfl) (by with_unfolding_all rfl) (by with_unfolding_all rfl) ?_)
      (try simp only [Exit.inBlock, Exit.then])
      refine bodyPost_ret (results_cell_row (p := 2) (ty := 28) (by kernel_rfl) _ _ M0 28 _ (0, 0) _ (by rfl) (HI.out.m0.row (.bool false) (.int .i64 0) (.string ⟨#[]⟩) (.string ⟨#[]⟩) (.string ⟨#[]⟩) (.int .u64 0) (.slice none 0 0) (.bool false)) Tryd.underlying28 rfl (by kernel_rfl)) rfl ?_
      rw [HN.out]
      exact ⟨below_row HI.out.bl hM0w _, rfl⟩
end Go.Proofs.Qxb6605662aDoor
