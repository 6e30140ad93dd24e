import Derived.Test.Qxb6606346aDoorA2
import Derived.Test.Qxb6606346aDoorP2
import Derived.Deep.DeepCutAuto
import Derived.Deep.CutBlock
set_option linter.unusedVariables false
set_option linter.unusedSimpArgs false
namespace Go.Proofs.Qxb6606346aDoor
open Go.RowKit
/-- a row of lines -/
def Lb (w : World) (g : Nat) (fs : List ByteArray) : Prop := w.heap[g]? = some (.cells (fs.map Value.string).toArray 9 (0, 0))
theorem Lb.c {w : World} {g : Nat} {l : List ByteArray} (h : Lb w g l) (k : Nat) (hk : k < l.length) : w.cell? ⟨g, k, none⟩ = some (.string (l.getD k ByteArray.empty)) := by
  have := cell_of_row w g k _ 9 (0, 0) h
  rw [this]
  simp [List.getD_eq_getElem?_getD, List.getElem?_eq_getElem hk]
structure Kp (Fg Bg : Nat) (w0 w : World) : Prop where
  os : w.os = w0.os
  tape : w.tape = w0.tape
  output : w.output = w0.output
  size : w.heap.size = w0.heap.size
  block : ∀ k, k ≠ Fg → k ≠ Bg → w.heap[k]? = w0.heap[k]?
theorem Kp.refl (Fg Bg : Nat) (w : World) : Kp Fg Bg w w := ⟨rfl, rfl, rfl, rfl, fun _ _ _ => rfl⟩
theorem Kp.setF {Fg Bg : Nat} {w0 w : World} (h : Kp Fg Bg w0 w) (k : Nat) (v : Value) : Kp Fg Bg w0 (w.setCell ⟨Fg, k, none⟩ v) := ⟨h.os, h.tape, h.output, by simpa using h.size, fun j h1 h2 => (heap_setCell_other w _ j _ (by simpa using h1)).trans (h.block j h1 h2)⟩
theorem Kp.setB {Fg Bg : Nat} {w0 w : World} (h : Kp Fg Bg w0 w) (k : Nat) (v : Value) : Kp Fg Bg w0 (w.setCell ⟨Bg, k, none⟩ v) := ⟨h.os, h.tape, h.output, by simpa using h.size, fun j h1 h2 => (heap_setCell_other w _ j _ (by simpa using h2)).trans (h.block j h1 h2)⟩
theorem Kp.drewN {Fg Bg : Nat} {w0 w : World} (h : Kp Fg Bg w0 w) (q : Nat) : Kp Fg Bg w0 (w.drewN q) := ⟨h.os, h.tape, h.output, h.size, h.block⟩
theorem Kp.cell {Fg Bg : Nat} {w0 w : World} (h : Kp Fg Bg w0 w) {a : Addr} (h1 : a.block ≠ Fg) (h2 : a.block ≠ Bg) : w.cell? a = w0.cell? a := World.cell?_of_block (w := w0) (h.block a.block h1 h2)
/-- memory while middleSnake searches -/
structure Mm (w0 w : World) (Fg Bg D : Nat) (FL BL : List Int) : Prop where
  f : Ib w Fg FL
  b : Ib w Bg BL
  fl : FL.length = D
  bl : BL.length = D
  k : Kp Fg Bg w0 w
theorem Mm.drewN {w0 w : World} {Fg Bg D : Nat} {FL BL : List Int} (h : Mm w0 w Fg Bg D FL BL) (q : Nat) : Mm w0 (w.drewN q) Fg Bg D FL BL := ⟨h.f, h.b, h.fl, h.bl, h.k.drewN q⟩
theorem Mm.setF {w0 w : World} {Fg Bg D : Nat} {FL BL : List Int} (h : Mm w0 w Fg Bg D FL BL) (hne : Fg ≠ Bg) (i : Nat) (x : Int) : Mm w0 (w.setCell ⟨Fg, i, none⟩ (.int .i64 x)) Fg Bg D (FL.set i x) BL :=
  ⟨h.f.set i x, (heap_setCell_other w _ Bg _ (by simpa using Ne.symm hne)).trans h.b, by rw [List.length_set]; exact h.fl, h.bl, h.k.setF i _⟩
theorem Mm.setB {w0 w : World} {Fg Bg D : Nat} {FL BL : List Int} (h : Mm w0 w Fg Bg D FL BL) (hne : Fg ≠ Bg) (i : Nat) (x : Int) : Mm w0 (w.setCell ⟨Bg, i, none⟩ (.int .i64 x)) Fg Bg D FL (BL.set i x) :=
  ⟨(heap_setCell_other w _ Fg _ (by simpa using hne)).trans h.f, h.b.set i x, h.fl, by rw [List.length_set]; exact h.bl, h.k.setB i _⟩
/-- what middleSnake answers -/
structure MS (fs ts : List ByteArray) (fl fh tl th x y u v : Nat) : Prop where
  x0 : fl ≤ x
  xu : x ≤ u
  u1 : u ≤ fh
  y0 : tl ≤ y
  yv : y ≤ v
  v1 : v ≤ th
  dg : u - x = v - y
  eq : ∀ i, i < u - x → fs.getD (x + i) ByteArray.empty = ts.getD (y + i) ByteArray.empty
  p1 : ¬ (x = fh ∧ y = th)
  p2 : ¬ (u = fl ∧ v = tl)
def MsOut (fs ts : List ByteArray) (fl fh tl th Fg Bg D : Nat) (w : World) (e : Ending) (w' : World) : Prop :=
  ∃ (x y u v : Nat) (FL BL : List Int), e = .returned (.tuple #[.int .i64 x, .int .i64 y, .int .i64 u, .int .i64 v]) ∧ MS fs ts fl fh tl th x y u v ∧ Mm w w' Fg Bg D FL BL
theorem results_tmp4 {fn : Func} {t u v x : Tmp} (h : fn.results = #[.tmp t, .tmp u, .tmp v, .tmp x]) (tmps : Array Value) (P : Program) (w : World) :
    (results fn tmps).run P w = .ok (.tuple #[tmps.getD t undef, tmps.getD u undef, tmps.getD v undef, tmps.getD x undef]) w := by
  simp [results, h]

theorem str_ne2 {K L : ByteArray} (h : ¬ K = L) : (K.toList == L.toList) = false := by
  rw [ByteArray.toList_eq, ByteArray.toList_eq, beq_eq_false_iff_ne]
  intro q
  apply h
  cases K; cases L
  simp only [ByteArray.mk.injEq]
  exact Array.toList_inj.1 q
theorem ms_fwd {fs ts : List ByteArray} {fl fh tl th n m Fg Bg D : Nat} {st k fx : Int} {w w' : World} {e : Ending} {FL BL : List Int} (hn : fh = fl + n) (hm : th = tl + m) (h0 : 0 ≤ st) (h1 : k ≤ st) (h2 : st ≤ fx) (h3 : fx ≤ n ∧ fx - k ≤ m ∧ ¬ (st = n ∧ st - k = m) ∧ 1 ≤ 2 * fx - k)
    (hq : ∀ i : Int, st ≤ i → i < fx → fs.getD ((fl : Int) + i).toNat ByteArray.empty = ts.getD ((tl : Int) + (i - k)).toNat ByteArray.empty) (hM : Mm w w' Fg Bg D FL BL)
    (he : e = .returned (.tuple #[.int .i64 (fl + st), .int .i64 (tl + (st - k)), .int .i64 (fl + fx), .int .i64 (tl + (fx - k))])) : MsOut fs ts fl fh tl th Fg Bg D w e w' := by
  refine ⟨fl + st.toNat, tl + (st - k).toNat, fl + fx.toNat, tl + (fx - k).toNat, FL, BL, ?_, ⟨by omega, by omega, by omega, by omega, by omega, by omega, by omega, fun i hi => ?_, by omega, by omega⟩, hM⟩
  · rw [he]
    have a1 : ((fl + st.toNat : Nat) : Int) = fl + st := by omega
    have a2 : ((tl + (st - k).toNat : Nat) : Int) = tl + (st - k) := by omega
    have a3 : ((fl + fx.toNat : Nat) : Int) = fl + fx := by omega
    have a4 : ((tl + (fx - k).toNat : Nat) : Int) = tl + (fx - k) := by omega
    rw [a1, a2, a3, a4]
  · have := hq (st + i) (by omega) (by omega)
    have a1 : ((fl : Int) + (st + i)).toNat = fl + st.toNat + i := by omega
    have a2 : ((tl : Int) + (st + i - k)).toNat = tl + (st - k).toNat + i := by omega
    rw [a1, a2] at this
    exact this
theorem ms_bwd {fs ts : List ByteArray} {fl fh tl th n m Fg Bg D : Nat} {st k fx : Int} {w w' : World} {e : Ending} {FL BL : List Int} (hn : fh = fl + n) (hm : th = tl + m) (h0 : 0 ≤ st) (h1 : k ≤ st) (h2 : st ≤ fx) (h3 : fx ≤ n ∧ fx - k ≤ m ∧ ¬ (st = n ∧ st - k = m) ∧ 1 ≤ 2 * fx - k)
    (hq : ∀ i : Int, st ≤ i → i < fx → fs.getD ((fh : Int) - 1 - i).toNat ByteArray.empty = ts.getD ((th : Int) - 1 - (i - k)).toNat ByteArray.empty) (hM : Mm w w' Fg Bg D FL BL)
    (he : e = .returned (.tuple #[.int .i64 (fh - fx), .int .i64 (th - (fx - k)), .int .i64 (fh - st), .int .i64 (th - (st - k))])) : MsOut fs ts fl fh tl th Fg Bg D w e w' := by
  refine ⟨((fh : Int) - fx).toNat, ((th : Int) - (fx - k)).toNat, ((fh : Int) - st).toNat, ((th : Int) - (st - k)).toNat, FL, BL, ?_, ⟨by omega, by omega, by omega, by omega, by omega, by omega, by omega, fun i hi => ?_, by omega, by omega⟩, hM⟩
  · rw [he]
    have a1 : ((((fh : Int) - fx).toNat : Nat) : Int) = fh - fx := by omega
    have a2 : ((((th : Int) - (fx - k)).toNat : Nat) : Int) = th - (fx - k) := by omega
    have a3 : ((((fh : Int) - st).toNat : Nat) : Int) = fh - st := by omega
    have a4 : ((((th : Int) - (st - k)).toNat : Nat) : Int) = th - (st - k) := by omega
    rw [a1, a2, a3, a4]
  · have := hq (fx - 1 - i) (by omega) (by omega)
    have a1 : ((fh : Int) - 1 - (fx - 1 - i)).toNat = ((fh : Int) - fx).toNat + i := by omega
    have a2 : ((th : Int) - 1 - (fx - 1 - i - k)).toNat = ((th : Int) - (fx - k)).toNat + i := by omega
    rw [a1, a2] at this
    exact this
theorem ms_far {fs ts : List ByteArray} {fl fh tl th n m Fg Bg D : Nat} {k fx : Int} {w w' : World} {e : Ending} {FL BL : List Int} (hn : fh = fl + n) (hm : th = tl + m) (h3 : 0 ≤ fx ∧ k ≤ fx ∧ fx ≤ n ∧ fx - k ≤ m ∧ ¬ (fx = n ∧ fx - k = m) ∧ 1 ≤ 2 * fx - k)
    (hM : Mm w w' Fg Bg D FL BL)
    (he : e = .returned (.tuple #[.int .i64 (fl + fx), .int .i64 (tl + (fx - k)), .int .i64 (fl + fx), .int .i64 (tl + (fx - k))])) : MsOut fs ts fl fh tl th Fg Bg D w e w' :=
  ms_fwd (st := fx) (fx := fx) hn hm h3.1 h3.2.1 (by omega) h3.2.2 (fun i h1 h2 => by omega) hM he

set_option maxHeartbeats 8000000 in
set_option maxRecDepth 100000 in
theorem snake_any (S Fg Bg : Nat) (bf bt : Nat) (ov : Value) (fs ts : List ByteArray) (FL BL : List Int) (D fl fh tl th n m M : Nat) (o : Bool) (e : Int) (w : World)
    (hS : Sb w S (.slice (some ⟨bf, 0, none⟩) fs.length fs.length) (.slice (some ⟨bt, 0, none⟩) ts.length ts.length) ov (.slice (some ⟨Fg, 0, none⟩) D D) (.slice (some ⟨Bg, 0, none⟩) D D))
    (hf : Lb w bf fs) (ht : Lb w bt ts) (hF : Ib w Fg FL) (hB : Ib w Bg BL) (hFl : FL.length = D) (hBl : BL.length = D)
    (hne : S ≠ Fg ∧ S ≠ Bg ∧ Fg ≠ Bg ∧ bf ≠ Fg ∧ bf ≠ Bg ∧ bt ≠ Fg ∧ bt ≠ Bg)
    (hn : fh = fl + n) (hm : th = tl + m) (hn1 : 1 ≤ n) (hm1 : 1 ≤ m) (hfh : fh ≤ fs.length) (hth : th ≤ ts.length) (hM : M = (n + m + 1) / 2) (hD : 2 * M + 3 ≤ D) (hfs : fs.length ≤ 65536) (hts : ts.length ≤ 65536) (hD2 : D ≤ 1000000)
    (hoe : (o = true ∧ e = 1) ∨ (o = false ∧ e = 0)) (hpar : ((n : Int) - m + e) % 2 = 0)
    (h1 : fs.getD fl ByteArray.empty ≠ ts.getD tl ByteArray.empty) (h2 : fs.getD (fh - 1) ByteArray.empty ≠ ts.getD (th - 1) ByteArray.empty) :
    Calls Tryd.prog 19 #[.pointer (some ⟨S, 0, none⟩), .int .i64 fl, .int .i64 fh, .int .i64 tl, .int .i64 th] w fun e w' => MsOut fs ts fl fh tl th Fg Bg D w e w' := by
  have hnE : (fh : Int) - fl = n := by omega
  have hmE : (th : Int) - tl = m := by omega
  have hME : ((n : Int) + m + 1) / 2 = M := by omega
  have hMT : ((n : Int) + m + 1).tdiv 2 = M := by rw [Int.tdiv_eq_ediv_of_nonneg (by omega)]; exact hME
  have c0 := hS.c0
  have c1 := hS.c1
  have c3 := hS.c3
  have c4 := hS.c4
  have hto : (((n : Int) - m).tmod 2 != 0) = o := by
    rcases hoe with ⟨rfl, rfl⟩ | ⟨rfl, rfl⟩
    · simp only [bne_iff_ne, ne_eq]; intro q; have := Int.dvd_of_tmod_eq_zero q; omega
    · simp only [bne_eq_false_iff_eq]; exact Int.tmod_eq_zero_of_dvd (by omega)
  have HH : Hid (fh = fl + n ∧ th = tl + m ∧ M = (n + m + 1) / 2) := ⟨hn, hm, hM⟩
  have HOE : Hid ((o = true ∧ e = 1) ∨ (o = false ∧ e = 0)) := hoe
  have HP : Hid (((n : Int) - m + e) % 2 = 0) := hpar
  have HL : Hid (Lb w bf fs ∧ Lb w bt ts) := ⟨hf, ht⟩
  have H1 : Hid (fs.getD fl ByteArray.empty ≠ ts.getD tl ByteArray.empty) := h1
  have H2 : Hid (fs.getD (fh - 1) ByteArray.empty ≠ ts.getD (th - 1) ByteArray.empty) := h2
  obtain ⟨hSF, hSB, hFB, hfF, hfB, htF, htB⟩ := hne
  have hBF : Bg ≠ Fg := Ne.symm hFB
  have hMn : M ≤ 65536 := by omega
  have hnn : n ≤ 65536 := by omega
  have hmm : m ≤ 65536 := by omega
  have HSB : Hid (Sb w S (.slice (some ⟨bf, 0, none⟩) fs.length fs.length) (.slice (some ⟨bt, 0, none⟩) ts.length ts.length) ov (.slice (some ⟨Fg, 0, none⟩) D D) (.slice (some ⟨Bg, 0, none⟩) D D)) := hS
  have HMM : Hid (Mm w w Fg Bg D FL BL) := ⟨hF, hB, hFl, hBl, Kp.refl _ _ _⟩
  obtain ⟨C, hC⟩ : ∃ C : Nat, (M : Int) + 1 = C := ⟨M + 1, by omega⟩
  obtain ⟨I, hI⟩ : ∃ I : Nat, (C : Int) + 1 = I := ⟨C + 1, by omega⟩
  have hID : I < D := by omega
  have cF := hF.c I (by rw [hFl]; exact hID)
  have cB := hB.c I (by rw [hBl]; exact hID)
  have fF := hF.fz I
  have fB := hB.fz I
  generalize FL.getD I 0 = z1 at cF
  generalize BL.getD I 0 = z2 at cB
  have HM1 : Hid (Mm w ((w.setCell ⟨Fg, I, none⟩ (.int .i64 0)).setCell ⟨Bg, I, none⟩ (.int .i64 0)) Fg Bg D (FL.set I 0) (BL.set I 0)) := (HMM.out.setF hFB I 0).setB hFB I 0
  have hCM : C = M + 1 := by omega
  have HOI : Hid (OI n m e (arr (FL.set I 0) C) (arr (BL.set I 0) C) 0) := by
    have e1 : I = ((C : Int) + 1).toNat := by omega
    refine ⟨⟨fun _ => ?_, fun h => by omega⟩, ⟨fun _ => ?_, fun h => by omega⟩⟩
    · rw [e1]; exact arr_same FL C 1 0 (by omega) (by omega)
    · rw [e1]; exact arr_same BL C 1 0 (by omega) (by omega)
  have HCM : Hid (C = M + 1) := hCM
  clear hn hm hM hoe hpar hf ht hF hB hFl hBl hS h1 h2 HMM hCM
  go_enter Tryd.func19, Tryd.ntmps19
  go_wp2
  go_quiet (fail)
  go_wp2
  clear cF cB fF fB
  go_loopg [22] (M + 1) (fun g a22 wr => ∃ (d : Nat) (FL BL : List Int), a22 = .int .i64 d ∧ d ≤ M ∧ g = M + 1 - d ∧ Hid (Mm w wr Fg Bg D FL BL) ∧ Hid (OI n m e (arr FL C) (arr BL C) d))
  case atStart => exact ⟨0, FL.set I 0, BL.set I 0, rfl, Nat.zero_le _, rfl, HM1.out.drewN _, HOI⟩
  case round =>
    obtain ⟨d, FL, BL, rfl, hdM, rfl, HMM, HOI⟩ := hrel
    have hdi : (d : Int) ≤ M := by omega
    go_wp2
    go_loopg [23] (2 * d + 2) (fun g a23 wx => ∃ (k : Int) (FL : List Int), a23 = .int .i64 k ∧ -(d : Int) ≤ k ∧ k ≤ d + 2 ∧ g = ((d : Int) + 2 - k).toNat ∧ Hid ((k - d) % 2 = 0) ∧ Hid (Mm w wx Fg Bg D FL BL) ∧ Hid (FIv n m e (arr FL C) (arr BL C) d k))
    case atStart => exact ⟨-(d : Int), FL, rfl, by omega, by omega, by omega, by show _ = _; omega, HMM, fi_start (by omega) (by omega) HOI.out⟩
    case round =>
      obtain ⟨k, FL, rfl, hk1, hk2, rfl, HPK, HMM, HFI⟩ := hrel
      by_cases hkd : k ≤ d
      · as_aux_lemma =>
          have HO : Hid (On d k) := ⟨hk1, hkd, HPK.out⟩
          obtain ⟨wF, rfl⟩ : ∃ x, x = wr := ⟨_, rfl⟩
          obtain ⟨A, HAA⟩ : ∃ A, Hid (arr FL C = A) := ⟨_, rfl⟩
          rw [HAA.out] at HFI
          have hCM := HCM.out
          obtain ⟨i0, hi0⟩ : ∃ i : Nat, (C : Int) + k = i := ⟨((C : Int) + k).toNat, by omega⟩
          obtain ⟨im, him⟩ : ∃ i : Nat, (i0 : Int) - 1 = i := ⟨i0 - 1, by omega⟩
          obtain ⟨ip, hip⟩ : ∃ i : Nat, (i0 : Int) + 1 = i := ⟨i0 + 1, by omega⟩
          have hi0D : i0 < D := by omega
          have himD : im < D := by omega
          have hipD : ip < D := by omega
          obtain ⟨xm, HXM⟩ : ∃ x, Hid (A (k - 1) = x) := ⟨_, rfl⟩
          obtain ⟨xp, HXP⟩ : ∃ x, Hid (A (k + 1) = x) := ⟨_, rfl⟩
          have cm := HMM.out.f.c im (by rw [HMM.out.fl]; exact himD)
          have cp := HMM.out.f.c ip (by rw [HMM.out.fl]; exact hipD)
          rw [← arr_nat (c := C) (k := k - 1) (by omega), HAA.out, HXM.out] at cm
          rw [← arr_nat (c := C) (k := k + 1) (by omega), HAA.out, HXP.out] at cp
          obtain ⟨st, HST⟩ : ∃ st, Hid (pick A d k = st) := ⟨_, rfl⟩
          obtain ⟨hst0, hst1, hst2, hst3, hstz⟩ := HFI.out.o.a.pick_bd (by omega) (by omega) HO.out
          rw [HST.out] at hst0 hst1 hst2 hst3 hstz
          have HSTZ : Hid ((d : Int) = 0 → st = 0) := hstz
          clear hstz hCM
          obtain ⟨b, HBS⟩ : ∃ b : Bool, Hid ((b = true ∧ (k = -(d : Int) ∨ (k ≠ d ∧ xm < xp)) ∧ xp = st) ∨ (b = false ∧ k ≠ -(d : Int) ∧ (k = d ∨ xp ≤ xm) ∧ xm + 1 = st)) := by
            have hp := HST.out
            unfold pick at hp
            rw [HXM.out, HXP.out] at hp
            by_cases q : k = -(d : Int) ∨ (k ≠ d ∧ xm < xp)
            · rw [if_pos q] at hp
              exact ⟨true, .inl ⟨rfl, q, hp⟩⟩
            · rw [if_neg q] at hp
              exact ⟨false, .inr ⟨rfl, by omega, by omega, hp⟩⟩
          go_upto_region 15 with fail
          go_cut [109] (fun s109 wy => s109 = .bool b ∧ Hid (∃ q, wy = wF.drewN q))
          case first =>
            rcases HBS.out with ⟨rfl, hc, -⟩ | ⟨rfl, hc1, hc2, -⟩
            · by_cases hc0 : k = -(d : Int)
              · have t1 : (k == -(d : Int)) = true := beq_iff_eq.2 hc0
                clear hc hc0
                as_aux_lemma =>
                  go_quiet (fail)
                  go_wp2
                  go_meet
                  exact ⟨rfl, _, rfl⟩
              · have t1 : (k == -(d : Int)) = false := beq_eq_false_iff_ne.2 hc0
                have t2 : (k != (d : Int)) = true := by simp only [bne_iff_ne]; omega
                have t3 : decide (xm < xp) = true := decide_eq_true (by omega)
                clear hc hc0
                as_aux_lemma =>
                  go_quiet (fail)
                  go_wp2
                  go_meet
                  exact ⟨rfl, _, rfl⟩
            · have t1 : (k == -(d : Int)) = false := beq_eq_false_iff_ne.2 hc1
              by_cases hc0 : k = d
              · have t2 : (k != (d : Int)) = false := by simp only [bne_eq_false_iff_eq]; exact hc0
                clear hc1 hc2 hc0
                as_aux_lemma =>
                  go_quiet (fail)
                  go_wp2
                  go_meet
                  exact ⟨rfl, _, rfl⟩
              · have t2 : (k != (d : Int)) = true := by simp only [bne_iff_ne]; omega
                have t3 : decide (xm < xp) = false := decide_eq_false (by omega)
                clear hc1 hc2 hc0
                as_aux_lemma =>
                  go_quiet (fail)
                  go_wp2
                  go_meet
                  exact ⟨rfl, _, rfl⟩
          case rest =>
            as_aux_lemma =>
              obtain ⟨rfl, HQ⟩ := hcut
              obtain ⟨wG, rfl⟩ : ∃ x, x = wc := ⟨_, rfl⟩
              have cmc : wG.cell? ⟨Fg, im, none⟩ = some (.int .i64 xm) := by obtain ⟨q1, hq1⟩ := HQ.out; rw [hq1]; exact cm
              have cpc : wG.cell? ⟨Fg, ip, none⟩ = some (.int .i64 xp) := by obtain ⟨q1, hq1⟩ := HQ.out; rw [hq1]; exact cp
              have HMC : Hid (Mm w wG Fg Bg D FL BL) := by obtain ⟨q1, hq1⟩ := HQ.out; rw [hq1]; exact HMM.out.drewN _
              clear HQ cm cp HMM
              go_upto_if 109 with fail
              go_cut [24] (fun s24 wy => s24 = .int .i64 st ∧ wy = wG)
              case first =>
                rcases HBS.out with ⟨rfl, -, hc⟩ | ⟨rfl, -, -, hc⟩
                · as_aux_lemma =>
                    go_wp2
                    go_meet
                    exact ⟨rfl, rfl⟩
                · as_aux_lemma =>
                    go_wp2
                    go_meet
                    exact ⟨rfl, rfl⟩
              case rest =>
                as_aux_lemma =>
                  obtain ⟨rfl, hw⟩ := hcut
                  obtain rfl := hw
                  clear cmc cpc HBS
                  go_wp2
                  go_loopg [24, 25] (((n : Int) - st).toNat) (fun g s24 s25 wy => ∃ fx : Int, s24 = .int .i64 fx ∧ s25 = .int .i64 (fx - k) ∧ st ≤ fx ∧ fx ≤ n + d ∧ g = ((n : Int) - fx).toNat ∧ Hid (fx = st ∨ (fx ≤ n ∧ fx - k ≤ m)) ∧ Hid (∀ i : Int, st ≤ i → i < fx → fs.getD ((fl : Int) + i).toNat ByteArray.empty = ts.getD ((tl : Int) + (i - k)).toNat ByteArray.empty) ∧ Hid (Mm w wy Fg Bg D FL BL))
                  case atStart => exact ⟨st, rfl, rfl, by omega, by omega, rfl, .inl rfl, fun i h1 h2 => by omega, HMC⟩
                  case round =>
                    obtain ⟨fx, rfl, rfl, hfx1, hfx2, rfl, HFX, HEQ, HMY⟩ := hrel
                    clear HMC
                    have c0y : wr.cell? ⟨S, 0, none⟩ = some (.slice (some ⟨bf, 0, none⟩) fs.length fs.length) := (HMY.out.k.cell hSF hSB).trans c0
                    have c1y : wr.cell? ⟨S, 1, none⟩ = some (.slice (some ⟨bt, 0, none⟩) ts.length ts.length) := (HMY.out.k.cell hSF hSB).trans c1
                    have HLY : Hid (Lb wr bf fs ∧ Lb wr bt ts) := ⟨(HMY.out.k.block bf hfF hfB).trans HL.out.1, (HMY.out.k.block bt htF htB).trans HL.out.2⟩
                    obtain ⟨wH, rfl⟩ : ∃ x, x = wr := ⟨_, rfl⟩
                    obtain ⟨b2, HB2⟩ : ∃ b2 : Bool, Hid ((b2 = true ∧ fx < n ∧ fx - k < m ∧ fs.getD ((fl : Int) + fx).toNat ByteArray.empty = ts.getD ((tl : Int) + (fx - k)).toNat ByteArray.empty) ∨ (b2 = false ∧ ¬ (fx < n ∧ fx - k < m ∧ fs.getD ((fl : Int) + fx).toNat ByteArray.empty = ts.getD ((tl : Int) + (fx - k)).toNat ByteArray.empty))) := by
                      by_cases q : fx < n ∧ fx - k < m ∧ fs.getD ((fl : Int) + fx).toNat ByteArray.empty = ts.getD ((tl : Int) + (fx - k)).toNat ByteArray.empty
                      · exact ⟨true, .inl ⟨rfl, q⟩⟩
                      · exact ⟨false, .inr ⟨rfl, q⟩⟩
                    go_upto_region 20 with fail
                    go_cut [158] (fun s158 wz => s158 = .bool b2 ∧ Hid (∃ q, wz = wH.drewN q))
                    case first =>
                      by_cases t1 : fx < n
                      · have d1 : decide (fx < (n : Int)) = true := decide_eq_true t1
                        by_cases t2 : fx - k < m
                        · have d2 : decide (fx - k < (m : Int)) = true := decide_eq_true t2
                          obtain ⟨i1, hi1⟩ : ∃ i : Nat, (fl : Int) + fx = i := ⟨((fl : Int) + fx).toNat, by omega⟩
                          obtain ⟨j1, hj1⟩ : ∃ j : Nat, (tl : Int) + (fx - k) = j := ⟨((tl : Int) + (fx - k)).toNat, by omega⟩
                          have hi1D : i1 < fs.length := by have := HH.out; omega
                          have hj1D : j1 < ts.length := by have := HH.out; omega
                          have s1 := HLY.out.1.c i1 hi1D
                          have s2 := HLY.out.2.c j1 hj1D
                          have HEE : Hid (fs.getD ((fl : Int) + fx).toNat ByteArray.empty = ts.getD ((tl : Int) + (fx - k)).toNat ByteArray.empty ↔ fs.getD i1 ByteArray.empty = ts.getD j1 ByteArray.empty) := by show _ ↔ _; rw [hi1, hj1]; exact Iff.rfl
                          rcases HB2.out with ⟨rfl, -, -, q⟩ | ⟨rfl, q⟩
                          · have q2 := HEE.out.1 q
                            rw [← q2] at s2
                            generalize fs.getD i1 ByteArray.empty = x1 at s1 s2
                            have d3 : (x1.toList == x1.toList) = true := beq_self_eq_true _
                            clear q q2 HEE
                            as_aux_lemma =>
                              go_quiet (fail)
                              go_wp2
                              go_meet
                              exact ⟨rfl, _, rfl⟩
                          · have q2 : ¬ fs.getD i1 ByteArray.empty = ts.getD j1 ByteArray.empty := fun h => q ⟨t1, t2, HEE.out.2 h⟩
                            have d3 := str_ne2 q2
                            clear q q2 HEE
                            generalize fs.getD i1 ByteArray.empty = x1 at s1 d3
                            generalize ts.getD j1 ByteArray.empty = x2 at s2 d3
                            as_aux_lemma =>
                              go_quiet (fail)
                              go_wp2
                              go_meet
                              exact ⟨rfl, _, rfl⟩
                        · have d2 : decide (fx - k < (m : Int)) = false := decide_eq_false t2
                          rcases HB2.out with ⟨rfl, -, q, -⟩ | ⟨rfl, -⟩
                          · exact absurd q t2
                          · as_aux_lemma =>
                              go_quiet (fail)
                              go_wp2
                              go_meet
                              exact ⟨rfl, _, rfl⟩
                      · have d1 : decide (fx < (n : Int)) = false := decide_eq_false t1
                        rcases HB2.out with ⟨rfl, q, -⟩ | ⟨rfl, -⟩
                        · exact absurd q t1
                        · as_aux_lemma =>
                            go_quiet (fail)
                            go_wp2
                            go_meet
                            exact ⟨rfl, _, rfl⟩
                    case rest =>
                      obtain ⟨rfl, HQ⟩ := hcut
                      obtain ⟨wK, rfl⟩ : ∃ x, x = wc := ⟨_, rfl⟩
                      have HMK : Hid (Mm w wK Fg Bg D FL BL) := by obtain ⟨q1, hq1⟩ := HQ.out; rw [hq1]; exact HMY.out.drewN _
                      clear HQ HMY HLY c0y c1y
                      cases b2 with
                      | true =>
                        have HN : Hid (fx < n ∧ fx - k < m ∧ fs.getD ((fl : Int) + fx).toNat ByteArray.empty = ts.getD ((tl : Int) + (fx - k)).toNat ByteArray.empty) := by
                          rcases HB2.out with ⟨-, q⟩ | ⟨q, -⟩
                          · exact q
                          · cases q
                        clear HB2
                        have hfn : fx < n := HN.out.1
                        have hfm : fx - k < m := HN.out.2.1
                        go_wp2
                        go_roundg ((n : Int) - (fx + 1)).toNat
                        case measure => omega
                        case rel =>
                          refine ⟨fx + 1, by go_num, by go_num, by omega, by omega, rfl, .inr ⟨by omega, by omega⟩, fun i h1 h2 => ?_, HMK⟩
                          by_cases e1 : i = fx
                          · subst e1; exact HN.out.2.2
                          · exact HEQ.out i h1 (by omega)
                      | false =>
                        as_aux_lemma =>
                          have HNZ : Hid ((d : Int) = 0 → fx = 0) := fun h0 => by
                            have hs := HSTZ.out h0
                            rcases Int.lt_or_le st fx with q | q
                            · exfalso
                              have := HEQ.out st (by omega) q
                              have hk0 : k = 0 := by omega
                              rw [hs, hk0] at this
                              have hh := HH.out
                              exact H1.out (by simpa using this)
                            · omega
                          clear HB2
                          have c00 := HMK.out.f.c i0 (by rw [HMK.out.fl]; exact hi0D)
                          have f00 := HMK.out.f.fz i0
                          generalize FL.getD i0 0 = z0 at c00
                          have HMN : Hid (Mm w (wK.setCell ⟨Fg, i0, none⟩ (.int .i64 fx)) Fg Bg D (FL.set i0 fx) BL) := HMK.out.setF hFB i0 fx
                          have HSTEP : Hid ((e = 1 → -((d : Int) - 1) ≤ (n : Int) - m - k → (n : Int) - m - k ≤ (d : Int) - 1 → fx + arr BL C ((n : Int) - m - k) < n) → FIv n m e (arr (FL.set i0 fx) C) (arr BL C) d (k + 2)) := fun ht => by
                            have hl := HMK.out.fl
                            have hc := HCM.out
                            have ei : i0 = ((C : Int) + k).toNat := by omega
                            refine fi_step (A := A) (v := fx) (by omega) (by omega) (by omega) (by rcases HOE.out with q | q <;> omega) HP.out HFI.out HO.out (by rw [HST.out]; exact hfx1) (by rw [HST.out]; exact HFX.out) HNZ.out ?_ (fun j h1 h2 h3 => ?_) ht
                            · rw [ei]; exact arr_same FL C k fx (by omega) (by omega)
                            · rw [ei, arr_other FL C k j fx (by omega) (by omega) h3, HAA.out]
                          cases ho : o with
                          | false =>
                            subst ho
                            have HT : Hid (FIv n m e (arr (FL.set i0 fx) C) (arr BL C) d (k + 2)) := HSTEP.out (fun he => by rcases HOE.out with ⟨q, -⟩ | ⟨-, q⟩ <;> first | exact absurd q (by decide) | omega)
                            clear HSTEP
                            as_aux_lemma =>
                              go_wp2
                              go_roundg ((d : Int) + 2 - (k + 2)).toNat
                              case measure => omega
                              case rel => exact ⟨k + 2, FL.set i0 fx, by go_num, by omega, by omega, rfl, by have := HPK.out; show _ = _; omega, HMN, HT⟩
                          | true =>
                            subst ho
                            have HE1 : Hid (e = 1) := by rcases HOE.out with ⟨-, q⟩ | ⟨q, -⟩ <;> first | exact q | exact absurd q (by decide)
                            by_cases t1 : -((d : Int) - 1) ≤ (n : Int) - m - k
                            · by_cases t2 : (n : Int) - m - k ≤ (d : Int) - 1
                              · obtain ⟨ib, hib⟩ : ∃ i : Nat, (C : Int) + ((n : Int) - m - k) = i := ⟨((C : Int) + ((n : Int) - m - k)).toNat, by have := HCM.out; omega⟩
                                have hibD : ib < D := by have := HCM.out; omega
                                have cb := HMK.out.b.c ib (by rw [HMK.out.bl]; exact hibD)
                                obtain ⟨vb, HVB⟩ : ∃ vb, Hid (arr BL C ((n : Int) - m - k) = vb) := ⟨_, rfl⟩
                                rw [← arr_nat hib, HVB.out] at cb
                                have hvb : 0 ≤ vb ∧ vb ≤ n + d := by
                                  have hF := (HFI.out.o.b.2 (by omega)).1
                                  have ho2 : On ((d : Int) - 1) ((n : Int) - m - k) := ⟨by omega, by omega, by have := HPK.out; have := HP.out; rw [HE1.out] at this; omega⟩
                                  have h1 := hF.pos _ ho2
                                  have h2 := hF.up _ ho2
                                  rw [HVB.out] at h1 h2
                                  omega
                                obtain ⟨hvb0, hvb1⟩ := hvb
                                by_cases t3 : (n : Int) - vb ≤ fx
                                · have HR := fi_ret (v := fx) (by omega) (by omega) (by omega) HE1.out HP.out HFI.out.o HO.out (by rw [HST.out]; exact hfx1) (by rw [HST.out]; exact HFX.out) t1 t2
                                  rw [HST.out] at HR
                                  have HR' : Hid (fx ≤ n ∧ fx - k ≤ m ∧ ¬ (st = n ∧ st - k = m) ∧ 1 ≤ 2 * fx - k) := HR
                                  clear HR HSTEP
                                  as_aux_lemma =>
                                    go_wp2
                                    refine bodyPost_ret (results_tmp4 (t := 10) (u := 11) (v := 12) (x := 13) (by kernel_rfl) _ _ _) rfl ?_
                                    exact ms_fwd HH.out.1 HH.out.2.1 hst0 hst1 hfx1 HR'.out HEQ.out HMN.out rfl
                                · have HT : Hid (FIv n m e (arr (FL.set i0 fx) C) (arr BL C) d (k + 2)) := HSTEP.out (fun _ _ _ => by rw [HVB.out]; omega)
                                  clear HSTEP
                                  as_aux_lemma =>
                                    go_wp2
                                    go_roundg ((d : Int) + 2 - (k + 2)).toNat
                                    case measure => omega
                                    case rel => exact ⟨k + 2, FL.set i0 fx, by go_num, by omega, by omega, rfl, by have := HPK.out; show _ = _; omega, HMN, HT⟩
                              · have HT : Hid (FIv n m e (arr (FL.set i0 fx) C) (arr BL C) d (k + 2)) := HSTEP.out (fun _ _ q => absurd q t2)
                                clear HSTEP
                                as_aux_lemma =>
                                  go_wp2
                                  go_roundg ((d : Int) + 2 - (k + 2)).toNat
                                  case measure => omega
                                  case rel => exact ⟨k + 2, FL.set i0 fx, by go_num, by omega, by omega, rfl, by have := HPK.out; show _ = _; omega, HMN, HT⟩
                            · have HT : Hid (FIv n m e (arr (FL.set i0 fx) C) (arr BL C) d (k + 2)) := HSTEP.out (fun _ q _ => absurd q t1)
                              clear HSTEP
                              as_aux_lemma =>
                                go_wp2
                                go_roundg ((d : Int) + 2 - (k + 2)).toNat
                                case measure => omega
                                case rel => exact ⟨k + 2, FL.set i0 fx, by go_num, by omega, by omega, rfl, by have := HPK.out; show _ = _; omega, HMN, HT⟩
      · as_aux_lemma =>
          have HHF : Hid (Hf n m e (arr FL C) (arr BL C) d) := fi_end (by omega) (by omega) (by omega) HFI.out (by omega)
          clear HFI HOI
          go_wp2
          go_loopg [29] (2 * d + 2) (fun g a29 wx => ∃ (k : Int) (BL : List Int), a29 = .int .i64 k ∧ -(d : Int) ≤ k ∧ k ≤ d + 2 ∧ g = ((d : Int) + 2 - k).toNat ∧ Hid ((k - d) % 2 = 0) ∧ Hid (Mm w wx Fg Bg D FL BL) ∧ Hid (BIv n m e (arr FL C) (arr BL C) d k))
          case atStart => exact ⟨-(d : Int), BL, rfl, by omega, by omega, by omega, by show _ = _; omega, HMM, bi_start (by omega) (by omega) HHF.out⟩
          case round =>
            obtain ⟨k, BL, rfl, hk1, hk2, rfl, HPK, HMM, HBI⟩ := hrel
            clear HHF
            by_cases hkd : k ≤ d
            · as_aux_lemma =>
                have HO : Hid (On d k) := ⟨hk1, hkd, HPK.out⟩
                obtain ⟨wF, rfl⟩ : ∃ x, x = wr := ⟨_, rfl⟩
                obtain ⟨A, HAA⟩ : ∃ A, Hid (arr BL C = A) := ⟨_, rfl⟩
                rw [HAA.out] at HBI
                have hCM := HCM.out
                obtain ⟨i0, hi0⟩ : ∃ i : Nat, (C : Int) + k = i := ⟨((C : Int) + k).toNat, by omega⟩
                obtain ⟨im, him⟩ : ∃ i : Nat, (i0 : Int) - 1 = i := ⟨i0 - 1, by omega⟩
                obtain ⟨ip, hip⟩ : ∃ i : Nat, (i0 : Int) + 1 = i := ⟨i0 + 1, by omega⟩
                have hi0D : i0 < D := by omega
                have himD : im < D := by omega
                have hipD : ip < D := by omega
                obtain ⟨xm, HXM⟩ : ∃ x, Hid (A (k - 1) = x) := ⟨_, rfl⟩
                obtain ⟨xp, HXP⟩ : ∃ x, Hid (A (k + 1) = x) := ⟨_, rfl⟩
                have cm := HMM.out.b.c im (by rw [HMM.out.bl]; exact himD)
                have cp := HMM.out.b.c ip (by rw [HMM.out.bl]; exact hipD)
                rw [← arr_nat (c := C) (k := k - 1) (by omega), HAA.out, HXM.out] at cm
                rw [← arr_nat (c := C) (k := k + 1) (by omega), HAA.out, HXP.out] at cp
                obtain ⟨st, HST⟩ : ∃ st, Hid (pick A d k = st) := ⟨_, rfl⟩
                obtain ⟨hst0, hst1, hst2, hst3, hstz⟩ := HBI.out.h.b.pick_bd (by omega) (by omega) HO.out
                rw [HST.out] at hst0 hst1 hst2 hst3 hstz
                have HSTZ : Hid ((d : Int) = 0 → st = 0) := hstz
                clear hstz hCM
                obtain ⟨b, HBS⟩ : ∃ b : Bool, Hid ((b = true ∧ (k = -(d : Int) ∨ (k ≠ d ∧ xm < xp)) ∧ xp = st) ∨ (b = false ∧ k ≠ -(d : Int) ∧ (k = d ∨ xp ≤ xm) ∧ xm + 1 = st)) := by
                  have hp := HST.out
                  unfold pick at hp
                  rw [HXM.out, HXP.out] at hp
                  by_cases q : k = -(d : Int) ∨ (k ≠ d ∧ xm < xp)
                  · rw [if_pos q] at hp
                    exact ⟨true, .inl ⟨rfl, q, hp⟩⟩
                  · rw [if_neg q] at hp
                    exact ⟨false, .inr ⟨rfl, by omega, by omega, hp⟩⟩
                go_upto_region 30 with fail
                go_cut [242] (fun s109 wy => s109 = .bool b ∧ Hid (∃ q, wy = wF.drewN q))
                case first =>
                  rcases HBS.out with ⟨rfl, hc, -⟩ | ⟨rfl, hc1, hc2, -⟩
                  · by_cases hc0 : k = -(d : Int)
                    · have t1 : (k == -(d : Int)) = true := beq_iff_eq.2 hc0
                      clear hc hc0
                      as_aux_lemma =>
                        go_quiet (fail)
                        go_wp2
                        go_meet
                        exact ⟨rfl, _, rfl⟩
                    · have t1 : (k == -(d : Int)) = false := beq_eq_false_iff_ne.2 hc0
                      have t2 : (k != (d : Int)) = true := by simp only [bne_iff_ne]; omega
                      have t3 : decide (xm < xp) = true := decide_eq_true (by omega)
                      clear hc hc0
                      as_aux_lemma =>
                        go_quiet (fail)
                        go_wp2
                        go_meet
                        exact ⟨rfl, _, rfl⟩
                  · have t1 : (k == -(d : Int)) = false := beq_eq_false_iff_ne.2 hc1
                    by_cases hc0 : k = d
                    · have t2 : (k != (d : Int)) = false := by simp only [bne_eq_false_iff_eq]; exact hc0
                      clear hc1 hc2 hc0
                      as_aux_lemma =>
                        go_quiet (fail)
                        go_wp2
                        go_meet
                        exact ⟨rfl, _, rfl⟩
                    · have t2 : (k != (d : Int)) = true := by simp only [bne_iff_ne]; omega
                      have t3 : decide (xm < xp) = false := decide_eq_false (by omega)
                      clear hc1 hc2 hc0
                      as_aux_lemma =>
                        go_quiet (fail)
                        go_wp2
                        go_meet
                        exact ⟨rfl, _, rfl⟩
                case rest =>
                  as_aux_lemma =>
                    obtain ⟨rfl, HQ⟩ := hcut
                    obtain ⟨wG, rfl⟩ : ∃ x, x = wc := ⟨_, rfl⟩
                    have cmc : wG.cell? ⟨Bg, im, none⟩ = some (.int .i64 xm) := by obtain ⟨q1, hq1⟩ := HQ.out; rw [hq1]; exact cm
                    have cpc : wG.cell? ⟨Bg, ip, none⟩ = some (.int .i64 xp) := by obtain ⟨q1, hq1⟩ := HQ.out; rw [hq1]; exact cp
                    have HMC : Hid (Mm w wG Fg Bg D FL BL) := by obtain ⟨q1, hq1⟩ := HQ.out; rw [hq1]; exact HMM.out.drewN _
                    clear HQ cm cp HMM
                    go_upto_if 242 with fail
                    go_cut [30] (fun s24 wy => s24 = .int .i64 st ∧ wy = wG)
                    case first =>
                      rcases HBS.out with ⟨rfl, -, hc⟩ | ⟨rfl, -, -, hc⟩
                      · as_aux_lemma =>
                          go_wp2
                          go_meet
                          exact ⟨rfl, rfl⟩
                      · as_aux_lemma =>
                          go_wp2
                          go_meet
                          exact ⟨rfl, rfl⟩
                    case rest =>
                      as_aux_lemma =>
                        obtain ⟨rfl, hw⟩ := hcut
                        obtain rfl := hw
                        clear cmc cpc HBS
                        go_wp2
                        go_loopg [30, 31] (((n : Int) - st).toNat) (fun g s24 s25 wy => ∃ fx : Int, s24 = .int .i64 fx ∧ s25 = .int .i64 (fx - k) ∧ st ≤ fx ∧ fx ≤ n + d ∧ g = ((n : Int) - fx).toNat ∧ Hid (fx = st ∨ (fx ≤ n ∧ fx - k ≤ m)) ∧ Hid (∀ i : Int, st ≤ i → i < fx → fs.getD ((fh : Int) - 1 - i).toNat ByteArray.empty = ts.getD ((th : Int) - 1 - (i - k)).toNat ByteArray.empty) ∧ Hid (Mm w wy Fg Bg D FL BL))
                        case atStart => exact ⟨st, rfl, rfl, by omega, by omega, rfl, .inl rfl, fun i h1 h2 => by omega, HMC⟩
                        case round =>
                          obtain ⟨fx, rfl, rfl, hfx1, hfx2, rfl, HFX, HEQ, HMY⟩ := hrel
                          clear HMC
                          have c0y : wr.cell? ⟨S, 0, none⟩ = some (.slice (some ⟨bf, 0, none⟩) fs.length fs.length) := (HMY.out.k.cell hSF hSB).trans c0
                          have c1y : wr.cell? ⟨S, 1, none⟩ = some (.slice (some ⟨bt, 0, none⟩) ts.length ts.length) := (HMY.out.k.cell hSF hSB).trans c1
                          have HLY : Hid (Lb wr bf fs ∧ Lb wr bt ts) := ⟨(HMY.out.k.block bf hfF hfB).trans HL.out.1, (HMY.out.k.block bt htF htB).trans HL.out.2⟩
                          obtain ⟨wH, rfl⟩ : ∃ x, x = wr := ⟨_, rfl⟩
                          obtain ⟨b2, HB2⟩ : ∃ b2 : Bool, Hid ((b2 = true ∧ fx < n ∧ fx - k < m ∧ fs.getD ((fh : Int) - 1 - fx).toNat ByteArray.empty = ts.getD ((th : Int) - 1 - (fx - k)).toNat ByteArray.empty) ∨ (b2 = false ∧ ¬ (fx < n ∧ fx - k < m ∧ fs.getD ((fh : Int) - 1 - fx).toNat ByteArray.empty = ts.getD ((th : Int) - 1 - (fx - k)).toNat ByteArray.empty))) := by
                            by_cases q : fx < n ∧ fx - k < m ∧ fs.getD ((fh : Int) - 1 - fx).toNat ByteArray.empty = ts.getD ((th : Int) - 1 - (fx - k)).toNat ByteArray.empty
                            · exact ⟨true, .inl ⟨rfl, q⟩⟩
                            · exact ⟨false, .inr ⟨rfl, q⟩⟩
                          go_upto_region 35 with fail
                          go_cut [293] (fun s158 wz => s158 = .bool b2 ∧ Hid (∃ q, wz = wH.drewN q))
                          case first =>
                            by_cases t1 : fx < n
                            · have d1 : decide (fx < (n : Int)) = true := decide_eq_true t1
                              by_cases t2 : fx - k < m
                              · have d2 : decide (fx - k < (m : Int)) = true := decide_eq_true t2
                                obtain ⟨i1, hi1⟩ : ∃ i : Nat, (fh : Int) - 1 - fx = i := ⟨((fh : Int) - 1 - fx).toNat, by have := HH.out; omega⟩
                                obtain ⟨j1, hj1⟩ : ∃ j : Nat, (th : Int) - 1 - (fx - k) = j := ⟨((th : Int) - 1 - (fx - k)).toNat, by have := HH.out; omega⟩
                                have hi1D : i1 < fs.length := by have := HH.out; omega
                                have hj1D : j1 < ts.length := by have := HH.out; omega
                                have s1 := HLY.out.1.c i1 hi1D
                                have s2 := HLY.out.2.c j1 hj1D
                                have HEE : Hid (fs.getD ((fh : Int) - 1 - fx).toNat ByteArray.empty = ts.getD ((th : Int) - 1 - (fx - k)).toNat ByteArray.empty ↔ fs.getD i1 ByteArray.empty = ts.getD j1 ByteArray.empty) := by show _ ↔ _; rw [hi1, hj1]; exact Iff.rfl
                                rcases HB2.out with ⟨rfl, -, -, q⟩ | ⟨rfl, q⟩
                                · have q2 := HEE.out.1 q
                                  rw [← q2] at s2
                                  generalize fs.getD i1 ByteArray.empty = x1 at s1 s2
                                  have d3 : (x1.toList == x1.toList) = true := beq_self_eq_true _
                                  clear q q2 HEE
                                  as_aux_lemma =>
                                    go_quiet (fail)
                                    go_wp2
                                    go_meet
                                    exact ⟨rfl, _, rfl⟩
                                · have q2 : ¬ fs.getD i1 ByteArray.empty = ts.getD j1 ByteArray.empty := fun h => q ⟨t1, t2, HEE.out.2 h⟩
                                  have d3 := str_ne2 q2
                                  clear q q2 HEE
                                  generalize fs.getD i1 ByteArray.empty = x1 at s1 d3
                                  generalize ts.getD j1 ByteArray.empty = x2 at s2 d3
                                  as_aux_lemma =>
                                    go_quiet (fail)
                                    go_wp2
                                    go_meet
                                    exact ⟨rfl, _, rfl⟩
                              · have d2 : decide (fx - k < (m : Int)) = false := decide_eq_false t2
                                rcases HB2.out with ⟨rfl, -, q, -⟩ | ⟨rfl, -⟩
                                · exact absurd q t2
                                · as_aux_lemma =>
                                    go_quiet (fail)
                                    go_wp2
                                    go_meet
                                    exact ⟨rfl, _, rfl⟩
                            · have d1 : decide (fx < (n : Int)) = false := decide_eq_false t1
                              rcases HB2.out with ⟨rfl, q, -⟩ | ⟨rfl, -⟩
                              · exact absurd q t1
                              · as_aux_lemma =>
                                  go_quiet (fail)
                                  go_wp2
                                  go_meet
                                  exact ⟨rfl, _, rfl⟩
                          case rest =>
                            obtain ⟨rfl, HQ⟩ := hcut
                            obtain ⟨wK, rfl⟩ : ∃ x, x = wc := ⟨_, rfl⟩
                            have HMK : Hid (Mm w wK Fg Bg D FL BL) := by obtain ⟨q1, hq1⟩ := HQ.out; rw [hq1]; exact HMY.out.drewN _
                            clear HQ HMY HLY c0y c1y
                            cases b2 with
                            | true =>
                              have HN : Hid (fx < n ∧ fx - k < m ∧ fs.getD ((fh : Int) - 1 - fx).toNat ByteArray.empty = ts.getD ((th : Int) - 1 - (fx - k)).toNat ByteArray.empty) := by
                                rcases HB2.out with ⟨-, q⟩ | ⟨q, -⟩
                                · exact q
                                · cases q
                              clear HB2
                              have hfn : fx < n := HN.out.1
                              have hfm : fx - k < m := HN.out.2.1
                              go_wp2
                              go_roundg ((n : Int) - (fx + 1)).toNat
                              case measure => omega
                              case rel =>
                                refine ⟨fx + 1, by go_num, by go_num, by omega, by omega, rfl, .inr ⟨by omega, by omega⟩, fun i h1 h2 => ?_, HMK⟩
                                by_cases e1 : i = fx
                                · subst e1; exact HN.out.2.2
                                · exact HEQ.out i h1 (by omega)
                            | false =>
                              as_aux_lemma =>
                                have HNZ : Hid ((d : Int) = 0 → fx = 0) := fun h0 => by
                                  have hs := HSTZ.out h0
                                  rcases Int.lt_or_le st fx with q | q
                                  · exfalso
                                    have := HEQ.out st (by omega) q
                                    have hk0 : k = 0 := by omega
                                    rw [hs, hk0] at this
                                    have hh := HH.out
                                    have e1 : ((fh : Int) - 1 - 0).toNat = fh - 1 := by omega
                                    have e2 : ((th : Int) - 1 - (0 - 0)).toNat = th - 1 := by omega
                                    rw [e1, e2] at this
                                    exact H2.out this
                                  · omega
                                clear HB2
                                have c00 := HMK.out.b.c i0 (by rw [HMK.out.bl]; exact hi0D)
                                have f00 := HMK.out.b.fz i0
                                generalize BL.getD i0 0 = z0 at c00
                                have HMN : Hid (Mm w (wK.setCell ⟨Bg, i0, none⟩ (.int .i64 fx)) Fg Bg D FL (BL.set i0 fx)) := HMK.out.setB hFB i0 fx
                                have HSTEP : Hid ((e = 0 → -(d : Int) ≤ (n : Int) - m - k → (n : Int) - m - k ≤ (d : Int) → arr FL C ((n : Int) - m - k) + fx < n) → BIv n m e (arr FL C) (arr (BL.set i0 fx) C) d (k + 2)) := fun ht => by
                                  have hl := HMK.out.bl
                                  have hc := HCM.out
                                  have ei : i0 = ((C : Int) + k).toNat := by omega
                                  refine bi_step (B := A) (v := fx) (by omega) (by omega) (by omega) (by rcases HOE.out with q | q <;> omega) HP.out HBI.out HO.out (by rw [HST.out]; exact hfx1) (by rw [HST.out]; exact HFX.out) HNZ.out ?_ (fun j h1 h2 h3 => ?_) ht
                                  · rw [ei]; exact arr_same BL C k fx (by omega) (by omega)
                                  · rw [ei, arr_other BL C k j fx (by omega) (by omega) h3, HAA.out]
                                cases ho : o with
                                | true =>
                                  subst ho
                                  have HT : Hid (BIv n m e (arr FL C) (arr (BL.set i0 fx) C) d (k + 2)) := HSTEP.out (fun he => by rcases HOE.out with ⟨-, q⟩ | ⟨q, -⟩ <;> first | exact absurd q (by decide) | omega)
                                  clear HSTEP
                                  as_aux_lemma =>
                                    go_wp2
                                    go_roundg ((d : Int) + 2 - (k + 2)).toNat
                                    case measure => omega
                                    case rel => exact ⟨k + 2, BL.set i0 fx, by go_num, by omega, by omega, rfl, by have := HPK.out; show _ = _; omega, HMN, HT⟩
                                | false =>
                                  subst ho
                                  have HE1 : Hid (e = 0) := by rcases HOE.out with ⟨q, -⟩ | ⟨-, q⟩ <;> first | exact q | exact absurd q (by decide)
                                  by_cases t1 : -(d : Int) ≤ (n : Int) - m - k
                                  · by_cases t2 : (n : Int) - m - k ≤ (d : Int)
                                    · obtain ⟨ib, hib⟩ : ∃ i : Nat, (C : Int) + ((n : Int) - m - k) = i := ⟨((C : Int) + ((n : Int) - m - k)).toNat, by have := HCM.out; omega⟩
                                      have hibD : ib < D := by have := HCM.out; omega
                                      have cb := HMK.out.f.c ib (by rw [HMK.out.fl]; exact hibD)
                                      obtain ⟨vb, HVB⟩ : ∃ vb, Hid (arr FL C ((n : Int) - m - k) = vb) := ⟨_, rfl⟩
                                      rw [← arr_nat hib, HVB.out] at cb
                                      have hvb : 0 ≤ vb ∧ vb ≤ n + d := by
                                        have hF := HBI.out.h.f
                                        have ho2 : On (d : Int) ((n : Int) - m - k) := ⟨by omega, by omega, by have := HPK.out; have := HP.out; rw [HE1.out] at this; omega⟩
                                        have h1 := hF.pos _ ho2
                                        have h2 := hF.up _ ho2
                                        rw [HVB.out] at h1 h2
                                        omega
                                      obtain ⟨hvb0, hvb1⟩ := hvb
                                      by_cases t3 : (n : Int) - fx ≤ vb
                                      · have HR := bi_ret (v := fx) (by omega) (by omega) (by omega) HE1.out HP.out HBI.out.h HO.out (by rw [HST.out]; exact hfx1) (by rw [HST.out]; exact HFX.out) HNZ.out t1 t2 (by rw [HVB.out]; omega)
                                        rw [HST.out] at HR
                                        have HR' : Hid (fx ≤ n ∧ fx - k ≤ m ∧ ¬ (st = n ∧ st - k = m) ∧ 1 ≤ 2 * fx - k) := HR
                                        clear HR HSTEP
                                        as_aux_lemma =>
                                          go_wp2
                                          refine bodyPost_ret (results_tmp4 (t := 10) (u := 11) (v := 12) (x := 13) (by kernel_rfl) _ _ _) rfl ?_
                                          exact ms_bwd HH.out.1 HH.out.2.1 hst0 hst1 hfx1 HR'.out HEQ.out HMN.out rfl
                                      · have HT : Hid (BIv n m e (arr FL C) (arr (BL.set i0 fx) C) d (k + 2)) := HSTEP.out (fun _ _ _ => by rw [HVB.out]; omega)
                                        clear HSTEP
                                        as_aux_lemma =>
                                          go_wp2
                                          go_roundg ((d : Int) + 2 - (k + 2)).toNat
                                          case measure => omega
                                          case rel => exact ⟨k + 2, BL.set i0 fx, by go_num, by omega, by omega, rfl, by have := HPK.out; show _ = _; omega, HMN, HT⟩
                                    · have HT : Hid (BIv n m e (arr FL C) (arr (BL.set i0 fx) C) d (k + 2)) := HSTEP.out (fun _ _ q => absurd q t2)
                                      clear HSTEP
                                      as_aux_lemma =>
                                        go_wp2
                                        go_roundg ((d : Int) + 2 - (k + 2)).toNat
                                        case measure => omega
                                        case rel => exact ⟨k + 2, BL.set i0 fx, by go_num, by omega, by omega, rfl, by have := HPK.out; show _ = _; omega, HMN, HT⟩
                                  · have HT : Hid (BIv n m e (arr FL C) (arr (BL.set i0 fx) C) d (k + 2)) := HSTEP.out (fun _ q _ => absurd q t1)
                                    clear HSTEP
                                    as_aux_lemma =>
                                      go_wp2
                                      go_roundg ((d : Int) + 2 - (k + 2)).toNat
                                      case measure => omega
                                      case rel => exact ⟨k + 2, BL.set i0 fx, by go_num, by omega, by omega, rfl, by have := HPK.out; show _ = _; omega, HMN, HT⟩
            · as_aux_lemma =>
                have HND := bi_end (by omega) (by omega) (by omega) (by rcases HOE.out with q | q <;> omega) HP.out HBI.out (by omega)
                have hdM1 : d < M := by
                  have h1 := HND.2.1
                  have h2 := HH.out.2.2
                  rcases HOE.out with ⟨-, q⟩ | ⟨-, q⟩
                  · rw [q] at h1
                    have h3 := HP.out
                    rw [q] at h3
                    omega
                  · rw [q] at h1
                    have h3 := HP.out
                    rw [q] at h3
                    omega
                have HNX : Hid (OI n m e (arr FL C) (arr BL C) ((d : Int) + 1)) := HND.1
                have HNF : Hid (Front n m (arr FL C) d) := HND.2.2.1
                have HNI : Hid (Ins n m e (arr FL C) d) := HND.2.2.2
                clear HND
                by_cases h24 : d = 1024
                · as_aux_lemma =>
                  subst h24
                  have hS2 : Sb wr S (.slice (some ⟨bf, 0, none⟩) fs.length fs.length) (.slice (some ⟨bt, 0, none⟩) ts.length ts.length) ov (.slice (some ⟨Fg, 0, none⟩) D D) (.slice (some ⟨Bg, 0, none⟩) D D) := (HMM.out.k.block S hSF hSB).trans HSB.out
                  have HFA : Hid (Calls Tryd.prog 22 #[.pointer (some ⟨S, 0, none⟩), .int .i64 1024, .int .i64 C, .int .i64 n, .int .i64 m] wr fun e w' => (∃ k, On 1024 k ∧ arr FL C k ≤ n ∧ arr FL C k - k ≤ m ∧ e = .returned (.tuple #[.int .i64 (arr FL C k), .int .i64 (arr FL C k - k)])) ∧ w' = wr) := by
                    have hc := HCM.out
                    refine furthest_any S Fg _ _ _ _ D FL 1024 C n m wr hS2 HMM.out.f HMM.out.fl (by omega) (by omega) hD2 (by omega) (by omega) (fun k hk => ?_) ?_
                    · have q1 := HNF.out.pos k hk
                      have q2 := HNF.out.up k hk
                      omega
                    · exact far_some HNF.out (by omega) (by rcases HOE.out with q | q <;> omega) HP.out HNI.out
                  clear hS2
                  go_wp2_with fail
                  refine HFA.out.mono ?_
                  rintro e2 w2 ⟨⟨k2, hko, ha, hb, rfl⟩, hw⟩
                  obtain rfl := hw
                  have hpo := HNF.out.pos k2 hko
                  have HFR : Hid (0 ≤ arr FL C k2 ∧ k2 ≤ arr FL C k2 ∧ arr FL C k2 ≤ n ∧ arr FL C k2 - k2 ≤ m ∧ ¬ (arr FL C k2 = n ∧ arr FL C k2 - k2 = m) ∧ 1 ≤ 2 * arr FL C k2 - k2) := by
                    refine ⟨hpo.1, hpo.2.1, ha, hb, fun ⟨q1, q2⟩ => ?_, by omega⟩
                    have hk2 : k2 = (n : Int) - m := by omega
                    have h3 := HP.out
                    rcases HOE.out with ⟨-, q⟩ | ⟨-, q⟩
                    · rw [q] at h3
                      have := hko.2.2
                      omega
                    · have := HNI.out k2 hko (by omega) (by omega)
                      omega
                  obtain ⟨v2, HV2⟩ : ∃ v2, Hid (arr FL C k2 = v2) := ⟨_, rfl⟩
                  rw [HV2.out] at HFR
                  have hv0 := HFR.out.1
                  have hv1 := HFR.out.2.1
                  have hv2 := HFR.out.2.2.1
                  have hv3 := HFR.out.2.2.2.1
                  rw [HV2.out]
                  clear hpo ha hb hko
                  go_wp2_with fail
                  refine bodyPost_ret (results_tmp4 (t := 10) (u := 11) (v := 12) (x := 13) (by kernel_rfl) _ _ _) rfl ?_
                  exact ms_far HH.out.1 HH.out.2.1 HFR.out HMM.out rfl
                · have h24b : ((d : Int) == 1024) = false := beq_eq_false_iff_ne.2 (by omega)
                  as_aux_lemma =>
                   go_wp2
                   go_roundg (M + 1 - (d + 1))
                   case measure => omega
                   case rel => exact ⟨d + 1, FL, BL, by go_num, by omega, rfl, HMM, HNX⟩
end Go.Proofs.Qxb6606346aDoor
