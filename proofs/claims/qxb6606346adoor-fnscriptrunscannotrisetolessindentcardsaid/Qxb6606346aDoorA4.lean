import Derived.Test.Qxb6606346aDoorA3
import Derived.Test.Qxb6606346aDoorP3
set_option linter.unusedVariables false
set_option linter.unusedSimpArgs false
namespace Go.Proofs.Qxb6606346aDoor
open Go.RowKit
/-- a slice of lines below block B -/
def Lv (w : World) (B : Nat) (v : Value) (fs : List ByteArray) : Prop := (v = .slice none 0 0 ∧ fs = []) ∨ ∃ g, v = .slice (some ⟨g, 0, none⟩) fs.length fs.length ∧ g < B ∧ Lb w g fs
theorem Lv.below {w w' : World} {B : Nat} {v : Value} {fs : List ByteArray} (h : Lv w B v fs) (hb : Below B w w') : Lv w' B v fs := by
  rcases h with h | ⟨g, h1, h2, h3⟩
  · exact .inl h
  · exact .inr ⟨g, h1, h2, (hb.block g h2).trans h3⟩
theorem Lv.some {w : World} {B : Nat} {v : Value} {fs : List ByteArray} (h : Lv w B v fs) (h0 : 0 < fs.length) : ∃ g, v = .slice (some ⟨g, 0, none⟩) fs.length fs.length ∧ g < B ∧ Lb w g fs := by
  rcases h with ⟨_, h⟩ | h
  · rw [h] at h0; cases h0
  · exact h
theorem StG.drewN {w : World} {B S Fg Bg : Nat} {fv tv : Value} {D g cap : Nat} {L FL BL : List Int} (h : StG w B S Fg Bg fv tv D g cap L FL BL) (q : Nat) : StG (w.drewN q) B S Fg Bg fv tv D g cap L FL BL := h.congr rfl rfl rfl rfl
theorem Below.drewN {B : Nat} {w w' : World} (h : Below B w w') (q : Nat) : Below B w (w'.drewN q) := ⟨h.os, h.tape, h.output, h.size, h.block⟩
theorem StG.mm {w w' : World} {B S Fg Bg : Nat} {fv tv : Value} {D g cap : Nat} {L FL BL FL' BL' : List Int} (h : StG w B S Fg Bg fv tv D g cap L FL BL) (k : Mm w w' Fg Bg D FL' BL') : StG w' B S Fg Bg fv tv D g cap L FL' BL' ∧ Below B w w' := by
  have hs : w'.heap[S]? = w.heap[S]? := k.k.block S h.ne.2.2.2.1 h.ne.2.2.2.2.1
  have hg : w'.heap[g]? = w.heap[g]? := k.k.block g h.ne.2.1 h.ne.2.2.1
  refine ⟨⟨hs.trans h.s, ⟨h.o.1, .inr ?_⟩, k.f, k.b, k.fl, k.bl, h.ne, h.le⟩, ⟨k.k.os, k.k.tape, k.k.output, by rw [k.k.size]; exact Nat.le_refl _, fun j hj => k.k.block j (by have := h.le; omega) (by have := h.le; omega)⟩⟩
  obtain ⟨cur, k1, k2, k3⟩ := own_slice h.o
  exact ⟨g, cap, cur, rfl, k1, hg.trans k2, k3⟩
def CpOut (fs ts : List ByteArray) (B S Fg Bg : Nat) (fv tv : Value) (D fl fh tl th : Nat) (L : List Int) (w : World) (e : Ending) (w' : World) : Prop :=
  e = .returned (.tuple #[]) ∧ (∃ (g cap : Nat) (M FL BL : List Int), StG w' B S Fg Bg fv tv D g cap (L ++ M) FL BL ∧ Ed fs ts fl tl M fh th) ∧ Below B w w'
def CmpAt (fs ts : List ByteArray) (B S Fg Bg : Nat) (fv tv : Value) (D N : Nat) : Prop :=
  ∀ (fl fh tl th : Nat) (L FL BL : List Int) (g cap : Nat) (w : World), (fh - fl) + (th - tl) = N → fl ≤ fh → tl ≤ th → fh ≤ fs.length → th ≤ ts.length → L.length + N ≤ 1048576 → 2 * ((N + 1) / 2) + 3 ≤ D → B ≤ w.heap.size →
    StG w B S Fg Bg fv tv D g cap L FL BL → Lv w B fv fs → Lv w B tv ts →
    Calls Tryd.prog 16 #[.pointer (some ⟨S, 0, none⟩), .int .i64 fl, .int .i64 fh, .int .i64 tl, .int .i64 th] w fun e w' => CpOut fs ts B S Fg Bg fv tv D fl fh tl th L w e w'
def Pre (fs ts : List ByteArray) (fl tl p q : Nat) : Prop := fl ≤ p ∧ q = tl + (p - fl) ∧ ∀ t, t < p - fl → fs.getD (fl + t) ByteArray.empty = ts.getD (tl + t) ByteArray.empty
theorem Pre.next {fs ts : List ByteArray} {fl tl p q : Nat} (h : Pre fs ts fl tl p q) (he : fs.getD p ByteArray.empty = ts.getD q ByteArray.empty) : Pre fs ts fl tl (p + 1) (q + 1) := by
  obtain ⟨h1, h2, h3⟩ := h
  refine ⟨by omega, by omega, fun t ht => ?_⟩
  by_cases e : t = p - fl
  · subst e
    rw [show fl + (p - fl) = p by omega, ← h2]
    exact he
  · exact h3 t (by omega)
def Suf (fs ts : List ByteArray) (fh th s : Nat) : Prop := s ≤ fh ∧ s ≤ th ∧ ∀ t, t < s → fs.getD (fh - s + t) ByteArray.empty = ts.getD (th - s + t) ByteArray.empty
theorem Suf.next {fs ts : List ByteArray} {fh th s : Nat} (h : Suf fs ts fh th s) (h1 : s < fh) (h2 : s < th) (he : fs.getD (fh - 1 - s) ByteArray.empty = ts.getD (th - 1 - s) ByteArray.empty) : Suf fs ts fh th (s + 1) := by
  obtain ⟨_, _, h3⟩ := h
  refine ⟨by omega, by omega, fun t ht => ?_⟩
  cases t with
  | zero => rw [show fh - (s + 1) + 0 = fh - 1 - s by omega, show th - (s + 1) + 0 = th - 1 - s by omega]; exact he
  | succ t => have := h3 t (by omega); rw [show fh - (s + 1) + (t + 1) = fh - s + t by omega, show th - (s + 1) + (t + 1) = th - s + t by omega]; exact this
set_option maxHeartbeats 8000000 in
set_option maxRecDepth 100000 in
theorem compare_step (fs ts : List ByteArray) (B S Fg Bg : Nat) (fv tv : Value) (D N : Nat) (hfs : fs.length ≤ 65536) (hts : ts.length ≤ 65536) (hD2 : D ≤ 1000000) (ih : ∀ k, k < N → CmpAt fs ts B S Fg Bg fv tv D k) : CmpAt fs ts B S Fg Bg fv tv D N := by
  intro fl fh tl th L FL BL g cap w hN hf1 ht1 hf2 ht2 hL hD hB hS hfv htv
  obtain ⟨i32, hi, hz0, hz1, hz2⟩ := info_parts Tryd.info32
  have HIH : Hid (∀ k, k < N → CmpAt fs ts B S Fg Bg fv tv D k) := ih
  have HS : Hid (StG w B S Fg Bg fv tv D g cap L FL BL) := hS
  have HBB : Hid (B ≤ w.heap.size) := hB
  have HFV : Hid (Lv w B fv fs) := hfv
  have HTV : Hid (Lv w B tv ts) := htv
  have HN : Hid ((fh - fl) + (th - tl) = N) := hN
  have HD : Hid (2 * ((N + 1) / 2) + 3 ≤ D) := hD
  clear ih hS hB hfv htv hN hD
  go_enter Tryd.func16, Tryd.ntmps16
  go_wp2
  go_loopg [1, 3] (fh - fl) (fun g a1 a3 wr => ∃ (p q gg cap : Nat), a1 = .int .i64 p ∧ a3 = .int .i64 q ∧ p ≤ fh ∧ q ≤ th ∧ g = fh - p ∧ Hid (Pre fs ts fl tl p q) ∧ Hid (StG wr B S Fg Bg fv tv D gg cap (L ++ List.replicate (p - fl) 32) FL BL) ∧ Hid (Below B w wr))
  case atStart => exact ⟨fl, tl, g, cap, rfl, rfl, hf1, ht1, rfl, ⟨Nat.le_refl _, by omega, fun t ht => by omega⟩, by show StG _ _ _ _ _ _ _ _ _ _ _ _ _; simpa using HS.out, Below.refl _ _⟩
  case round =>
    clear HS
    obtain ⟨p, q, gg, cap, rfl, rfl, hp, hq, rfl, HPR, HST, HW⟩ := hrel
    obtain ⟨wF, rfl⟩ : ∃ x, x = wr := ⟨_, rfl⟩
    have c0 := HST.out.s.c0
    have c1 := HST.out.s.c1
    have HFW : Hid (Lv wF B fv fs) := HFV.out.below HW.out
    have HTW : Hid (Lv wF B tv ts) := HTV.out.below HW.out
    obtain ⟨b, HBS⟩ : ∃ b : Bool, Hid ((b = true ∧ p < fh ∧ q < th ∧ fs.getD p ByteArray.empty = ts.getD q ByteArray.empty) ∨ (b = false ∧ ¬ (p < fh ∧ q < th ∧ fs.getD p ByteArray.empty = ts.getD q ByteArray.empty))) := by
      by_cases h : p < fh ∧ q < th ∧ fs.getD p ByteArray.empty = ts.getD q ByteArray.empty
      · exact ⟨true, .inl ⟨rfl, h⟩⟩
      · exact ⟨false, .inr ⟨rfl, h⟩⟩
    go_upto_region 0 with fail
    go_cut [39] (fun s39 wy => s39 = .bool b ∧ Hid (∃ q, wy = wF.drewN q))
    case first =>
      by_cases t1 : p < fh
      · have d1 : decide ((p : Int) < (fh : Int)) = true := decide_eq_true (by omega)
        by_cases t2 : q < th
        · have d2 : decide ((q : Int) < (th : Int)) = true := decide_eq_true (by omega)
          obtain ⟨gf, hgf, -, HLF⟩ := HFW.out.some (by omega)
          obtain ⟨gt, hgt, -, HLT⟩ := HTW.out.some (by omega)
          have s1 := HLF.c p (by omega)
          have s2 := HLT.c q (by omega)
          rw [hgf] at c0
          rw [hgt] at c1
          have hpl : p < fs.length := by omega
          have hql : q < ts.length := by omega
          clear hgf hgt HLF HLT
          rcases HBS.out with ⟨rfl, -, -, h⟩ | ⟨rfl, h⟩
          · rw [← h] at s2
            generalize fs.getD p ByteArray.empty = x1 at s1 s2
            have d3 : (x1.toList == x1.toList) = true := beq_self_eq_true _
            clear h
            as_aux_lemma =>
              go_quiet (fail)
              go_wp2
              go_meet
              exact ⟨rfl, _, rfl⟩
          · have d3 := str_ne2 (fun e => h ⟨t1, t2, e⟩)
            generalize fs.getD p ByteArray.empty = x1 at s1 d3
            generalize ts.getD q ByteArray.empty = x2 at s2 d3
            clear h
            as_aux_lemma =>
              go_quiet (fail)
              go_wp2
              go_meet
              exact ⟨rfl, _, rfl⟩
        · have d2 : decide ((q : Int) < (th : Int)) = false := decide_eq_false (by omega)
          rcases HBS.out with ⟨rfl, -, h, -⟩ | ⟨rfl, -⟩
          · exact absurd h t2
          · as_aux_lemma =>
              go_quiet (fail)
              go_wp2
              go_meet
              exact ⟨rfl, _, rfl⟩
      · have d1 : decide ((p : Int) < (fh : Int)) = false := decide_eq_false (by omega)
        rcases HBS.out with ⟨rfl, h, -⟩ | ⟨rfl, -⟩
        · exact absurd h t1
        · as_aux_lemma =>
            go_quiet (fail)
            go_wp2
            go_meet
            exact ⟨rfl, _, rfl⟩
    case rest =>
      obtain ⟨rfl, HQ⟩ := hcut
      obtain ⟨wG, rfl⟩ : ∃ x, x = wc := ⟨_, rfl⟩
      have HSG : Hid (StG wG B S Fg Bg fv tv D gg cap (L ++ List.replicate (p - fl) 32) FL BL) := by obtain ⟨q1, hq1⟩ := HQ.out; rw [hq1]; exact HST.out.drewN _
      have HWG : Hid (Below B w wG) := by obtain ⟨q1, hq1⟩ := HQ.out; rw [hq1]; exact Below.drewN HW.out _
      clear HQ HST HW HFW HTW c0 c1
      cases b with
      | true =>
        have HNX : Hid (p < fh ∧ q < th ∧ fs.getD p ByteArray.empty = ts.getD q ByteArray.empty) := by
          rcases HBS.out with ⟨-, h⟩ | ⟨h, -⟩
          · exact h
          · cases h
        clear HBS
        have hpf := HNX.out.1
        have hqt := HNX.out.2.1
        obtain ⟨M, HM⟩ : ∃ M : List Int, Hid (L ++ List.replicate (p - fl) (32 : Int) = M) := ⟨_, rfl⟩
        have hlM : M.length < 1048576 := by rw [← HM.out]; have := HN.out; have := HPR.out.1; simp; omega
        rw [HM.out] at HSG
        have hc2 := HSG.out.s.c2
        have HZ : Hid (B ≤ wG.heap.size) := Nat.le_trans HBB.out HWG.out.size
        as_aux_lemma =>
          go_wp2_with (at_builtin; refine wpList_append_lies _ rfl _ _ _ rfl B 32 i32 _ 1 1 Tryd.underlying28 hi hz0 hz1 hz2 rfl (by omega) _ M.length (M.map (Value.int .u8)) (by rfl) (HSG.out.o.alloc _) ⟨wG.heap.size, 0, none⟩ 1 1 [.int .u8 32] (by rfl) (by rfl) (World.news_of_block (cs := #[.int .u8 32]) (t := 32) (fr := (0, 0)) (heap_alloc_new wG _)) (by simp [Value.oneCell']) (by omega) (by unfold maxLen; omega) (by omega) (by have := HZ.out; simp; omega) (wG.heap.size + 1) (by simp) ?_; intro g2 cap2 w2 ho hg hat hlt; have HA : Hid _ := HSG.out.app (op := 32) HZ.out ho hg hat; have hs2 := StG.sb_app HSG.out hg; have hc3 := hs2.c2; have hf3 := hs2.fz 2; clear hs2; clear ho hg hat hlt)
          go_roundg (fh - (p + 1))
          case measure => omega
          case rel =>
            refine ⟨p + 1, q + 1, g2, cap2, by go_num, by go_num, by omega, by omega, rfl, HPR.out.next HNX.out.2.2, ?_, by exact HWG.out.trans HA.out.2⟩
            have h := HA.out.1
            have hpl := HPR.out.1
            rw [← HM.out] at h ⊢
            rw [List.append_assoc, ← List.replicate_succ', show p - fl + 1 = p + 1 - fl by omega] at h
            exact h
      | false =>
        have HNX : Hid (¬ (p < fh ∧ q < th ∧ fs.getD p ByteArray.empty = ts.getD q ByteArray.empty)) := by
          rcases HBS.out with ⟨h, -⟩ | ⟨-, h⟩
          · cases h
          · exact h
        clear HBS
        go_wp2
        go_loopg [10] (fh - p) (fun g a10 wr => ∃ (s : Nat), a10 = .int .i64 s ∧ s ≤ fh - p ∧ s ≤ th - q ∧ g = fh - p - s ∧ Hid (Suf fs ts fh th s) ∧ Hid (∃ q, wr = wG.drewN q))
        case atStart => exact ⟨0, rfl, by omega, by omega, rfl, ⟨by omega, by omega, fun t ht => by omega⟩, 0, rfl⟩
        case round =>
          obtain ⟨s, rfl, hs1, hs2, rfl, HSU, HQ⟩ := hrel
          obtain ⟨wH, rfl⟩ : ∃ x, x = wr := ⟨_, rfl⟩
          have HSH : Hid (StG wH B S Fg Bg fv tv D gg cap (L ++ List.replicate (p - fl) 32) FL BL) := by obtain ⟨q1, hq1⟩ := HQ.out; rw [hq1]; exact HSG.out.drewN _
          have HWH : Hid (Below B w wH) := by obtain ⟨q1, hq1⟩ := HQ.out; rw [hq1]; exact Below.drewN HWG.out _
          have HQ0 := HQ
          clear HQ HSG HWG
          have c0 := HSH.out.s.c0
          have c1 := HSH.out.s.c1
          have HFW : Hid (Lv wH B fv fs) := HFV.out.below HWH.out
          have HTW : Hid (Lv wH B tv ts) := HTV.out.below HWH.out
          obtain ⟨b, HBS⟩ : ∃ b : Bool, Hid ((b = true ∧ p < fh - s ∧ q < th - s ∧ fs.getD (fh - 1 - s) ByteArray.empty = ts.getD (th - 1 - s) ByteArray.empty) ∨ (b = false ∧ ¬ (p < fh - s ∧ q < th - s ∧ fs.getD (fh - 1 - s) ByteArray.empty = ts.getD (th - 1 - s) ByteArray.empty))) := by
            by_cases h : p < fh - s ∧ q < th - s ∧ fs.getD (fh - 1 - s) ByteArray.empty = ts.getD (th - 1 - s) ByteArray.empty
            · exact ⟨true, .inl ⟨rfl, h⟩⟩
            · exact ⟨false, .inr ⟨rfl, h⟩⟩
          go_upto_region 4 with fail
          go_cut [87] (fun s87 wy => s87 = .bool b ∧ Hid (∃ q, wy = wH.drewN q))
          case first =>
            by_cases t1 : p < fh - s
            · have d1 : decide ((p : Int) < (fh : Int) - s) = true := decide_eq_true (by omega)
              by_cases t2 : q < th - s
              · have d2 : decide ((q : Int) < (th : Int) - s) = true := decide_eq_true (by omega)
                obtain ⟨gf, hgf, -, HLF⟩ := HFW.out.some (by omega)
                obtain ⟨gt, hgt, -, HLT⟩ := HTW.out.some (by omega)
                have s1 := HLF.c (fh - 1 - s) (by omega)
                have s2 := HLT.c (th - 1 - s) (by omega)
                rw [hgf] at c0
                rw [hgt] at c1
                have hpl : fh - 1 - s < fs.length := by omega
                have hql : th - 1 - s < ts.length := by omega
                clear hgf hgt HLF HLT
                rcases HBS.out with ⟨rfl, -, -, h⟩ | ⟨rfl, h⟩
                · rw [← h] at s2
                  generalize fs.getD (fh - 1 - s) ByteArray.empty = x1 at s1 s2
                  have d3 : (x1.toList == x1.toList) = true := beq_self_eq_true _
                  obtain ⟨i1, hi1⟩ : ∃ i1 : Nat, (fh : Int) - 1 - s = i1 := ⟨fh - 1 - s, by omega⟩
                  obtain ⟨j1, hj1⟩ : ∃ j1 : Nat, (th : Int) - 1 - s = j1 := ⟨th - 1 - s, by omega⟩
                  rw [show fh - 1 - s = i1 by omega] at s1 hpl
                  rw [show th - 1 - s = j1 by omega] at s2 hql
                  clear h
                  as_aux_lemma =>
                    go_quiet (fail)
                    go_wp2
                    go_meet
                    exact ⟨rfl, _, rfl⟩
                · have d3 := str_ne2 (fun e => h ⟨t1, t2, e⟩)
                  generalize fs.getD (fh - 1 - s) ByteArray.empty = x1 at s1 d3
                  generalize ts.getD (th - 1 - s) ByteArray.empty = x2 at s2 d3
                  obtain ⟨i1, hi1⟩ : ∃ i1 : Nat, (fh : Int) - 1 - s = i1 := ⟨fh - 1 - s, by omega⟩
                  obtain ⟨j1, hj1⟩ : ∃ j1 : Nat, (th : Int) - 1 - s = j1 := ⟨th - 1 - s, by omega⟩
                  rw [show fh - 1 - s = i1 by omega] at s1 hpl
                  rw [show th - 1 - s = j1 by omega] at s2 hql
                  clear h
                  as_aux_lemma =>
                    go_quiet (fail)
                    go_wp2
                    go_meet
                    exact ⟨rfl, _, rfl⟩
              · have d2 : decide ((q : Int) < (th : Int) - s) = false := decide_eq_false (by omega)
                rcases HBS.out with ⟨rfl, -, h, -⟩ | ⟨rfl, -⟩
                · exact absurd h t2
                · as_aux_lemma =>
                    go_quiet (fail)
                    go_wp2
                    go_meet
                    exact ⟨rfl, _, rfl⟩
            · have d1 : decide ((p : Int) < (fh : Int) - s) = false := decide_eq_false (by omega)
              rcases HBS.out with ⟨rfl, h, -⟩ | ⟨rfl, -⟩
              · exact absurd h t1
              · as_aux_lemma =>
                  go_quiet (fail)
                  go_wp2
                  go_meet
                  exact ⟨rfl, _, rfl⟩
          case rest =>
            obtain ⟨rfl, HQ⟩ := hcut
            obtain ⟨wK, rfl⟩ : ∃ x, x = wc := ⟨_, rfl⟩
            clear HFW HTW c0 c1
            cases b with
            | true =>
              have HNY : Hid (p < fh - s ∧ q < th - s ∧ fs.getD (fh - 1 - s) ByteArray.empty = ts.getD (th - 1 - s) ByteArray.empty) := by
                rcases HBS.out with ⟨-, h⟩ | ⟨h, -⟩
                · exact h
                · cases h
              clear HBS
              have hpf := HNY.out.1
              have hqt := HNY.out.2.1
              as_aux_lemma =>
                go_wp2
                go_roundg (fh - p - (s + 1))
                case measure => omega
                case rel => exact ⟨s + 1, by go_num, by omega, by omega, rfl, HSU.out.next (by omega) (by omega) HNY.out.2.2, by obtain ⟨q1, h1⟩ := HQ0.out; obtain ⟨q2, h2⟩ := HQ.out; exact ⟨q1 + q2, by rw [h2, h1, World.drewN_drewN]⟩⟩
            | false =>
              have HNY : Hid (¬ (p < fh - s ∧ q < th - s ∧ fs.getD (fh - 1 - s) ByteArray.empty = ts.getD (th - 1 - s) ByteArray.empty)) := by
                rcases HBS.out with ⟨h, -⟩ | ⟨-, h⟩
                · cases h
                · exact h
              clear HBS
              have HSK : Hid (StG wK B S Fg Bg fv tv D gg cap (L ++ List.replicate (p - fl) 32) FL BL) := by obtain ⟨q1, hq1⟩ := HQ.out; rw [hq1]; exact HSH.out.drewN _
              have HWK : Hid (Below B w wK) := by obtain ⟨q1, hq1⟩ := HQ.out; rw [hq1]; exact Below.drewN HWH.out _
              clear HQ HSH HWH HQ0
              have HPQ : Hid (fl ≤ p ∧ q = tl + (p - fl)) := ⟨HPR.out.1, HPR.out.2.1⟩
              have hfp := HPQ.out.1
              have htq : tl ≤ q := by have := HPQ.out.2; omega
              obtain ⟨fh', hfh'⟩ : ∃ x : Nat, (fh : Int) - s = x := ⟨fh - s, by omega⟩
              obtain ⟨th', hth'⟩ : ∃ x : Nat, (th : Int) - s = x := ⟨th - s, by omega⟩
              have hpf' : p ≤ fh' := by omega
              have hqt' : q ≤ th' := by omega
              obtain ⟨M0, HM0⟩ : ∃ M0 : List Int, Hid (L ++ List.replicate (p - fl) (32 : Int) = M0) := ⟨_, rfl⟩
              have hl0 : M0.length + (fh' - p) + (th' - q) + s ≤ 1048576 := by rw [← HM0.out]; have := HN.out; simp; omega
              rw [HM0.out] at HSK
              have HZK : Hid (B ≤ wK.heap.size) := Nat.le_trans HBB.out HWK.out.size
              have HEP : Hid (Ed fs ts fl tl (List.replicate (p - fl) 32) p q) := by
                have h := Ed.keeps (fs := fs) (ts := ts) (p - fl) fl tl (by omega) (by have := HPQ.out.2; omega) HPR.out.2.2
                rw [show fl + (p - fl) = p by omega, ← HPQ.out.2] at h
                exact h
              have HES : Hid (Ed fs ts fh' th' (List.replicate s 32) fh th) := by
                have h := Ed.keeps (fs := fs) (ts := ts) s fh' th' (by omega) (by omega) (fun t ht => by have := HSU.out.2.2 t ht; rw [show fh - s = fh' by omega, show th - s = th' by omega] at this; exact this)
                rw [show fh' + s = fh by omega, show th' + s = th by omega] at h
                exact h
              have HLAST : Hid (∀ (M1 FL1 BL1 : List Int) (g1 cap1 : Nat) (w1 : World), Ed fs ts p q M1 fh' th' → StG w1 B S Fg Bg fv tv D g1 cap1 (M0 ++ M1) FL1 BL1 → Below B w w1 → Calls Tryd.prog 18 #[.pointer (some ⟨S, 0, none⟩), .int .u8 32, .int .i64 s] w1 fun e w' => CpOut fs ts B S Fg Bg fv tv D fl fh tl th L w e w') := fun M1 FL1 BL1 g1 cap1 w1 hE hG hBl => by
                have hlE := hE.len
                refine (add_any B S Fg Bg fv tv D g1 cap1 (M0 ++ M1) FL1 BL1 32 s w1 (Nat.le_trans HBB.out hBl.size) (by rw [List.length_append]; omega) hG).mono ?_
                rintro e w2 ⟨he, ⟨g2, cap2, hG2⟩, hB2⟩
                refine ⟨he, ⟨g2, cap2, List.replicate (p - fl) 32 ++ M1 ++ List.replicate s 32, FL1, BL1, ?_, (HEP.out.append hE).append HES.out⟩, hBl.trans hB2⟩
                rw [← HM0.out] at hG2
                simpa [List.append_assoc] using hG2
              clear HPR HSU HEP HES
              by_cases e1 : p = fh'
              · have b1 : ((p : Int) == (fh' : Int)) = true := beq_iff_eq.2 (by omega)
                obtain ⟨c, hc⟩ : ∃ c : Nat, (th' : Int) - q = c := ⟨th' - q, by omega⟩
                have HE : Hid (Ed fs ts p q (List.replicate c 43) fh' th') := by
                  have h := Ed.adds (fs := fs) (ts := ts) c p q (by omega)
                  rw [show q + c = th' by omega] at h
                  rw [← e1]; exact h
                have HAD : Hid (Calls Tryd.prog 18 #[.pointer (some ⟨S, 0, none⟩), .int .u8 43, .int .i64 c] wK fun e w' => e = .returned (.tuple #[]) ∧ (∃ g' cap', StG w' B S Fg Bg fv tv D g' cap' (M0 ++ List.replicate c 43) FL BL) ∧ Below B wK w') := add_any B S Fg Bg fv tv D gg cap M0 FL BL 43 c wK HZK.out (by omega) HSK.out
                clear e1
                as_aux_lemma =>
                  go_wp2_with fail
                  refine HAD.out.mono ?_
                  rintro e w1 ⟨rfl, ⟨g1, cap1, hG1⟩, hB1⟩
                  have HL2 : Hid (Calls Tryd.prog 18 #[.pointer (some ⟨S, 0, none⟩), .int .u8 32, .int .i64 s] w1 fun e w' => CpOut fs ts B S Fg Bg fv tv D fl fh tl th L w e w') := HLAST.out _ _ _ _ _ _ HE.out hG1 (HWK.out.trans hB1)
                  clear hG1 hB1
                  go_wp2_with fail
                  refine HL2.out.mono ?_
                  rintro e w2 h2
                  have he := h2.1
                  subst he
                  have H2 : Hid (CpOut fs ts B S Fg Bg fv tv D fl fh tl th L w (.returned (.tuple #[])) w2) := h2
                  clear h2
                  go_wp2_with fail
                  go_end0
                  exact H2.out
              · have b1 : ((p : Int) == (fh' : Int)) = false := beq_eq_false_iff_ne.2 (by omega)
                by_cases e2 : q = th'
                · have b2 : ((q : Int) == (th' : Int)) = true := beq_iff_eq.2 (by omega)
                  obtain ⟨c, hc⟩ : ∃ c : Nat, (fh' : Int) - p = c := ⟨fh' - p, by omega⟩
                  have HE : Hid (Ed fs ts p q (List.replicate c 45) fh' th') := by
                    have h := Ed.rems (fs := fs) (ts := ts) c p q (by omega)
                    rw [show p + c = fh' by omega] at h
                    rw [← e2]; exact h
                  have HAD : Hid (Calls Tryd.prog 18 #[.pointer (some ⟨S, 0, none⟩), .int .u8 45, .int .i64 c] wK fun e w' => e = .returned (.tuple #[]) ∧ (∃ g' cap', StG w' B S Fg Bg fv tv D g' cap' (M0 ++ List.replicate c 45) FL BL) ∧ Below B wK w') := add_any B S Fg Bg fv tv D gg cap M0 FL BL 45 c wK HZK.out (by omega) HSK.out
                  clear e1 e2
                  as_aux_lemma =>
                    go_wp2_with fail
                    refine HAD.out.mono ?_
                    rintro e w1 ⟨rfl, ⟨g1, cap1, hG1⟩, hB1⟩
                    have HL2 : Hid (Calls Tryd.prog 18 #[.pointer (some ⟨S, 0, none⟩), .int .u8 32, .int .i64 s] w1 fun e w' => CpOut fs ts B S Fg Bg fv tv D fl fh tl th L w e w') := HLAST.out _ _ _ _ _ _ HE.out hG1 (HWK.out.trans hB1)
                    clear hG1 hB1
                    go_wp2_with fail
                    refine HL2.out.mono ?_
                    rintro e w2 h2
                    have he := h2.1
                    subst he
                    have H2 : Hid (CpOut fs ts B S Fg Bg fv tv D fl fh tl th L w (.returned (.tuple #[])) w2) := h2
                    clear h2
                    go_wp2_with fail
                    go_end0
                    exact H2.out
                · have b2 : ((q : Int) == (th' : Int)) = false := beq_eq_false_iff_ne.2 (by omega)
                  have hp1 : p < fh' := by omega
                  have hq1 : q < th' := by omega
                  have HSN : Hid (Calls Tryd.prog 19 #[.pointer (some ⟨S, 0, none⟩), .int .i64 p, .int .i64 fh', .int .i64 q, .int .i64 th'] wK fun e w' => MsOut fs ts p fh' q th' Fg Bg D wK e w') := by
                    obtain ⟨gf, hgf, hgfB, HLF⟩ := (HFV.out.below HWK.out).some (by omega)
                    obtain ⟨gt, hgt, hgtB, HLT⟩ := (HTV.out.below HWK.out).some (by omega)
                    have hs := HSK.out.s
                    rw [hgf, hgt] at hs
                    have hne := HSK.out.ne
                    have hle := HSK.out.le
                    have hDD := HD.out
                    have hNN := HN.out
                    have key : ∀ (o : Bool) (e : Int), ((o = true ∧ e = 1) ∨ (o = false ∧ e = 0)) → (((fh' - p : Nat) : Int) - ((th' - q : Nat) : Int) + e) % 2 = 0 → Calls Tryd.prog 19 #[.pointer (some ⟨S, 0, none⟩), .int .i64 p, .int .i64 fh', .int .i64 q, .int .i64 th'] wK fun e w' => MsOut fs ts p fh' q th' Fg Bg D wK e w' := fun o e hoe hpar =>
                      snake_any S Fg Bg gf gt _ fs ts FL BL D p fh' q th' (fh' - p) (th' - q) ((fh' - p + (th' - q) + 1) / 2) o e wK hs HLF HLT HSK.out.f HSK.out.b HSK.out.fl HSK.out.bl ⟨hne.2.2.2.1, hne.2.2.2.2.1, hne.2.2.2.2.2, by omega, by omega, by omega, by omega⟩ (by omega) (by omega) (by omega) (by omega) (by omega) (by omega) rfl (by omega) hfs hts hD2 hoe hpar
                        (fun h => HNX.out ⟨by omega, by omega, h⟩) (fun h => HNY.out ⟨by omega, by omega, by rw [show fh - 1 - s = fh' - 1 by omega, show th - 1 - s = th' - 1 by omega]; exact h⟩)
                    by_cases hp : (((fh' - p : Nat) : Int) - ((th' - q : Nat) : Int)) % 2 = 0
                    · exact key false 0 (.inr ⟨rfl, rfl⟩) (by omega)
                    · exact key true 1 (.inl ⟨rfl, rfl⟩) (by omega)
                  clear e1 e2 HNX HNY
                  as_aux_lemma =>
                    go_wp2_with fail
                    refine HSN.out.mono ?_
                    rintro e w1 ⟨x, y, u, v, FL1, BL1, rfl, hms, hmm⟩
                    have hG1 := HSK.out.mm hmm
                    have HG1 : Hid (StG w1 B S Fg Bg fv tv D gg cap M0 FL1 BL1) := hG1.1
                    have HW1 : Hid (Below B w w1) := HWK.out.trans hG1.2
                    have HMS : Hid (MS fs ts p fh' q th' x y u v) := hms
                    have hx0 := hms.x0
                    have hxu := hms.xu
                    have hu1 := hms.u1
                    have hy0 := hms.y0
                    have hyv := hms.yv
                    have hv1 := hms.v1
                    have hdg := hms.dg
                    have hpr1 := hms.p1
                    have hpr2 := hms.p2
                    have HZ1 : Hid (B ≤ w1.heap.size) := Nat.le_trans HBB.out HW1.out.size
                    have hNN := HN.out
                    have HC1 : Hid (Calls Tryd.prog 16 #[.pointer (some ⟨S, 0, none⟩), .int .i64 p, .int .i64 x, .int .i64 q, .int .i64 y] w1 fun e w' => CpOut fs ts B S Fg Bg fv tv D p x q y M0 w1 e w') :=
                      HIH.out ((x - p) + (y - q)) (by omega) p x q y M0 FL1 BL1 gg cap w1 rfl hx0 hy0 (by omega) (by omega) (by omega) (by have := HD.out; omega) HZ1.out HG1.out (HFV.out.below HW1.out) (HTV.out.below HW1.out)
                    have HDG : Hid (u - x = v - y) := hdg
                    have HPR1 : Hid (¬ (x = fh' ∧ y = th') ∧ ¬ (u = p ∧ v = q)) := ⟨hpr1, hpr2⟩
                    clear hmm hG1 hms hdg hpr1 hpr2 hNN
                    go_wp2_with fail
                    refine HC1.out.mono ?_
                    rintro e w2 ⟨rfl, ⟨g2, cap2, M1, FL2, BL2, hG2, hE1⟩, hB2⟩
                    have HG2 : Hid (StG w2 B S Fg Bg fv tv D g2 cap2 (M0 ++ M1) FL2 BL2) := hG2
                    have HW2 : Hid (Below B w w2) := HW1.out.trans hB2
                    have HE1 : Hid (Ed fs ts p q M1 x y) := hE1
                    have hlE1 := hE1.len
                    have HLE1 : Hid (M1.length ≤ (x - p) + (y - q)) := hlE1.2.2
                    clear hG2 hB2 hE1 hlE1 HC1 HG1
                    obtain ⟨c, hc⟩ : ∃ c : Nat, (u : Int) - x = c := ⟨u - x, by omega⟩
                    have HAD : Hid (Calls Tryd.prog 18 #[.pointer (some ⟨S, 0, none⟩), .int .u8 32, .int .i64 c] w2 fun e w' => e = .returned (.tuple #[]) ∧ (∃ g' cap', StG w' B S Fg Bg fv tv D g' cap' (M0 ++ M1 ++ List.replicate c 32) FL2 BL2) ∧ Below B w2 w') := add_any B S Fg Bg fv tv D g2 cap2 (M0 ++ M1) FL2 BL2 32 c w2 (Nat.le_trans HBB.out HW2.out.size) (by rw [List.length_append]; have := HLE1.out; have := HDG.out; omega) HG2.out
                    have HE2 : Hid (Ed fs ts x y (List.replicate c 32) u v) := by
                      have h := Ed.keeps (fs := fs) (ts := ts) c x y (by omega) (by have := HDG.out; omega) (fun t ht => HMS.out.eq t (by omega))
                      rw [show x + c = u by omega, show y + c = v by have := HDG.out; omega] at h
                      exact h
                    clear HG2
                    go_wp2_with fail
                    refine HAD.out.mono ?_
                    rintro e w3 ⟨rfl, ⟨g3, cap3, hG3⟩, hB3⟩
                    have HG3 : Hid (StG w3 B S Fg Bg fv tv D g3 cap3 (M0 ++ M1 ++ List.replicate c 32) FL2 BL2) := hG3
                    have HW3 : Hid (Below B w w3) := HW2.out.trans hB3
                    clear hG3 hB3 HAD
                    have HC2 : Hid (Calls Tryd.prog 16 #[.pointer (some ⟨S, 0, none⟩), .int .i64 u, .int .i64 fh', .int .i64 v, .int .i64 th'] w3 fun e w' => CpOut fs ts B S Fg Bg fv tv D u fh' v th' (M0 ++ M1 ++ List.replicate c 32) w3 e w') := by
                      have h1 := HLE1.out
                      have h2 := HDG.out
                      have h3 := HPR1.out
                      have h4 := HN.out
                      have h5 := HD.out
                      exact HIH.out ((fh' - u) + (th' - v)) (by omega) u fh' v th' _ FL2 BL2 g3 cap3 w3 rfl hu1 hv1 (by omega) (by omega) (by simp only [List.length_append, List.length_replicate]; omega) (by omega) (Nat.le_trans HBB.out HW3.out.size) HG3.out (HFV.out.below HW3.out) (HTV.out.below HW3.out)
                    clear HG3
                    go_wp2_with fail
                    refine HC2.out.mono ?_
                    rintro e w4 ⟨rfl, ⟨g4, cap4, M2, FL4, BL4, hG4, hE4⟩, hB4⟩
                    have HL2 : Hid (Calls Tryd.prog 18 #[.pointer (some ⟨S, 0, none⟩), .int .u8 32, .int .i64 s] w4 fun e w' => CpOut fs ts B S Fg Bg fv tv D fl fh tl th L w e w') :=
                      HLAST.out (M1 ++ List.replicate c 32 ++ M2) FL4 BL4 g4 cap4 w4 ((HE1.out.append HE2.out).append hE4) (by simpa [List.append_assoc] using hG4) (HW3.out.trans hB4)
                    clear hG4 hE4 hB4 HC2
                    go_wp2_with fail
                    refine HL2.out.mono ?_
                    rintro e w5 h5
                    have he := h5.1
                    subst he
                    have H5 : Hid (CpOut fs ts B S Fg Bg fv tv D fl fh tl th L w (.returned (.tuple #[])) w5) := h5
                    clear h5
                    go_wp2_with fail
                    go_end0
                    exact H5.out
theorem compare_any (fs ts : List ByteArray) (B S Fg Bg : Nat) (fv tv : Value) (D : Nat) (hfs : fs.length ≤ 65536) (hts : ts.length ≤ 65536) (hD2 : D ≤ 1000000) (N : Nat) : CmpAt fs ts B S Fg Bg fv tv D N :=
  Nat.strongRecOn N fun n ih => compare_step fs ts B S Fg Bg fv tv D n hfs hts hD2 ih
end Go.Proofs.Qxb6606346aDoor
