import Derived.Test.Qxb6606346aDoorA6
import Derived.Test.Qxb6606346aDoorA7
import Derived.Test.Qxb6606346aDoorP5
import Derived.BigRegion
set_option linter.unusedVariables false
set_option linter.unusedSimpArgs false
namespace Go.Proofs.Qxb6606346aDoor
open Go.RowKit
/-- the blocks that script makes -/
theorem st_made (w w' : World) (fv tv : Value) (N D B Fg Bg : Nat) (hB : w.heap.size = B) (hN : N ≤ 131072)
    (hF : (Fg = B + 2 ∧ Bg = B + 3) ∨ (Fg = B + 3 ∧ Bg = B + 2))
    (hw : w'.heap = ((((w.alloc (.cells (madeCells #[.int .u8 0] N) 32)).alloc (.cells #[fv, tv, .slice (some ⟨B, 0, none⟩) 0 N, .slice (some ⟨Fg, 0, none⟩) D D, .slice (some ⟨Bg, 0, none⟩) D D] 37)).alloc (.cells (madeCells #[.int .i64 0] D) 3)).alloc (.cells (madeCells #[.int .i64 0] D) 3)).heap) :
    StG w' B (B + 1) Fg Bg fv tv D B N [] (List.replicate D 0) (List.replicate D 0) := by
  have hm : madeCells #[.int .i64 0] D = ((List.replicate D (0 : Int)).map (Value.int .i64)).toArray := by
    apply Array.ext
    · simp [size_madeCells]
    · intro i h1 h2
      simp [madeCells, Nat.mod_one]
  generalize hw1 : w.alloc (.cells (madeCells #[.int .u8 0] N) 32) = w1 at hw
  have s1 : w1.heap.size = B + 1 := by rw [← hw1]; simp [hB]
  generalize hw2 : w1.alloc (.cells #[fv, tv, .slice (some ⟨B, 0, none⟩) 0 N, .slice (some ⟨Fg, 0, none⟩) D D, .slice (some ⟨Bg, 0, none⟩) D D] 37) = w2 at hw
  have s2 : w2.heap.size = B + 2 := by rw [← hw2]; simp [s1]
  generalize hw3 : w2.alloc (.cells (madeCells #[.int .i64 0] D) 3) = w3 at hw
  have s3 : w3.heap.size = B + 3 := by rw [← hw3]; simp [s2]
  have k0 : w'.heap[B]? = some (.cells (madeCells #[.int .u8 0] N) 32 (0, 0)) := by
    rw [hw, Below.heap_alloc _ _ _ (by omega), ← hw3, Below.heap_alloc _ _ _ (by omega), ← hw2, Below.heap_alloc _ _ _ (by omega), ← hw1, ← hB]
    exact heap_alloc_new w _
  have k1 : w'.heap[B + 1]? = some (.cells #[fv, tv, .slice (some ⟨B, 0, none⟩) 0 N, .slice (some ⟨Fg, 0, none⟩) D D, .slice (some ⟨Bg, 0, none⟩) D D] 37 (0, 0)) := by
    rw [hw, Below.heap_alloc _ _ _ (by omega), ← hw3, Below.heap_alloc _ _ _ (by omega), ← hw2, ← s1]
    exact heap_alloc_new w1 _
  have k2 : w'.heap[B + 2]? = some (.cells (madeCells #[.int .i64 0] D) 3 (0, 0)) := by
    rw [hw, Below.heap_alloc _ _ _ (by omega), ← hw3, ← s2]
    exact heap_alloc_new w2 _
  have k3 : w'.heap[B + 3]? = some (.cells (madeCells #[.int .i64 0] D) 3 (0, 0)) := by
    rw [hw, ← s3]
    exact heap_alloc_new w3 _
  rw [hm] at k2 k3
  refine ⟨k1, ⟨by simp, .inr ⟨B, N, _, rfl, Nat.le_refl _, k0, by simp, by unfold maxLen; omega, by simp [size_madeCells], by simp⟩⟩, ?_, ?_, by simp, by simp, ?_, ?_⟩
  · rcases hF with ⟨rfl, rfl⟩ | ⟨rfl, rfl⟩
    · exact k2
    · exact k3
  · rcases hF with ⟨rfl, rfl⟩ | ⟨rfl, rfl⟩
    · exact k3
    · exact k2
  · omega
  · omega
def ScOut (fs ts : List ByteArray) (w : World) (e : Ending) (w' : World) : Prop :=
  ∃ (g cap : Nat) (L : List Int), e = .returned (.slice (some ⟨g, 0, none⟩) L.length cap) ∧ (∀ k, k < L.length → w'.cell? ⟨g, k, none⟩ = some (.int .u8 (L.getD k 0))) ∧ L.length ≤ 131072 ∧ (∃ i j, SI fs ts L L.length i j) ∧ Below w.heap.size w w'
set_option maxHeartbeats 4000000 in
set_option maxRecDepth 100000 in
/-- script -/
theorem script_any (fs ts : List ByteArray) (af at_ : Option Addr) (cf ct : Nat) (w : World) (hfs : fs.length ≤ 65536) (hts : ts.length ≤ 65536) (hfv : Lv w w.heap.size (.slice af fs.length cf) fs) (htv : Lv w w.heap.size (.slice at_ ts.length ct) ts) (hsz : ∀ s ∈ fs ++ ts, s.size ≤ 9223372036854775807) :
    Calls Tryd.prog 14 #[.slice af fs.length cf, .slice at_ ts.length ct] w fun e w' => ScOut fs ts w e w' := by
  obtain ⟨N, hN⟩ : ∃ N, N = fs.length + ts.length := ⟨_, rfl⟩
  obtain ⟨D, hD⟩ : ∃ D, D = 2 * ((N + 1) / 2) + 3 := ⟨_, rfl⟩
  have hNb : N ≤ 131072 := by omega
  have hDb : D ≤ 131080 := by omega
  have hmk0 : ∀ w, (Instr.makeSlice 28 (.int .i64 0) (.int .i64 (N : Int))).run Tryd.prog w = .ok (.slice (some ⟨w.heap.size, 0, none⟩) 0 N) (w.alloc (.cells (madeCells #[.int .u8 0] N) 32)) := fun w => by
    obtain ⟨i32, hi, hz0, hz1, hz2⟩ := info_parts Tryd.info32
    have h := run_make (P := Tryd.prog) w 28 32 i32 (.int .u8 0) Tryd.underlying28 hi hz0 .i64 .i64 0 N (by omega) (by omega) (by rw [hz2]; omega) (by omega)
    rw [hz1] at h
    simpa [Value.cells] using h
  have hmk1 : ∀ w, (Instr.makeSlice 35 (.int .i64 (D : Int)) (.int .i64 (D : Int))).run Tryd.prog w = .ok (.slice (some ⟨w.heap.size, 0, none⟩) D D) (w.alloc (.cells (madeCells #[.int .i64 0] D) 3)) := fun w => run_make_row' 35 3 (.int .i64 0) 8 Tryd.underlying35 Tryd.info3 rfl .i64 .i64 D (by omega) (by omega) w
  have hNE : (fs.length : Int) + ts.length = N := by omega
  have hDE : 2 * (((N : Int) + 1) / 2) + 3 = D := by omega
  have hDT : 2 * (((N : Int) + 1).tdiv 2) + 3 = D := by rw [Int.tdiv_eq_ediv_of_nonneg (by omega)]; exact hDE
  have HN : Hid (N = fs.length + ts.length) := hN
  have HD : Hid (D = 2 * ((N + 1) / 2) + 3) := hD
  obtain ⟨B, HB⟩ : ∃ B, Hid (w.heap.size = B) := ⟨_, rfl⟩
  rw [HB.out] at hfv htv
  have HFV : Hid (Lv w B (.slice af fs.length cf) fs) := hfv
  have HTV : Hid (Lv w B (.slice at_ ts.length ct) ts) := htv
  have HSZ : Hid (∀ s ∈ fs ++ ts, s.size ≤ 9223372036854775807) := hsz
  clear hN hD hfv htv hsz
  go_enter Tryd.func14, Tryd.ntmps14
  go_upto_region 4 with fail
  go_cut [6] (fun s6 wy => s6 = .pointer (some ⟨B + 1, 0, none⟩) ∧ ∃ Fg Bg, Hid (StG wy B (B + 1) Fg Bg (.slice af fs.length cf) (.slice at_ ts.length ct) D B N [] (List.replicate D 0) (List.replicate D 0)) ∧ Hid (Below B w wy))
  case first =>
    go_region
    · go_wp2
      go_meet
      refine ⟨by rw [HB.out], B + 2, B + 3, st_made w _ _ _ N D B (B + 2) (B + 3) HB.out hNb (.inl ⟨rfl, rfl⟩) (by rw [HB.out]; rfl), ?_⟩
      rw [← HB.out]
      exact (((((Below.refl _ _).alloc (Nat.le_refl _) _).alloc (by simp) _).alloc (by simp; omega) _).alloc (by simp; omega) _).drew
    · go_wp2
      go_meet
      refine ⟨by rw [HB.out], B + 3, B + 2, st_made w _ _ _ N D B (B + 3) (B + 2) HB.out hNb (.inr ⟨rfl, rfl⟩) (by rw [HB.out]; rfl), ?_⟩
      rw [← HB.out]
      exact (((((Below.refl _ _).alloc (Nat.le_refl _) _).alloc (by simp) _).alloc (by simp; omega) _).alloc (by simp; omega) _).drew
  case rest =>
    obtain ⟨rfl, Fg, Bg, HST, HBL⟩ := hcut
    obtain ⟨w1, rfl⟩ : ∃ x, x = wc := ⟨_, rfl⟩
    clear hmk0 hmk1 hDE hDT
    obtain ⟨S, hS⟩ : ∃ S, B + 1 = S := ⟨_, rfl⟩
    rw [hS] at HST ⊢
    clear hS
    have HZ : Hid (B ≤ w1.heap.size) := by rw [← HB.out]; exact HBL.out.size
    have HCM : Hid (Calls Tryd.prog 16 #[.pointer (some ⟨S, 0, none⟩), .int .i64 0, .int .i64 fs.length, .int .i64 0, .int .i64 ts.length] w1 fun e w' => CpOut fs ts B S Fg Bg (.slice af fs.length cf) (.slice at_ ts.length ct) D 0 fs.length 0 ts.length [] w1 e w') :=
      compare_any fs ts B S Fg Bg _ _ D hfs hts (by omega) N 0 fs.length 0 ts.length [] _ _ B N w1 (by have := HN.out; omega) (Nat.zero_le _) (Nat.zero_le _) (Nat.le_refl _) (Nat.le_refl _) (by simp; omega) (by have := HD.out; omega) HZ.out HST.out (HFV.out.below HBL.out) (HTV.out.below HBL.out)
    clear HST
    go_wp2_with fail
    refine HCM.out.mono ?_
    rintro e w2 ⟨rfl, ⟨g, cap, L, FL, BL, hG, hE⟩, hB2⟩
    have HG : Hid (StG w2 B S Fg Bg (.slice af fs.length cf) (.slice at_ ts.length ct) D g cap L FL BL) := by rw [List.nil_append] at hG; exact hG
    have HW2 : Hid (Below B w w2) := HBL.out.trans hB2
    obtain ⟨n, HL⟩ : ∃ n, Hid (L.length = n) := ⟨_, rfl⟩
    have hn : n ≤ 131072 := by have := hE.len; have h1 := HL.out; omega
    have HNI : Hid (NI fs ts L 0 0 0) := ni_start hE
    clear hG hE hB2 HCM HBL HZ
    go_wp2_with fail
    go_loopg [8] n (fun gh a8 wr => ∃ (p i j : Nat) (L : List Int), a8 = .int .i64 p ∧ p ≤ n ∧ gh = n - p ∧ Hid (L.length = n) ∧ Hid (StG wr B S Fg Bg (.slice af fs.length cf) (.slice at_ ts.length ct) D g cap L FL BL) ∧ Hid (Below B w wr) ∧ Hid (NI fs ts L p i j))
    case atStart => exact ⟨0, 0, 0, L, rfl, Nat.zero_le _, rfl, HL, HG, HW2, HNI⟩
    case round =>
      obtain ⟨p, i, j, L, rfl, hp, rfl, HL, HG, HWR, HNI⟩ := hrel
      obtain ⟨wF, rfl⟩ : ∃ x, x = wr := ⟨_, rfl⟩
      clear HW2
      have c2 := HG.out.s.c2
      rw [HL.out] at c2
      by_cases hpn : p < n
      · have hpi : (p : Int) < n := by omega
        have cp := (own_c HG.out.o p (by rw [HL.out]; exact hpn)).1
        obtain ⟨op, HOP⟩ : ∃ op, Hid (L.getD p 0 = op) := ⟨_, rfl⟩
        rw [HOP.out] at cp
        by_cases h32 : op = 32
        · subst h32
          have HN2 : Hid (NI fs ts L (p + 1) (i + 1) (j + 1)) := ni_kept HNI.out (by rw [HL.out]; exact hpn) HOP.out
          as_aux_lemma =>
            go_wp2
            go_roundg (n - (p + 1))
            case measure => omega
            case rel => exact ⟨p + 1, i + 1, j + 1, L, by go_num, by omega, rfl, HL, HG, HWR, HN2⟩
        · have b32 : (op == 32) = false := beq_eq_false_iff_ne.2 h32
          as_aux_lemma =>
            go_wp2
            go_loopg [8, 10] (n - p) (fun gh a8 a10 wr => ∃ (q r : Nat), a8 = .int .i64 q ∧ a10 = .int .i64 r ∧ p ≤ q ∧ q ≤ n ∧ r ≤ q - p ∧ gh = n - q ∧ Hid (∀ t, p ≤ t → t < q → L.getD t 0 ≠ 32) ∧ Hid (Ed fs ts 0 0 (L.take q) (i + r) (j + (q - p - r)) ∧ Ed fs ts (i + r) (j + (q - p - r)) (L.drop q) fs.length ts.length) ∧ wr = wF)
            case atStart => exact ⟨p, 0, rfl, rfl, Nat.le_refl _, by omega, by omega, rfl, fun t h1 h2 => by omega, by rw [show p - p - 0 = 0 by omega]; exact ⟨HNI.out.e1, HNI.out.e2⟩, rfl⟩
            case round =>
              obtain ⟨q, r, rfl, rfl, hpq, hqn, hr, rfl, HNK, HEE, hw⟩ := hrel
              have hw := hw.symm
              subst hw
              by_cases hq : q < n ∧ L.getD q 0 ≠ 32
              · have hqi : (q : Int) < n := by omega
                have cq := (own_c HG.out.o q (by rw [HL.out]; exact hq.1)).1
                obtain ⟨o3, HO3⟩ : ∃ o3, Hid (L.getD q 0 = o3) := ⟨_, rfl⟩
                rw [HO3.out] at cq
                have b3 : (o3 != 32) = true := by simp only [bne_iff_ne]; rw [← HO3.out]; exact hq.2
                have HNK2 : Hid (∀ t, p ≤ t → t < q + 1 → L.getD t 0 ≠ 32) := fun t h1 h2 => by
                  by_cases e : t = q
                  · subst e; exact hq.2
                  · exact HNK.out t h1 (by omega)
                have hq1 := hq.1
                rcases ed_next (by rw [HL.out]; exact hq.1) HEE.out.1 HEE.out.2 with h | h | h
                · exact absurd h.1 hq.2
                · have b4 : (o3 == 45) = true := by rw [← HO3.out]; exact beq_iff_eq.2 h.1
                  have HE2 : Hid (Ed fs ts 0 0 (L.take (q + 1)) (i + (r + 1)) (j + (q + 1 - p - (r + 1))) ∧ Ed fs ts (i + (r + 1)) (j + (q + 1 - p - (r + 1))) (L.drop (q + 1)) fs.length ts.length) := by
                    rw [show q + 1 - p - (r + 1) = q - p - r by omega, show i + (r + 1) = i + r + 1 by omega]
                    exact ⟨h.2.2.1, h.2.2.2⟩
                  clear h hq
                  as_aux_lemma =>
                    go_wp2
                    go_roundg (n - (q + 1))
                    case measure => omega
                    case rel => exact ⟨q + 1, r + 1, by go_num, by go_num, by omega, by omega, by omega, rfl, HNK2, HE2, rfl⟩
                · have b4 : (o3 == 45) = false := by rw [← HO3.out, beq_eq_false_iff_ne, h.1]; decide
                  have HE2 : Hid (Ed fs ts 0 0 (L.take (q + 1)) (i + r) (j + (q + 1 - p - r)) ∧ Ed fs ts (i + r) (j + (q + 1 - p - r)) (L.drop (q + 1)) fs.length ts.length) := by
                    rw [show j + (q + 1 - p - r) = j + (q - p - r) + 1 by omega]
                    exact ⟨h.2.2.1, h.2.2.2⟩
                  clear h hq
                  as_aux_lemma =>
                    go_wp2
                    go_roundg (n - (q + 1))
                    case measure => omega
                    case rel => exact ⟨q + 1, r, by go_num, rfl, by omega, by omega, by omega, rfl, HNK2, HE2, rfl⟩
              · have HQE : Hid (q = n ∨ L.getD q 0 = 32) := by
                  show _ ∨ _
                  by_cases e : q = n
                  · exact .inl e
                  · exact .inr (Classical.byContradiction fun h => hq ⟨by omega, h⟩)
                clear hq
                have hpq2 : p < q := by
                  rcases Nat.eq_or_lt_of_le hpq with e | e
                  · exfalso
                    subst e
                    rcases HQE.out with h | h
                    · omega
                    · rw [HOP.out] at h; exact h32 h
                  · exact e
                have HNE : Hid (NI fs ts (runs L p r q) q (i + r) (j + (q - p - r))) := ni_run HNI.out hpq2 (by rw [HL.out]; exact hqn) (by rw [HOP.out]; exact h32) hr HEE.out.2 (by rw [HL.out]; exact HQE.out)
                go_upto_region 11 with fail
                go_cut [78] (fun s78 wy => s78 = .bool false ∧ wy = wF)
                case first =>
                  rcases HQE.out with h | h
                  · have hqi : ¬ (q : Int) < n := by omega
                    clear h
                    as_aux_lemma =>
                      go_wp2
                      go_meet
                      exact ⟨rfl, rfl⟩
                  · by_cases h9 : q < n
                    · have hqi : (q : Int) < n := by omega
                      have cq := (own_c HG.out.o q (by rw [HL.out]; exact h9)).1
                      rw [h] at cq
                      clear h
                      as_aux_lemma =>
                        go_wp2
                        go_meet
                        exact ⟨rfl, rfl⟩
                    · have hqi : ¬ (q : Int) < n := by omega
                      clear h
                      as_aux_lemma =>
                        go_wp2
                        go_meet
                        exact ⟨rfl, rfl⟩
                case rest =>
                  as_aux_lemma =>
                    obtain ⟨rfl, hw⟩ := hcut
                    have hw := hw.symm
                    subst hw
                    clear cp
                    go_wp2
                    go_loopg [11] (q - p) (fun gh a11 wr => ∃ (x : Nat), a11 = .int .i64 x ∧ p ≤ x ∧ x ≤ q ∧ gh = q - x ∧ Hid (StG wr B S Fg Bg (.slice af fs.length cf) (.slice at_ ts.length ct) D g cap (runs L p r x) FL BL) ∧ Hid (Below B w wr))
                    case atStart => exact ⟨p, rfl, Nat.le_refl _, by omega, rfl, by rw [runs_start]; exact HG, HWR⟩
                    case round =>
                      obtain ⟨x, rfl, hx1, hx2, rfl, HGX, HWX⟩ := hrel
                      clear HG HWR c2
                      have HLX : Hid ((runs L p r x).length = n) := by show _ = _; rw [runs_length L p r x hx1 (by rw [HL.out]; omega) (by rw [HL.out]; omega)]; exact HL.out
                      have c2 := HGX.out.s.c2
                      rw [HLX.out] at c2
                      by_cases hx : x < q
                      · have hxi : (x : Int) < q := by omega
                        have hxn : x < n := by omega
                        have co := own_c HGX.out.o x (by rw [HLX.out]; exact hxn)
                        have cc := co.1
                        have ff := co.2
                        clear co
                        generalize (runs L p r x).getD x 0 = z at cc
                        have HG1 : Hid (StG (wr.setCell ⟨g, x, none⟩ (.int .u8 43)) B S Fg Bg (.slice af fs.length cf) (.slice at_ ts.length ct) D g cap ((runs L p r x).set x 43) FL BL) := HGX.out.set (by rw [HLX.out]; exact hxn)
                        have hBg : B ≤ g := HGX.out.glt.1
                        have HW1 : Hid (Below B w (wr.setCell ⟨g, x, none⟩ (.int .u8 43))) := HWX.out.setCell (p := ⟨g, x, none⟩) hBg _
                        have c2a := HG1.out.s.c2
                        rw [List.length_set, HLX.out] at c2a
                        by_cases hxr : x < p + r
                        · have hxr' : (x : Int) - p < r := by omega
                          have co := own_c HG1.out.o x (by rw [List.length_set, HLX.out]; exact hxn)
                          have cc1 := co.1
                          have ff1 := co.2
                          clear co
                          generalize ((runs L p r x).set x 43).getD x 0 = z1 at cc1
                          have HG2 : Hid (StG ((wr.setCell ⟨g, x, none⟩ (.int .u8 43)).setCell ⟨g, x, none⟩ (.int .u8 45)) B S Fg Bg (.slice af fs.length cf) (.slice at_ ts.length ct) D g cap (runs L p r (x + 1)) FL BL) := by
                            have h := HG1.out.set (k := x) (x := 45) (by rw [List.length_set, HLX.out]; exact hxn)
                            rw [List.set_set, runs_rem L p r x hx1 (by rw [HL.out]; exact hxn) hxr] at h
                            exact h
                          have HW2 : Hid (Below B w ((wr.setCell ⟨g, x, none⟩ (.int .u8 43)).setCell ⟨g, x, none⟩ (.int .u8 45))) := HW1.out.setCell (p := ⟨g, x, none⟩) hBg _
                          as_aux_lemma =>
                            go_wp2
                            go_roundg (q - (x + 1))
                            case measure => omega
                            case rel => exact ⟨x + 1, by go_num, by omega, by omega, rfl, HG2, HW2⟩
                        · have hxr' : ¬ (x : Int) - p < r := by omega
                          have HG2 : Hid (StG (wr.setCell ⟨g, x, none⟩ (.int .u8 43)) B S Fg Bg (.slice af fs.length cf) (.slice at_ ts.length ct) D g cap (runs L p r (x + 1)) FL BL) := by
                            have h := HG1.out
                            rw [runs_add L p r x hx1 (by rw [HL.out]; exact hxn) (by omega)] at h
                            exact h
                          as_aux_lemma =>
                            go_wp2
                            go_roundg (q - (x + 1))
                            case measure => omega
                            case rel => exact ⟨x + 1, by go_num, by omega, by omega, rfl, HG2, HW1⟩
                      · have hxi : ¬ (x : Int) < q := by omega
                        obtain rfl : x = q := by omega
                        as_aux_lemma =>
                          go_wp2
                          go_roundg (n - x)
                          case measure => omega
                          case rel => exact ⟨x, i + r, j + (x - p - r), runs L p r x, rfl, by omega, rfl, HLX, HGX, HWX, HNE⟩
      · have hpi : ¬ (p : Int) < n := by omega
        have hpe : p = n := by omega
        have HSI : Hid (SI fs ts L 0 0 0) := ni_end (by have h := HNI.out; rw [hpe, ← HL.out] at h; exact h)
        have HSL : Hid (Calls Tryd.prog 17 #[.pointer (some ⟨S, 0, none⟩)] wF fun e w' => SlOut fs ts B S Fg Bg (.slice af fs.length cf) (.slice at_ ts.length ct) D g cap n FL BL wF e w') :=
          slide_any fs ts B S Fg Bg _ _ D g cap n L FL BL wF hfs hts (by omega) HL.out (by rw [← HB.out]; exact HWR.out.size) HG.out (HFV.out.below HWR.out) (HTV.out.below HWR.out) HSI.out HSZ.out
        clear hpe
        as_aux_lemma =>
          go_wp2_with fail
          refine HSL.out.mono ?_
          rintro e w3 ⟨rfl, ⟨L3, i3, j3, hG3, hL3, hS3⟩, hB3⟩
          have c3 := hG3.s.c2
          rw [hL3] at c3
          have HOUT : Hid (ScOut fs ts w (.returned (.slice (some ⟨g, 0, none⟩) n cap)) w3) := by
            refine ⟨g, cap, L3, by rw [hL3], fun k hk => (own_c hG3.o k hk).1, by omega, ⟨i3, j3, by rw [hL3]; exact hS3⟩, ?_⟩
            rw [HB.out]
            exact HWR.out.trans hB3
          clear hG3 hL3 hS3 hB3
          go_wp2_with fail
          go_ret
          exact HOUT.out
end Go.Proofs.Qxb6606346aDoor
