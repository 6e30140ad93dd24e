import Derived.Test.Qxb6605662aDoorM6
set_option linter.unusedVariables false
set_option linter.unusedSimpArgs false
namespace Go.Proofs.Qxb6605662aDoor
open Go.RowKit

theorem tk7_lt {xs : List Int} {p s e np : Nat} (ht : tk xs p = (7, s, e, np)) : s ≤ e ∧ e < xs.length := by
  have h := tk_str xs p
  rw [ht] at h
  rcases h with ⟨_, h1, _⟩ | ⟨h1, _⟩
  · have := plR_lt h1
    exact this.2
  · exact absurd rfl h1
theorem tk8_lt {xs : List Int} {p s e np : Nat} (ht : tk xs p = (8, s, e, np)) : p ≤ xs.length → p ≤ s ∧ s < e := by
  intro hp
  have hsk := sk_le xs p hp
  by_cases hd : sk xs p < xs.length ∧ isd (xs.getD (sk xs p) 0) = true
  · have hdi := (isd_iff _).1 hd.2
    have e' : tk xs p = (8, sk xs p, sk xs p + dN xs (sk xs p), sk xs p + dN xs (sk xs p)) := by
      unfold tk tkJ
      rw [if_pos hd.1, if_neg (by omega), if_neg (by omega), if_neg (by omega), if_neg (by omega), if_neg (by omega), if_neg (by omega), if_neg (by omega), hd.2]
      rfl
    rw [e'] at ht
    simp only [Prod.mk.injEq] at ht
    have := dN_step hd.1 hd.2
    omega
  · have h := tk_num hp
    rw [ht] at h
    rcases h with ⟨_, h2, _, _, _, h5⟩ | ⟨h1, _⟩
    · exfalso
      simp only at h2 h5
      unfold tk tkJ at ht
      have hq : ∀ o, (tkQ (sk xs p) o).1 = 7 ∨ (tkQ (sk xs p) o).1 = 0 := fun o => by
        cases o with
        | none => exact .inr rfl
        | some y => exact .inl rfl
      have h8 := congrArg (fun t => t.1) ht
      simp only at h8
      revert h8
      repeat' split
      all_goals first
        | (rcases hq (plR xs (sk xs p)) with h | h <;> rw [h] <;> omega)
        | (simp only; omega)
        | (intro _; exact hd ⟨by assumption, by assumption⟩)
    · exact absurd rfl h1

/-! ### zzModelHorizon -/
def MhOut (RES : Option (Nat × HS)) (w : World) (e : Ending) (w' : World) : Prop := Below w.heap.size w w' ∧ (match RES with
  | none => e = .returned (.tuple #[.bool false, .int .i64 0, .int .u64 0, .slice none 0 0, .bool false])
  | some (m, T) => ∃ uv, e = .returned (.tuple #[.bool true, .int .i64 m, .int .u64 T.st, uv, .bool T.un.isSome]) ∧ UnV w' w.heap.size T.un uv)
def hsM (sS sU : Bool) : Nat := (if sS then 1 else 0) ||| (if sU then 2 else 0)
theorem hsM_S (sS sU : Bool) : (hsM sS sU).testBit 0 = sS ∧ hsM sS sU ||| 1 = hsM true sU := by cases sS <;> cases sU <;> decide
theorem hsM_U (sS sU : Bool) : (hsM sS sU).testBit 1 = sU ∧ hsM sS sU ||| 2 = hsM sS true := by cases sS <;> cases sU <;> decide
theorem kUn_ne : ¬ kUn = kSe := by decide
theorem below_drewN' {B : Nat} {a w : World} (h : Below B a w) (q : Nat) : Below B a (w.drewN q) := ⟨h.os, h.tape, h.output, h.size, h.block⟩
theorem UnV.below {w w' : World} {B : Nat} {un : Option (List Int)} {v : Value} (h : UnV w B un v) (hg : w.grownBy w' none) : UnV w' B un v := by
  cases un with
  | none => exact h
  | some l => exact ⟨h.1, h.2.kept hg (by cases hv : v.ownBlock with | none => exact .inl rfl | some k => exact .inr (by simp))⟩
set_option maxHeartbeats 8000000 in
set_option maxRecDepth 100000 in
theorem mhor_any (b o n cap : Nat) (xs : List Int) (p : Nat) (w : World) (hM : MD w (some ⟨b, o, none⟩) n cap xs) (hp : p ≤ n) :
    Calls Tryd.prog 26 #[.slice (some ⟨b, o, none⟩) n cap, .int .i64 p] w fun e w' => MhOut (horR xs (some p)) w e w' := by
  have HM : Hid (MD w (some ⟨b, o, none⟩) n cap xs) := hM
  have hn := hM.hn
  have hcap := hM.hcap
  have hcb := hM.hcb
  have HX : Hid (xs.length = n) := hM.hx
  have HRES : Hid (horR xs (some p) = hd xs (stepH xs) (n + 1) (exA xs 123 (some p)) true HS0) := by show _ = _; rw [← HX.out]; rfl
  generalize horR xs (some p) = RES at HRES ⊢
  have HB : Hid (Below w.heap.size w w) := Below.refl _ _
  clear hM
  obtain ⟨k1, s1, e1, np1, ht1, hl11, hl21, hl31, hl41, hc1⟩ := tokC HM.out p hp
  have HT1 : Hid (tk xs p = (k1, s1, e1, np1)) := ht1
  have HC1 : Hid (∀ wr, Below w.heap.size w wr → Calls Tryd.prog 24 #[.slice (some ⟨b, o, none⟩) n cap, .int .i64 p] wr fun x w' => x = .returned (.tuple #[.int .i64 k1, .int .i64 s1, .int .i64 e1, .int .i64 np1]) ∧ w' = wr) := hc1
  clear ht1 hc1
  go_enter Tryd.func26, Tryd.ntmps26
  go_wp2_with fail
  refine (HC1.out _ HB.out).mono ?_
  rintro x0 w0 ⟨rfl, hw0⟩; obtain rfl := hw0.symm
  clear HC1
  rcases exA_of_tk HT1.out 1 123 (by simp) with ⟨hk1, -, hex, -⟩ | ⟨hk1, -, hex⟩
  rotate_left
  · as_aux_lemma =>
    have HN : Hid (RES = none) := by show _ = _; rw [HRES.out, hex]; rfl
    have g1 : ((k1 : Int) == 1) = false := beq_eq_false_iff_ne.2 (by omega)
    have g1' : ((k1 : Int) != 1) = true := by simp; omega
    clear hex hk1
    go_wp2_with fail
    (try simp only [Exit.inBlock, Exit.then])
    refine bodyPost_ret (results_tmp5 (t := 4) (u := 5) (v := 6) (x := 7) (y := 8) (by kernel_rfl) _ _ _) rfl ?_
    rw [HN.out]
    exact ⟨HB.out, rfl⟩
  subst hk1
  have HRES2 : Hid (RES = hd xs (stepH xs) (n + 1) (some np1) true HS0) := by show _ = _; rw [HRES.out, hex]
  clear hex HRES HT1
  obtain ⟨k2, s2, e2, np2, ht2, hl12, hl22, hl32, hl42, hc2⟩ := tokC HM.out np1 hl21
  have HT2 : Hid (tk xs np1 = (k2, s2, e2, np2)) := ht2
  have HC2 : Hid (∀ wr, Below w.heap.size w wr → Calls Tryd.prog 24 #[.slice (some ⟨b, o, none⟩) n cap, .int .i64 np1] wr fun x w' => x = .returned (.tuple #[.int .i64 k2, .int .i64 s2, .int .i64 e2, .int .i64 np2]) ∧ w' = wr) := hc2
  clear ht2 hc2
  go_wp2_with fail
  refine (HC2.out _ HB.out).mono ?_
  rintro x0 w0 ⟨rfl, hw0⟩; obtain rfl := hw0.symm
  clear HC2
  rcases exA_of_tk HT2.out 2 125 (by simp) with ⟨hk2, hi2, -, hnp⟩ | ⟨hk2, hi2, -⟩
  · as_aux_lemma =>
    subst hk2
    have HN : Hid (RES = some (np2, HS0)) := by show _ = _; rw [HRES2.out]; unfold hd; simp only; rw [hi2, hnp]; rfl
    clear hi2 hnp
    go_wp2_with fail
    (try simp only [Exit.inBlock, Exit.then])
    refine bodyPost_ret (results_tmp5 (t := 4) (u := 5) (v := 6) (x := 7) (y := 8) (by kernel_rfl) _ _ _) rfl ?_
    rw [HN.out]
    exact ⟨HB.out, _, rfl, rfl⟩
  have g2 : ((k2 : Int) == 2) = false := beq_eq_false_iff_ne.2 (by omega)
  have HR3 : Hid (RES = objT xs (stepH xs) (n + 1 - 0) np1 ⟨hsM false false, 0, none⟩) := by show _ = _; rw [HRES2.out]; unfold hd; simp only; rw [hi2]; rfl
  clear hi2 HRES2
  go_wp2_with fail
  go_loopw [9, 10, 11, 12, 13, 14, 15, 16, 17, 18] (fun a9 a10 a11 a12 a13 a14 a15 a16 a17 a18 wr => ∃ (j p0 k s e np : Nat) (sS sU : Bool) (st : Int) (un : Option (List Int)), j ≤ n + 1 ∧ p0 ≤ n ∧ np ≤ n ∧ s ≤ e ∧ e ≤ n ∧ a18 = .int .i64 j ∧ a9 = .int .u64 st ∧ a11 = .bool un.isSome ∧ a12 = .int .i64 k ∧ a13 = .int .i64 s ∧ a14 = .int .i64 e ∧ a15 = .int .i64 np ∧ a16 = .bool sS ∧ a17 = .bool sU ∧ Hid (tk xs p0 = (k, s, e, np)) ∧ Hid (UnV wr w.heap.size un a10) ∧ Hid (Below w.heap.size w wr) ∧ Hid (RES = objT xs (stepH xs) (n + 1 - j) p0 ⟨hsM sS sU, st, un⟩)) (fun _ _ _ _ _ _ _ _ _ a18 _ => n + 1 - (intOf a18).toNat)
  case atStart => exact ⟨0, np1, k2, s2, e2, np2, false, false, 0, none, by omega, hl21, hl22, hl32, hl42, rfl, rfl, rfl, rfl, rfl, rfl, rfl, rfl, rfl, HT2, rfl, HB, HR3⟩
  case round =>
    clear HR3 HT2 HB
    obtain ⟨j, p0, k, s, e, np, sS, sU, st, un, hj, hp0, hnp, hse, hen, rfl, rfl, rfl, rfl, rfl, rfl, rfl, rfl, rfl, HT, HU, HB, HR⟩ := hrel
    clear hl11 hl31 hl41 hl12 hl22 hl32 hl42 g2 hk2
    by_cases hjn : j ≤ n
    rotate_left
    · as_aux_lemma =>
      obtain rfl : j = n + 1 := by omega
      have HN : Hid (RES = none) := by show _ = _; rw [HR.out, Nat.sub_self]; rfl
      have hji : ¬ ((n : Int) + 1 ≤ n) := by omega
      clear HR
      go_wp2_with fail
      (try simp only [Exit.inBlock, Exit.then])
      refine bodyPost_ret (results_tmp5 (t := 4) (u := 5) (v := 6) (x := 7) (y := 8) (by kernel_rfl) _ _ _) rfl ?_
      rw [HN.out]
      exact ⟨HB.out, rfl⟩

    have hji : (j : Int) ≤ n := by omega
    have HR1 : Hid (RES = objT xs (stepH xs) ((n - j) + 1) p0 ⟨hsM sS sU, st, un⟩) := by have := HR.out; rw [show n + 1 - j = n - j + 1 by omega] at this; exact this
    clear HR
    by_cases hk7 : k = 7
    rotate_left
    · as_aux_lemma =>
      have g7 : ((k : Int) == 7) = false := beq_eq_false_iff_ne.2 (by omega)
      have g7' : ((k : Int) != 7) = true := by simp; omega
      have HN : Hid (RES = none) := HR1.out.trans (objT_no _ _ _ HT.out hk7)
      clear HR1 hk7
      go_wp2_with fail
      (try simp only [Exit.inBlock, Exit.then])
      refine bodyPost_ret (results_tmp5 (t := 4) (u := 5) (v := 6) (x := 7) (y := 8) (by kernel_rfl) _ _ _) rfl ?_
      rw [HN.out]
      exact ⟨HB.out, rfl⟩

    subst hk7
    have kc := convM HM.out s e hse hen wr HB.out
    have hen' : e < n := by have := (tk7_lt HT.out).2; rw [HX.out] at this; exact this
    have hscap : s < cap := by omega
    have hsl : (0 : Int) ≤ (s : Int) ∧ (s : Int) ≤ e ∧ (e : Int) ≤ cap := by omega
    obtain ⟨k3, s3, e3, np3, ht3, hl13, hl23, hl33, hl43, hc3⟩ := tokC HM.out np hnp
    have HT3 : Hid (tk xs np = (k3, s3, e3, np3)) := ht3
    have HC3 : Hid (∀ wr, Below w.heap.size w wr → Calls Tryd.prog 24 #[.slice (some ⟨b, o, none⟩) n cap, .int .i64 np] wr fun x w' => x = .returned (.tuple #[.int .i64 k3, .int .i64 s3, .int .i64 e3, .int .i64 np3]) ∧ w' = wr) := hc3
    clear ht3 hc3
    obtain ⟨K, HK⟩ : ∃ K, Hid (strOfNums (sub xs s e) = K) := ⟨_, rfl⟩
    rw [HK.out] at kc
    go_wp2_with fail
    refine (HC3.out _ HB.out).mono ?_
    rintro x0 w0 ⟨rfl, hw0⟩; obtain rfl := hw0.symm
    clear HC3

    clear kc
    by_cases hk5 : k3 = 5
    rotate_left
    · as_aux_lemma =>
      have g5 : ((k3 : Int) == 5) = false := beq_eq_false_iff_ne.2 (by omega)
      have g5' : ((k3 : Int) != 5) = true := by simp; omega
      have HN : Hid (RES = none) := HR1.out.trans (objT_nocolon _ _ _ HT.out HT3.out hk5)
      clear HR1 hk5
      go_wp2_with fail
      (try simp only [Exit.inBlock, Exit.then])
      refine bodyPost_ret (results_tmp5 (t := 4) (u := 5) (v := 6) (x := 7) (y := 8) (by kernel_rfl) _ _ _) rfl ?_
      rw [HN.out]
      exact ⟨HB.out, rfl⟩

    subst hk5
    have HRK : Hid (RES = bindH (stepH xs K np3 ⟨hsM sS sU, st, un⟩) fun m' S' => hd xs (stepH xs) (n - j) (some m') false S') := by
      have h := objT_key (stepH xs) (n - j) ⟨hsM sS sU, st, un⟩ HT.out HT3.out
      rw [HK.out] at h
      exact HR1.out.trans h
    clear HR1 HT HT3 HK
    by_cases hK1 : K = kSe
    · as_aux_lemma =>
      subst hK1
      have hb1 : (kSe.toList == [115, 101, 116, 116, 108, 101, 100]) = true := str_eq rfl rfl
      have HRS : Hid (RES = bindH ((uiA xs (if sS then none else some np3)).map fun x => (x.2, (⟨hsM true sU, x.1, un⟩ : HS))) fun m' S' => hd xs (stepH xs) (n - j) (some m') false S') := by
        show _ = _
        rw [HRK.out]
        unfold stepH onA
        rw [if_pos rfl, (hsM_S sS sU).1, (hsM_S sS sU).2]
      clear HRK
      cases sS with
      | true =>
        have HN : Hid (RES = none) := HRS.out
        clear HRS
        go_wp2_with fail
        (try simp only [Exit.inBlock, Exit.then])
        refine bodyPost_ret (results_tmp5 (t := 4) (u := 5) (v := 6) (x := 7) (y := 8) (by kernel_rfl) _ _ _) rfl ?_
        rw [HN.out]
        exact ⟨HB.out, rfl⟩
      | false =>
        obtain ⟨k4, s4, e4, np4, ht4, hl14, hl24, hl34, hl44, hc4⟩ := tokC HM.out np3 hl23
        have HT4 : Hid (tk xs np3 = (k4, s4, e4, np4)) := ht4
        have HC4 : Hid (∀ wr, Below w.heap.size w wr → Calls Tryd.prog 24 #[.slice (some ⟨b, o, none⟩) n cap, .int .i64 np3] wr fun x w' => x = .returned (.tuple #[.int .i64 k4, .int .i64 s4, .int .i64 e4, .int .i64 np4]) ∧ w' = wr) := hc4
        clear ht4 hc4
        go_wp2_with fail
        refine (HC4.out _ HB.out).mono ?_
        rintro x0 w0 ⟨rfl, hw0⟩; obtain rfl := hw0.symm
        clear HC4
        have hui := uiA_of_tk (by rw [HX.out]; exact hl23) HT4.out
        by_cases hk8 : k4 = 8
        rotate_left
        · have g8 : ((k4 : Int) == 8) = false := beq_eq_false_iff_ne.2 (by omega)
          have g8' : ((k4 : Int) != 8) = true := by simp; omega
          have HN : Hid (RES = none) := by
            have h := HRS.out
            rw [if_neg (by simp), hui.1 hk8] at h
            exact h
          clear HRS hui hk8
          go_wp2_with fail
          (try simp only [Exit.inBlock, Exit.then])
          refine bodyPost_ret (results_tmp5 (t := 4) (u := 5) (v := 6) (x := 7) (y := 8) (by kernel_rfl) _ _ _) rfl ?_
          rw [HN.out]
          exact ⟨HB.out, rfl⟩
        subst hk8
        obtain ⟨hu1, hu2, hu3, hu4, hu5⟩ := hui.2 rfl
        clear hui
        have hpc := parseC HM.out s4 e4 hl34 hl44 hu4 wr HB.out
        have hs4 := (tk8_lt HT4.out (by rw [HX.out]; exact hl23)).2
        have hs4cap : s4 < cap := by omega
        have hsl4 : (0 : Int) ≤ (s4 : Int) ∧ (s4 : Int) ≤ e4 ∧ (e4 : Int) ≤ cap := by omega
        have HRP : Hid (RES = bindH ((pd (sub xs s4 e4)).map fun v => (np4, (⟨hsM true sU, v, un⟩ : HS))) fun m' S' => hd xs (stepH xs) (n - j) (some m') false S') := by
          have h := HRS.out
          rw [if_neg (by simp), hu5, Option.map_map] at h
          exact h
        clear hu1 hu2 hu3 hu4 hu5 HRS
        cases hpd : pd (sub xs s4 e4) with
        | none =>
          rw [hpd] at hpc HRP
          have HN : Hid (RES = none) := HRP.out
          have HPC : Hid (Calls Tryd.prog 39 #[.slice (some ⟨b, o + s4, none⟩) (e4 - s4 : Nat) (cap - s4 : Nat)] wr fun e w' => PdOut none wr e w') := hpc
          clear hpc hpd HRP
          go_wp2_with fail
          refine HPC.out.mono ?_
          rintro x0 w0 ⟨⟨q, rfl⟩, rfl⟩
          have HB' : Hid (Below w.heap.size w (wr.drewN q)) := below_drewN' HB.out q
          clear HB HPC
          have HB := HB'
          clear HB'
          go_wp2_with fail
          (try simp only [Exit.inBlock, Exit.then])
          refine bodyPost_ret (results_tmp5 (t := 4) (u := 5) (v := 6) (x := 7) (y := 8) (by kernel_rfl) _ _ _) rfl ?_
          rw [HN.out]
          exact ⟨HB.out, rfl⟩
        | some v =>
          rw [hpd] at hpc HRP
          have HRT : Hid (RES = hd xs (stepH xs) (n - j) (some np4) false ⟨hsM true sU, v, un⟩) := HRP.out
          have HPC : Hid (Calls Tryd.prog 39 #[.slice (some ⟨b, o + s4, none⟩) (e4 - s4 : Nat) (cap - s4 : Nat)] wr fun e w' => PdOut (some v) wr e w') := hpc
          clear hpc hpd HRP
          go_wp2_with fail
          refine HPC.out.mono ?_
          rintro x0 w0 ⟨⟨q, rfl⟩, rfl⟩
          have HB' : Hid (Below w.heap.size w (wr.drewN q)) := below_drewN' HB.out q
          have HU' : Hid (UnV (wr.drewN q) w.heap.size un u10) := HU.out
          clear HB HU HPC
          have HB := HB'
          have HU := HU'
          clear HB' HU'
          generalize wr.drewN q = wq at HB HU ⊢
          obtain ⟨k6a, s6a, e6a, np6a, ht6a, hl16a, hl26a, hl36a, hl46a, hc6a⟩ := tokC HM.out np4 hl24
          have HT6a : Hid (tk xs np4 = (k6a, s6a, e6a, np6a)) := ht6a
          have HC6a : Hid (∀ wr, Below w.heap.size w wr → Calls Tryd.prog 24 #[.slice (some ⟨b, o, none⟩) n cap, .int .i64 np4] wr fun x w' => x = .returned (.tuple #[.int .i64 k6a, .int .i64 s6a, .int .i64 e6a, .int .i64 np6a]) ∧ w' = wr) := hc6a
          clear ht6a hc6a
          go_wp2_with fail
          refine (HC6a.out _ HB.out).mono ?_
          rintro x0 w0 ⟨rfl, hw0⟩; obtain rfl := hw0.symm
          clear HC6a
          by_cases hk26a : k6a = 2
          · subst hk26a
            have HN : Hid (RES = some (np6a, ⟨hsM true sU, v, un⟩)) := HRT.out.trans ((hd_of_tk (stepH xs) (n - j) _ HT6a.out).1 rfl)
            clear HRT HT6a
            go_wp2_with fail
            (try simp only [Exit.inBlock, Exit.then])
            refine bodyPost_ret (results_tmp5 (t := 4) (u := 5) (v := 6) (x := 7) (y := 8) (by kernel_rfl) _ _ _) rfl ?_
            rw [HN.out]
            exact ⟨HB.out, _, rfl, HU.out⟩
          have g26a : ((k6a : Int) == 2) = false := beq_eq_false_iff_ne.2 (by omega)
          by_cases hk66a : k6a = 6
          · subst hk66a
            have HR2 : Hid (RES = objT xs (stepH xs) (n + 1 - (j + 1)) np6a ⟨hsM true sU, v, un⟩) := by show _ = _; rw [Nat.add_sub_add_right]; exact HRT.out.trans ((hd_of_tk (stepH xs) (n - j) _ HT6a.out).2.1 rfl)
            clear HRT HT6a g26a hk26a
            obtain ⟨k6b, s6b, e6b, np6b, ht6b, hl16b, hl26b, hl36b, hl46b, hc6b⟩ := tokC HM.out np6a hl26a
            have HT6b : Hid (tk xs np6a = (k6b, s6b, e6b, np6b)) := ht6b
            have HC6b : Hid (∀ wr, Below w.heap.size w wr → Calls Tryd.prog 24 #[.slice (some ⟨b, o, none⟩) n cap, .int .i64 np6a] wr fun x w' => x = .returned (.tuple #[.int .i64 k6b, .int .i64 s6b, .int .i64 e6b, .int .i64 np6b]) ∧ w' = wr) := hc6b
            clear ht6b hc6b
            go_wp2_with fail
            refine (HC6b.out _ HB.out).mono ?_
            rintro x0 w0 ⟨rfl, hw0⟩; obtain rfl := hw0.symm
            clear HC6b
            go_wp2_with fail
            go_round
            case rel => exact ⟨j + 1, np6a, k6b, s6b, e6b, np6b, _, _, _, _, by omega, hl26a, hl26b, hl36b, hl46b, by go_num, rfl, rfl, rfl, rfl, rfl, rfl, rfl, rfl, HT6b, HU, HB, HR2⟩
            case measure => simp [intOf]; omega
          have g66a : ((k6a : Int) == 6) = false := beq_eq_false_iff_ne.2 (by omega)
          have g66a' : ((k6a : Int) != 6) = true := by simp; omega
          have HN : Hid (RES = none) := HRT.out.trans ((hd_of_tk (stepH xs) (n - j) _ HT6a.out).2.2 hk26a hk66a)
          clear HRT HT6a hk26a hk66a
          go_wp2_with fail
          (try simp only [Exit.inBlock, Exit.then])
          refine bodyPost_ret (results_tmp5 (t := 4) (u := 5) (v := 6) (x := 7) (y := 8) (by kernel_rfl) _ _ _) rfl ?_
          rw [HN.out]
          exact ⟨HB.out, rfl⟩

    have hb1 : (K.toList == [115, 101, 116, 116, 108, 101, 100]) = false := str_ne (L := kSe) rfl hK1
    by_cases hK2 : K = kUn
    rotate_left
    · as_aux_lemma =>
      have hb2 : (K.toList == [117, 110, 115, 101, 116, 116, 108, 101, 100]) = false := str_ne (L := kUn) rfl hK2
      have HN : Hid (RES = none) := by
        show _ = _
        rw [HRK.out]
        unfold stepH
        rw [if_neg hK1, if_neg hK2]
        rfl
      clear HRK hK1 hK2
      go_wp2_with fail
      (try simp only [Exit.inBlock, Exit.then])
      refine bodyPost_ret (results_tmp5 (t := 4) (u := 5) (v := 6) (x := 7) (y := 8) (by kernel_rfl) _ _ _) rfl ?_
      rw [HN.out]
      exact ⟨HB.out, rfl⟩

    subst hK2
    have hb2 : (kUn.toList == [117, 110, 115, 101, 116, 116, 108, 101, 100]) = true := str_eq rfl rfl
    have HRS : Hid (RES = bindH ((arrR xs (if sU then none else some np3)).map fun x => (x.1, (⟨hsM sS true, st, some x.2⟩ : HS))) fun m' S' => hd xs (stepH xs) (n - j) (some m') false S') := by
      show _ = _
      rw [HRK.out]
      unfold stepH onA
      rw [if_neg kUn_ne, if_pos rfl, (hsM_U sS sU).1, (hsM_U sS sU).2]
    clear HRK hK1
    cases sU with
    | true =>
      have HN : Hid (RES = none) := HRS.out
      clear HRS
      go_wp2_with fail
      (try simp only [Exit.inBlock, Exit.then])
      refine bodyPost_ret (results_tmp5 (t := 4) (u := 5) (v := 6) (x := 7) (y := 8) (by kernel_rfl) _ _ _) rfl ?_
      rw [HN.out]
      exact ⟨HB.out, rfl⟩
    | false => as_aux_lemma =>
      obtain ⟨k4, s4, e4, np4, ht4, hl14, hl24, hl34, hl44, hc4⟩ := tokC HM.out np3 hl23
      have HT4 : Hid (tk xs np3 = (k4, s4, e4, np4)) := ht4
      have HC4 : Hid (∀ wr, Below w.heap.size w wr → Calls Tryd.prog 24 #[.slice (some ⟨b, o, none⟩) n cap, .int .i64 np3] wr fun x w' => x = .returned (.tuple #[.int .i64 k4, .int .i64 s4, .int .i64 e4, .int .i64 np4]) ∧ w' = wr) := hc4
      clear ht4 hc4
      go_wp2_with fail
      refine (HC4.out _ HB.out).mono ?_
      rintro x0 w0 ⟨rfl, hw0⟩; obtain rfl := hw0.symm
      clear HC4
      rcases exA_of_tk HT4.out 3 91 (by simp) with ⟨hk3, -, hex, -⟩ | ⟨hk3, -, hex⟩
      rotate_left
      · have g8 : ((k4 : Int) == 3) = false := beq_eq_false_iff_ne.2 (by omega)
        have g8' : ((k4 : Int) != 3) = true := by simp; omega
        have HN : Hid (RES = none) := by
          have h := HRS.out
          rw [if_neg (by simp)] at h
          unfold arrR at h
          rw [hex] at h
          exact h
        clear HRS hex hk3
        go_wp2_with fail
        (try simp only [Exit.inBlock, Exit.then])
        refine bodyPost_ret (results_tmp5 (t := 4) (u := 5) (v := 6) (x := 7) (y := 8) (by kernel_rfl) _ _ _) rfl ?_
        rw [HN.out]
        exact ⟨HB.out, rfl⟩
      subst hk3
      obtain ⟨RA, HRA⟩ : ∃ RA, Hid (hdA xs (n + 1) (some np4) true [] = RA) := ⟨_, rfl⟩
      have HRB : Hid (RES = bindH (RA.map fun x => (x.1, (⟨hsM sS true, st, some x.2⟩ : HS))) fun m' S' => hd xs (stepH xs) (n - j) (some m') false S') := by
        have h := HRS.out
        rw [if_neg (by simp)] at h
        unfold arrR at h
        rw [hex, HX.out, HRA.out] at h
        exact h
      clear HRS hex HT4
      obtain ⟨k5, s5, e5, np5, ht5, hl15, hl25, hl35, hl45, hc5⟩ := tokC HM.out np4 hl24
      have HT5 : Hid (tk xs np4 = (k5, s5, e5, np5)) := ht5
      have HC5 : Hid (∀ wr, Below w.heap.size w wr → Calls Tryd.prog 24 #[.slice (some ⟨b, o, none⟩) n cap, .int .i64 np4] wr fun x w' => x = .returned (.tuple #[.int .i64 k5, .int .i64 s5, .int .i64 e5, .int .i64 np5]) ∧ w' = wr) := hc5
      clear ht5 hc5
      have HBA : Hid (Below w.heap.size w (wr.alloc (Obj.cells #[] 25))) := HB.out.alloc HB.out.size _
      have HUA : Hid (UnV (wr.alloc (Obj.cells #[] 25)) w.heap.size (some []) (.slice (some ⟨wr.heap.size, 0, none⟩) 0 0)) :=
        ⟨⟨_, _, rfl⟩, rfl, .inr ⟨wr.heap.size, 0, #[], rfl, HB.out.size, heap_alloc_new wr _, Nat.le_refl _, by unfold maxLen; omega, rfl, rfl⟩⟩
      go_wp2_with fail
      generalize wr.alloc (Obj.cells #[] 25) = wa at HBA HUA ⊢
      clear HB HU
      have HB := HBA
      clear HBA
      refine (HC5.out _ HB.out).mono ?_
      rintro x0 w0 ⟨rfl, hw0⟩; obtain rfl := hw0.symm
      clear HC5
      have HRC : Hid (RA = if k5 = 4 then some (np5, []) else arrT xs (n + 1 - 0) np4 []) := by
        show _ = _
        rw [← HRA.out]
        rcases exA_of_tk HT5.out 4 93 (by simp) with ⟨h1, h2, -, h4⟩ | ⟨h1, h2, -⟩
        · unfold hdA; simp only; rw [h2, if_pos h1, h4]; rfl
        · unfold hdA; simp only; rw [h2, if_neg h1]; rfl
      clear HRA
      go_wp2_with fail
      go_loopw [10, 12, 13, 14, 15, 22] (fun a10 a12 a13 a14 a15 a22 wx => ∃ (el p1 k s e np : Nat) (acc : List Int), el ≤ p1 ∧ p1 ≤ n ∧ np ≤ n ∧ s ≤ e ∧ e ≤ n ∧ acc.length = el ∧ a22 = .int .i64 el ∧ a12 = .int .i64 k ∧ a13 = .int .i64 s ∧ a14 = .int .i64 e ∧ a15 = .int .i64 np ∧ Hid (k ≠ 4 → tk xs p1 = (k, s, e, np)) ∧ Hid (UnV wx w.heap.size (some acc) a10) ∧ Hid (Below w.heap.size w wx) ∧ Hid (RA = if k = 4 then some (np, acc) else arrT xs (n + 1 - el) p1 acc)) (fun _ _ _ _ _ a22 _ => n + 1 - (intOf a22).toNat)
      case atStart => exact ⟨0, np4, k5, s5, e5, np5, [], by omega, hl24, hl25, hl35, hl45, rfl, rfl, rfl, rfl, rfl, rfl, fun _ => HT5.out, HUA, HB, HRC⟩
      case round =>
        clear HRC HUA HB HT5
        obtain ⟨el, p1, k6, s6, e6, np6, acc, hel, hp1, hnp6, hse6, hen6, hacc, rfl, rfl, rfl, rfl, rfl, HT60, HU, HB, HR6⟩ := hrel
        have HACC : Hid (acc.length = el) := hacc
        clear hacc
        have heli : (el : Int) ≤ n := by omega
        by_cases hk4 : k6 = 4
        · as_aux_lemma =>
          subst hk4
          have HRT : Hid (RES = hd xs (stepH xs) (n - j) (some np6) false ⟨hsM sS true, st, some acc⟩) := by
            have h := HRB.out
            rw [HR6.out, if_pos rfl] at h
            exact h
          clear HRB HR6
          obtain ⟨k7a, s7a, e7a, np7a, ht7a, hl17a, hl27a, hl37a, hl47a, hc7a⟩ := tokC HM.out np6 hnp6
          have HT7a : Hid (tk xs np6 = (k7a, s7a, e7a, np7a)) := ht7a
          have HC7a : Hid (∀ wr, Below w.heap.size w wr → Calls Tryd.prog 24 #[.slice (some ⟨b, o, none⟩) n cap, .int .i64 np6] wr fun x w' => x = .returned (.tuple #[.int .i64 k7a, .int .i64 s7a, .int .i64 e7a, .int .i64 np7a]) ∧ w' = wr) := hc7a
          clear ht7a hc7a
          go_wp2_with fail
          refine (HC7a.out _ HB.out).mono ?_
          rintro x0 w0 ⟨rfl, hw0⟩; obtain rfl := hw0.symm
          clear HC7a
          by_cases hk27a : k7a = 2
          · subst hk27a
            have HN : Hid (RES = some (np7a, ⟨hsM sS true, st, some acc⟩)) := HRT.out.trans ((hd_of_tk (stepH xs) (n - j) _ HT7a.out).1 rfl)
            clear HRT HT7a
            go_wp2_with fail
            (try simp only [Exit.inBlock, Exit.then])
            refine bodyPost_ret (results_tmp5 (t := 4) (u := 5) (v := 6) (x := 7) (y := 8) (by kernel_rfl) _ _ _) rfl ?_
            rw [HN.out]
            exact ⟨HB.out, _, rfl, HU.out⟩
          have g27a : ((k7a : Int) == 2) = false := beq_eq_false_iff_ne.2 (by omega)
          by_cases hk67a : k7a = 6
          · subst hk67a
            have HR2 : Hid (RES = objT xs (stepH xs) (n + 1 - (j + 1)) np7a ⟨hsM sS true, st, some acc⟩) := by show _ = _; rw [Nat.add_sub_add_right]; exact HRT.out.trans ((hd_of_tk (stepH xs) (n - j) _ HT7a.out).2.1 rfl)
            clear HRT HT7a g27a hk27a
            obtain ⟨k7b, s7b, e7b, np7b, ht7b, hl17b, hl27b, hl37b, hl47b, hc7b⟩ := tokC HM.out np7a hl27a
            have HT7b : Hid (tk xs np7a = (k7b, s7b, e7b, np7b)) := ht7b
            have HC7b : Hid (∀ wr, Below w.heap.size w wr → Calls Tryd.prog 24 #[.slice (some ⟨b, o, none⟩) n cap, .int .i64 np7a] wr fun x w' => x = .returned (.tuple #[.int .i64 k7b, .int .i64 s7b, .int .i64 e7b, .int .i64 np7b]) ∧ w' = wr) := hc7b
            clear ht7b hc7b
            go_wp2_with fail
            refine (HC7b.out _ HB.out).mono ?_
            rintro x0 w0 ⟨rfl, hw0⟩; obtain rfl := hw0.symm
            clear HC7b
            go_wp2_with fail
            go_round
            case rel => exact ⟨j + 1, np7a, k7b, s7b, e7b, np7b, _, _, _, _, by omega, hl27a, hl27b, hl37b, hl47b, by go_num, rfl, rfl, rfl, rfl, rfl, rfl, rfl, rfl, HT7b, HU, HB, HR2⟩
            case measure => simp [intOf]; omega
          have g67a : ((k7a : Int) == 6) = false := beq_eq_false_iff_ne.2 (by omega)
          have g67a' : ((k7a : Int) != 6) = true := by simp; omega
          have HN : Hid (RES = none) := HRT.out.trans ((hd_of_tk (stepH xs) (n - j) _ HT7a.out).2.2 hk27a hk67a)
          clear HRT HT7a hk27a hk67a
          go_wp2_with fail
          (try simp only [Exit.inBlock, Exit.then])
          refine bodyPost_ret (results_tmp5 (t := 4) (u := 5) (v := 6) (x := 7) (y := 8) (by kernel_rfl) _ _ _) rfl ?_
          rw [HN.out]
          exact ⟨HB.out, rfl⟩

        have g4 : ((k6 : Int) == 4) = false := beq_eq_false_iff_ne.2 (by omega)
        have g4' : ((k6 : Int) != 4) = true := by simp; omega
        have HR7 : Hid (RA = arrT xs ((n - el) + 1) p1 acc) := by
          have h := HR6.out
          rw [if_neg hk4, show n + 1 - el = n - el + 1 by omega] at h
          exact h
        have HT6 : Hid (tk xs p1 = (k6, s6, e6, np6)) := HT60.out hk4
        clear HR6 hk4 HT60
        by_cases hk8 : k6 = 8
        rotate_left
        · as_aux_lemma =>
          have g8 : ((k6 : Int) == 8) = false := beq_eq_false_iff_ne.2 (by omega)
          have g8' : ((k6 : Int) != 8) = true := by simp; omega
          have HN : Hid (RES = none) := by
            have h := HRB.out
            rw [HR7.out, arrT_no _ _ (by rw [HX.out]; exact hp1) HT6.out hk8] at h
            exact h
          clear HRB HR7 hk8
          go_wp2_with fail
          (try simp only [Exit.inBlock, Exit.then])
          refine bodyPost_ret (results_tmp5 (t := 4) (u := 5) (v := 6) (x := 7) (y := 8) (by kernel_rfl) _ _ _) rfl ?_
          rw [HN.out]
          exact ⟨HB.out, rfl⟩
        subst hk8
        have hs6 := tk8_lt HT6.out (by rw [HX.out]; exact hp1)
        have hs6cap : s6 < cap := by omega
        have hsl6 : (0 : Int) ≤ (s6 : Int) ∧ (s6 : Int) ≤ e6 ∧ (e6 : Int) ≤ cap := by omega
        obtain ⟨hu1, hu2, hu3, hu4, hu5⟩ := (uiA_of_tk (by rw [HX.out]; exact hp1) HT6.out).2 rfl
        have hpc := parseC HM.out s6 e6 hse6 hen6 hu4 wr HB.out
        have HR8 : Hid (RA = (pd (sub xs s6 e6)).bind fun v => hdA xs (n - el) (some np6) false (acc ++ [v])) := HR7.out.trans (arrT_num _ _ (by rw [HX.out]; exact hp1) HT6.out)
        have hnp6' : e6 ≤ np6 := by omega
        clear hu1 hu2 hu3 hu4 hu5 HR7 HT6
        cases hpd : pd (sub xs s6 e6) with
        | none => as_aux_lemma =>
          rw [hpd] at hpc HR8
          have HN : Hid (RES = none) := by
            have h := HRB.out
            rw [HR8.out] at h
            exact h
          have HPC : Hid (Calls Tryd.prog 39 #[.slice (some ⟨b, o + s6, none⟩) (e6 - s6 : Nat) (cap - s6 : Nat)] wr fun e w' => PdOut none wr e w') := hpc
          clear hpc hpd HRB HR8
          go_wp2_with fail
          refine HPC.out.mono ?_
          rintro x0 w0 ⟨⟨q, rfl⟩, rfl⟩
          have HB' : Hid (Below w.heap.size w (wr.drewN q)) := below_drewN' HB.out q
          clear HB HPC
          have HB := HB'
          clear HB'
          go_wp2_with fail
          (try simp only [Exit.inBlock, Exit.then])
          refine bodyPost_ret (results_tmp5 (t := 4) (u := 5) (v := 6) (x := 7) (y := 8) (by kernel_rfl) _ _ _) rfl ?_
          rw [HN.out]
          exact ⟨HB.out, rfl⟩
        | some v => as_aux_lemma =>
          rw [hpd] at hpc HR8
          have HR9 : Hid (RA = hdA xs (n - el) (some np6) false (acc ++ [v])) := HR8.out
          have HPC : Hid (Calls Tryd.prog 39 #[.slice (some ⟨b, o + s6, none⟩) (e6 - s6 : Nat) (cap - s6 : Nat)] wr fun e w' => PdOut (some v) wr e w') := hpc
          clear hpc hpd HR8
          go_wp2_with fail
          refine HPC.out.mono ?_
          rintro x0 w0 ⟨⟨q, rfl⟩, rfl⟩
          have HB' : Hid (Below w.heap.size w (wr.drewN q)) := below_drewN' HB.out q
          have HU' : Hid (UnV (wr.drewN q) w.heap.size (some acc) u10) := HU.out
          clear HB HU HPC
          have HU := HU'
          generalize wr.drewN q = wq at HB' HU ⊢
          clear HU'
          obtain ⟨i25, hi25, hz0, hz1, hz2⟩ := info_parts Tryd.info25
          have HUO : Hid (wq.ownsRow w.heap.size 25 1 u10 acc.length (acc.map (Value.int .u64))) := HU.out.2
          have hacn : acc.length ≤ n := by have := HACC.out; omega
          obtain ⟨k8, s8, e8, np8, ht8, hl18, hl28, hl38, hl48, hc8⟩ := tokC HM.out np6 hnp6
          have HT8 : Hid (tk xs np6 = (k8, s8, e8, np8)) := ht8
          have HC8 : Hid (∀ wr, Below w.heap.size w wr → Calls Tryd.prog 24 #[.slice (some ⟨b, o, none⟩) n cap, .int .i64 np6] wr fun x w' => x = .returned (.tuple #[.int .i64 k8, .int .i64 s8, .int .i64 e8, .int .i64 np8]) ∧ w' = wr) := hc8
          clear ht8 hc8
          go_wp2_with (at_builtin; refine wpList_append_lies _ rfl _ _ _ rfl w.heap.size 25 i25 _ 1 8 Tryd.underlying26 hi25 hz0 hz1 hz2 rfl (by omega) u10 acc.length (acc.map (Value.int .u64)) (by rfl) (HUO.out.alloc _) ⟨wq.heap.size, 0, none⟩ 1 1 [.int .u64 v] (by rfl) (by rfl) (World.news_of_block (cs := #[.int .u64 v]) (t := 25) (fr := (0, 0)) (heap_alloc_new wq _)) (by simp [Value.oneCell']) (by omega) (by unfold maxLen; omega) (by omega) (by have := HB'.out.size; simp; omega) (wq.heap.size + 1) (by simp) ?_; intro gg cap2 w10 hown10 hgrow hat hlt)
          have HB : Hid (Below w.heap.size w w10) := by
            have h1 : Below w.heap.size w (wq.alloc (Obj.cells #[.int .u64 v] 25)) := HB'.out.alloc HB'.out.size _
            exact h1.grown hgrow h1.size (fun k hk => (HUO.out.lt k hk).1)
          have HUN : Hid (UnV w10 w.heap.size (some (acc ++ [v])) (.slice (some ⟨gg, 0, none⟩) (acc.length + 1) cap2)) := ⟨⟨gg, cap2, by simp⟩, by rw [List.length_append, List.map_append]; exact hown10⟩
          clear HB' HU HUO hown10 hgrow hat hlt
          refine (HC8.out _ HB.out).mono ?_
          rintro x0 w0 ⟨rfl, hw0⟩; obtain rfl := hw0.symm
          clear HC8
          by_cases hk6 : k8 = 6
          · as_aux_lemma =>
            subst hk6
            have HR10 : Hid (RA = arrT xs (n - el) np8 (acc ++ [v])) := HR9.out.trans ((hdA_of_tk _ _ HT8.out).2.1 rfl)
            clear HR9 HT8
            obtain ⟨k9, s9, e9, np9, ht9, hl19, hl29, hl39, hl49, hc9⟩ := tokC HM.out np8 hl28
            have HT9 : Hid (tk xs np8 = (k9, s9, e9, np9)) := ht9
            have HC9 : Hid (∀ wr, Below w.heap.size w wr → Calls Tryd.prog 24 #[.slice (some ⟨b, o, none⟩) n cap, .int .i64 np8] wr fun x w' => x = .returned (.tuple #[.int .i64 k9, .int .i64 s9, .int .i64 e9, .int .i64 np9]) ∧ w' = wr) := hc9
            clear ht9 hc9
            go_wp2_with fail
            refine (HC9.out _ HB.out).mono ?_
            rintro x0 w0 ⟨rfl, hw0⟩; obtain rfl := hw0.symm
            clear HC9
            by_cases hk4 : k9 = 4
            · have HN : Hid (RES = none) := by
                have h := HRB.out
                have h2 : arrT xs (n - el) np8 (acc ++ [v]) = none := by
                  cases n - el with
                  | zero => rfl
                  | succ f => exact arrT_no f _ (by rw [HX.out]; exact hl28) HT9.out (by omega)
                rw [HR10.out, h2] at h
                exact h
              subst hk4
              clear HRB HR10
              go_wp2_with fail
              (try simp only [Exit.inBlock, Exit.then])
              refine bodyPost_ret (results_tmp5 (t := 4) (u := 5) (v := 6) (x := 7) (y := 8) (by kernel_rfl) _ _ _) rfl ?_
              rw [HN.out]
              exact ⟨HB.out, rfl⟩
            have g9 : ((k9 : Int) == 4) = false := beq_eq_false_iff_ne.2 (by omega)
            have HR11 : Hid (RA = if k9 = 4 then some (np9, acc ++ [v]) else arrT xs (n + 1 - (el + 1)) np8 (acc ++ [v])) := by
              show _ = _
              rw [if_neg hk4, Nat.add_sub_add_right]
              exact HR10.out
            clear HR10 hk4
            go_wp2_with fail
            go_round
            case rel => exact ⟨el + 1, np8, k9, s9, e9, np9, acc ++ [v], by omega, hl28, hl29, hl39, hl49, by have := HACC.out; simp; omega, by go_num, rfl, rfl, rfl, rfl, fun _ => HT9.out, HUN, HB, HR11⟩
            case measure => simp [intOf]; omega
          have g6 : ((k8 : Int) == 6) = false := beq_eq_false_iff_ne.2 (by omega)
          by_cases hk4 : k8 = 4
          · as_aux_lemma =>
            have HR11 : Hid (RA = if k8 = 4 then some (np8, acc ++ [v]) else arrT xs (n + 1 - (el + 1)) np6 (acc ++ [v])) := by
              show _ = _
              rw [if_pos hk4]
              exact HR9.out.trans ((hdA_of_tk _ _ HT8.out).1 hk4)
            subst hk4
            clear HR9 hk6 g6
            go_wp2_with fail
            go_round
            case rel => exact ⟨el + 1, np6, 4, s6, e6, np8, acc ++ [v], by omega, hnp6, hl28, hse6, hen6, by have := HACC.out; simp; omega, by go_num, rfl, rfl, rfl, rfl, fun h => absurd rfl h, HUN, HB, HR11⟩
            case measure => simp [intOf]; omega
          · as_aux_lemma =>
            have g9 : ((k8 : Int) == 4) = false := beq_eq_false_iff_ne.2 (by omega)
            have g9' : ((k8 : Int) != 4) = true := by simp; omega
            have HN : Hid (RES = none) := by
              have h := HRB.out
              rw [HR9.out, (hdA_of_tk _ _ HT8.out).2.2 hk4 hk6] at h
              exact h
            clear HRB HR9 hk4 hk6
            go_wp2_with fail
            (try simp only [Exit.inBlock, Exit.then])
            refine bodyPost_ret (results_tmp5 (t := 4) (u := 5) (v := 6) (x := 7) (y := 8) (by kernel_rfl) _ _ _) rfl ?_
            rw [HN.out]
            exact ⟨HB.out, rfl⟩
end Go.Proofs.Qxb6605662aDoor
