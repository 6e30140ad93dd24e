import Derived.Test.Qxb6605662aDoorV2
set_option linter.unusedVariables false
namespace Go.Proofs.Qxb6605662aDoor
open Go.RowKit

/-- what the walk asks of a first byte from 128 on -/
theorem lead_walk (c : Int) (h0 : 128 ≤ c) (h1 : c < 256) : (cls c = none ∧ bits .and .u8 (ft c.toNat) 7 = 1 ∧ ft c.toNat / 16 = ((15 : Nat) : Int)) ∨
    (∃ (S J : Nat) (lo hi : Int), (S = 2 ∨ S = 3 ∨ S = 4) ∧ cls c = some (S - 1, lo, hi) ∧ bits .and .u8 (ft c.toNat) 7 = (S : Int) ∧ ft c.toNat / 16 = (J : Int) ∧ J < 16 ∧ aLo J = lo ∧ aHi J = hi) := by
  rcases lead_of c h0 h1 with ⟨h, e⟩ | ⟨m, lo, hi, h, e⟩
  · refine .inl ⟨h, ?_, ?_⟩ <;> rw [e] <;> decide
  · refine .inr ?_
    rcases e with ⟨e, rfl, rfl, rfl⟩ | ⟨e, rfl, rfl, rfl⟩ | ⟨e, rfl, rfl, rfl⟩ | ⟨e, rfl, rfl, rfl⟩ | ⟨e, rfl, rfl, rfl⟩ | ⟨e, rfl, rfl, rfl⟩ | ⟨e, rfl, rfl, rfl⟩ <;> rw [e]
    · exact ⟨2, 0, _, _, .inl rfl, h, by decide, by decide, by decide, rfl, rfl⟩
    · exact ⟨3, 1, _, _, .inr (.inl rfl), h, by decide, by decide, by decide, rfl, rfl⟩
    · exact ⟨3, 0, _, _, .inr (.inl rfl), h, by decide, by decide, by decide, rfl, rfl⟩
    · exact ⟨3, 2, _, _, .inr (.inl rfl), h, by decide, by decide, by decide, rfl, rfl⟩
    · exact ⟨4, 3, _, _, .inr (.inr rfl), h, by decide, by decide, by decide, rfl, rfl⟩
    · exact ⟨4, 0, _, _, .inr (.inr rfl), h, by decide, by decide, by decide, rfl, rfl⟩
    · exact ⟨4, 4, _, _, .inr (.inr rfl), h, by decide, by decide, by decide, rfl, rfl⟩


theorem two_words (l : List Int) (k : Nat) (hb : InB l) : ∃ A B O Z : Nat, wd l k = A ∧ wd l (k + 8) = B ∧ bits .or .u64 (A : Int) (B : Int) = (O : Int) ∧ bits .and .u64 (O : Int) 9259542123273814144 = (Z : Int) ∧ (Z = 0 → ∀ i, i < 16 → l.getD (k + i) 0 < 128) := by
  refine ⟨_, _, wd l k ||| wd l (k + 8), (wd l k ||| wd l (k + 8)) &&& 9259542123273814144, rfl, rfl, u64_or_nat _ _ (wd_lt _ _) (wd_lt _ _), u64_and_nat _ 9259542123273814144 (Nat.or_lt_two_pow (n := 64) (wd_lt _ _) (wd_lt _ _)) (by omega), fun h i hi => ?_⟩
  obtain ⟨e1, e2⟩ := (Lib.or_mask _ _ _).1 h
  by_cases h8 : i < 8
  · exact wd_asc l k hb e1 i h8
  · have := wd_asc l (k + 8) hb e2 (i - 8) (by omega)
    rwa [show k + 8 + (i - 8) = k + i from by omega] at this
theorem four_words (l : List Int) (k : Nat) (hb : InB l) : ∃ A B C D P Q O Z : Nat, wd l k = A ∧ wd l (k + 8) = B ∧ wd l (k + 16) = C ∧ wd l (k + 24) = D ∧ bits .or .u64 (A : Int) (B : Int) = (P : Int) ∧ bits .or .u64 (C : Int) (D : Int) = (Q : Int) ∧ bits .or .u64 (P : Int) (Q : Int) = (O : Int) ∧ bits .and .u64 (O : Int) 9259542123273814144 = (Z : Int) ∧ (Z = 0 → ∀ i, i < 32 → l.getD (k + i) 0 < 128) := by
  have l1 : wd l k ||| wd l (k + 8) < 18446744073709551616 := Nat.or_lt_two_pow (n := 64) (wd_lt _ _) (wd_lt _ _)
  have l2 : wd l (k + 16) ||| wd l (k + 24) < 18446744073709551616 := Nat.or_lt_two_pow (n := 64) (wd_lt _ _) (wd_lt _ _)
  refine ⟨_, _, _, _, wd l k ||| wd l (k + 8), wd l (k + 16) ||| wd l (k + 24), (wd l k ||| wd l (k + 8)) ||| (wd l (k + 16) ||| wd l (k + 24)), _, rfl, rfl, rfl, rfl, u64_or_nat _ _ (wd_lt _ _) (wd_lt _ _), u64_or_nat _ _ (wd_lt _ _) (wd_lt _ _), u64_or_nat _ _ l1 l2, u64_and_nat _ 9259542123273814144 (Nat.or_lt_two_pow (n := 64) l1 l2) (by omega), fun h i hi => ?_⟩
  obtain ⟨e1, e2⟩ := (Lib.or_mask _ _ _).1 h
  obtain ⟨a1, a2⟩ := (Lib.or_mask _ _ _).1 e1
  obtain ⟨a3, a4⟩ := (Lib.or_mask _ _ _).1 e2
  by_cases h8 : i < 8
  · exact wd_asc l k hb a1 i h8
  by_cases h16 : i < 16
  · have := wd_asc l (k + 8) hb a2 (i - 8) (by omega)
    rwa [show k + 8 + (i - 8) = k + i from by omega] at this
  by_cases h24 : i < 24
  · have := wd_asc l (k + 16) hb a3 (i - 16) (by omega)
    rwa [show k + 16 + (i - 16) = k + i from by omega] at this
  · have := wd_asc l (k + 24) hb a4 (i - 24) (by omega)
    rwa [show k + 24 + (i - 24) = k + i from by omega] at this

theorem below_drewN {B : Nat} {a w : World} (h : Below B a w) (q : Nat) : Below B a (w.drewN q) := ⟨h.os, h.tape, h.output, h.size, h.block⟩
set_option maxHeartbeats 40000000 in
set_option maxRecDepth 100000 in
theorem valid_any (b o n cap : Nat) (l : List Int) (w : World) (hn0 : 0 < n) (hn : n ≤ 2147483648) (hcap : n ≤ cap) (hcb : cap ≤ 9223372036854775807) (hx : l.length = n) (hb : InB l)
    (hc : ∀ i, i < n → w.cell? ⟨b, o + i, none⟩ = some (.int .u8 (l.getD i 0))) (hT : Tabs w) :
    Calls Tryd.prog 47 #[.slice (some ⟨b, o, none⟩) n cap] w fun e w' => e = .returned (.bool (vu l)) ∧ Below w.heap.size w w' := by
  have HX : Hid (l.length = n) := hx
  have HC : Hid (∀ i, i < n → w.cell? ⟨b, o + i, none⟩ = some (.int .u8 (l.getD i 0))) := hc
  have HT : Hid (Tabs w) := hT
  have HI : Hid (InB l) := hb
  obtain ⟨ANS, HANS⟩ : ∃ ANS, Hid (vu l = ANS) := ⟨_, rfl⟩
  rw [HANS.out]
  clear hx hc hT hb
  go_enter Tryd.func47, Tryd.ntmps47
  go_wp2
  go_loopg [0] (n + 1) (fun gk s0 wx => ∃ (k m : Nat) (pa : Option Addr), Hid (k + m = n) ∧ m < gk ∧ m ≤ n ∧ s0 = .slice pa m m ∧ Hid (0 < m → pa = some ⟨b, o + k, none⟩) ∧ Hid (vu (l.drop k) = ANS) ∧ Hid (Below w.heap.size w wx))
  case atStart => exact ⟨0, n, some ⟨b, o, none⟩, Nat.zero_add n, by omega, Nat.le_refl _, rfl, fun _ => rfl, HANS, Below.refl _ _⟩
  case round =>
    obtain ⟨k, m, pa, HKM, hmg, hmn, rfl, HPA, HV, HB⟩ := hrel
    by_cases hm : 0 < m
    · have hpa := HPA.out hm
      subst hpa
      obtain ⟨m', rfl⟩ : ∃ m', m = m' + 1 := ⟨m - 1, by omega⟩
      have hkl : Hid (k < l.length) := by have := HKM.out; show k < l.length; rw [HX.out]; omega
      obtain ⟨x, HXK⟩ : ∃ x, Hid (l.getD k 0 = x) := ⟨_, rfl⟩
      have hx0 : 0 ≤ x := by have := (HI.out k).1; rw [HXK.out] at this; exact this
      have hx1 : x < 256 := by have := (HI.out k).2; rw [HXK.out] at this; exact this
      have hck : wr.cell? ⟨b, o + k, none⟩ = some (.int .u8 x) := by
        have h := HC.out k (by have := HKM.out; omega)
        rw [HXK.out] at h
        exact (HB.out.cell (World.block_lt_of_cell? _ _ h)).trans h
      have hmi : (0 : Int) < (m' : Int) + 1 := by omega
      by_cases hasc : x < 128
      · as_aux_lemma =>
        have HV1 : Hid (vu (l.drop (k + 1)) = ANS) := (vu_at_asc hkl.out (by rw [HXK.out]; exact hasc)).symm.trans HV.out
        have HLN : Hid (l.length = k + (m' + 1)) := by show _ = _; rw [HX.out]; exact HKM.out.symm
        have hcells : ∀ W, Below w.heap.size w W → ∀ j, k + j < n → W.cell? ⟨b, o + k + j, none⟩ = some (.int .u8 (l.getD (k + j) 0)) := by
          intro W hbW j hj
          have h := HC.out (k + j) hj
          rw [Nat.add_assoc]
          exact (hbW.cell (World.block_lt_of_cell? _ _ h)).trans h
        have HCW : Hid (∀ W, Below w.heap.size w W → ∀ j, k + j < n → W.cell? ⟨b, o + k + j, none⟩ = some (.int .u8 (l.getD (k + j) 0))) := hcells
        clear hcells
        by_cases c8 : 8 < m'
        · have c8i : (8 : Int) < (m' : Int) := by omega
          have cw1 : ∀ W, Below w.heap.size w W → Calls Tryd.prog 54 #[.slice (some ⟨b, o + k + 1, none⟩) m' m'] W fun e w' => e = .returned (.int .u64 (wd l (k + 1))) ∧ ∃ q, w' = W.drewN q := fun W hbW =>
            word_any b (o + k + 1) m' m' (k + 1) l W (by omega) (by omega) HI.out (fun i hi => by have := HCW.out W hbW (1 + i) (by have := HKM.out; omega); rw [← Nat.add_assoc, ← Nat.add_assoc] at this; exact this)
          have hW := cw1 wr HB.out
          have hlt := wd_lt l (k + 1)
          have HZ : Hid (wd l (k + 1) &&& 9259542123273814144 = 0 → ∀ i, i < 8 → l.getD (k + 1 + i) 0 < 128) := wd_asc l (k + 1) HI.out
          generalize wd l (k + 1) = W1 at hW hlt HZ
          have hand : bits .and .u64 (W1 : Int) 9259542123273814144 = ((W1 &&& 9259542123273814144 : Nat) : Int) := u64_and_nat W1 9259542123273814144 hlt (by omega)
          generalize W1 &&& 9259542123273814144 = Z1 at hand HZ
          have HW1 : Hid (Calls Tryd.prog 54 #[.slice (some ⟨b, o + k + 1, none⟩) m' m'] wr fun e w' => e = .returned (.int .u64 W1) ∧ ∃ q, w' = wr.drewN q) := hW
          clear hW cw1
          by_cases hz1 : Z1 = 0
          · have hz1b : ((Z1 : Int) == 0) = true := by simp [hz1]
            have HV9 : Hid (vu (l.drop (k + 9)) = ANS) := (vu_skip 8 (k + 1) (by rw [HLN.out]; omega) (HZ.out hz1)).symm.trans HV1.out
            clear hz1 HZ
            go_wp2_with fail
            refine HW1.out.mono ?_
            rintro e w2 ⟨rfl, q, hw2⟩
            have HB2 : Hid (Below w.heap.size w w2) := by rw [hw2]; exact below_drewN HB.out q
            clear hw2 hck
            go_wp2
            obtain ⟨m2, HM2⟩ : ∃ m2, Hid (m' - 8 = m2) := ⟨_, rfl⟩
            have hm2 : Hid (m' = m2 + 8) := by show m' = m2 + 8; have := HM2.out; omega
            rw [HM2.out]
            have HMG : Hid (m' + 1 < gk ∧ m' + 1 ≤ n) := ⟨hmg, hmn⟩
            clear hmi hx0 hx1 hasc hmg hmn hm c8i hlt hand hz1b HW1
            by_cases c16 : 16 < m2
            · have c16d : decide ((16 : Int) < (m2 : Int)) = true := decide_eq_true (by omega)
              have s8z : (8 : Int) ≤ (m2 : Int) := by omega
              obtain ⟨A, B, O, Z, hA, hB, hor, hand2, hZ⟩ := two_words l (k + 9) HI.out
              have HZ2 : Hid (Z = 0 → ∀ i, i < 16 → l.getD (k + 9 + i) 0 < 128) := hZ
              have HcA : Hid (∀ q, Calls Tryd.prog 54 #[.slice (some ⟨b, o + k + 1 + 8, none⟩) m2 m2] (w2.drewN q) fun e w' => e = .returned (.int .u64 A) ∧ ∃ q', w' = (w2.drewN q).drewN q') := fun q => by
                rw [← hA]
                exact word_any b (o + k + 1 + 8) m2 m2 (k + 9) l _ (by omega) (by have := hm2.out; have := HMG.out; omega) HI.out (fun i hi => by have := HCW.out _ (below_drewN HB2.out q) (9 + i) (by have := HKM.out; have := hm2.out; have := HMG.out; omega); rw [show o + k + 1 + 8 + i = o + k + (9 + i) from by omega, show k + 9 + i = k + (9 + i) from by omega]; exact this)
              have HcB : Hid (∀ q, Calls Tryd.prog 54 #[.slice (some ⟨b, o + k + 1 + 8 + 8, none⟩) (m2 - 8 : Nat) (m2 - 8 : Nat)] (w2.drewN q) fun e w' => e = .returned (.int .u64 B) ∧ ∃ q', w' = (w2.drewN q).drewN q') := fun q => by
                rw [← hB]
                exact word_any b (o + k + 1 + 8 + 8) (m2 - 8) (m2 - 8) (k + 9 + 8) l _ (by omega) (by have := hm2.out; have := HMG.out; omega) HI.out (fun i hi => by have := HCW.out _ (below_drewN HB2.out q) (17 + i) (by have := HKM.out; have := hm2.out; have := HMG.out; omega); rw [show o + k + 1 + 8 + 8 + i = o + k + (17 + i) from by omega, show k + 9 + 8 + i = k + (17 + i) from by omega]; exact this)
              clear hA hB hZ
              by_cases hz2 : Z = 0
              · as_aux_lemma =>
                have hz2b : ((Z : Int) == 0) = true := by simp [hz2]
                have HV25 : Hid (vu (l.drop (k + 25)) = ANS) := (vu_skip 16 (k + 9) (by rw [HLN.out]; have := hm2.out; have := HMG.out; omega) (HZ2.out hz2)).symm.trans HV9.out
                clear hz2
                refine wp_region_quiet_lit (by kernel_rfl) (by kernel_rfl) ?_
                go_big_quiet_step (fail)
                go_big_quiet_step (fail)
                go_big_quiet_step (fail)
                go_big_quiet_step (fail)
                go_big_quiet_step (fail)
                go_big_quiet_want
                go_big_quiet_op
                go_big_quiet_call (exact Calls.quiet_of (HcA.out _))
                go_big_quiet_step (fail)
                go_big_quiet_step (fail)
                go_big_quiet_want
                go_big_quiet_op
                go_big_quiet_call (exact Calls.quiet_of (HcB.out _))
                go_big_quiet_step (fail)
                go_big_quiet_step (fail)
                go_big_quiet_step (fail)
                go_big_quiet_step (fail)
                refine wpQuiet_nil ?_
                intro _ hw'
                obtain ⟨nq, hw''⟩ := hw'
                subst hw''
                have HB3 : Hid (Below w.heap.size w (w2.drewN nq)) := below_drewN HB2.out nq
                generalize w2.drewN nq = w3 at HB3 ⊢
                clear HcA HcB HB2
                go_wp2
                obtain ⟨m3, HM3⟩ : ∃ m3, Hid (m2 - 16 = m3) := ⟨_, rfl⟩
                have hm3 : Hid (m2 = m3 + 16) := by show m2 = m3 + 16; have := HM3.out; omega
                have hm3p : 0 < m3 := by have := HM3.out; omega
                rw [HM3.out]
                go_loopg [0] (m3 + 1) (fun g2 s0 wx => ∃ (kk mm : Nat), Hid (kk + mm = n) ∧ mm < g2 ∧ mm ≤ m3 ∧ 0 < mm ∧ s0 = .slice (some ⟨b, o + kk, none⟩) mm mm ∧ Hid (vu (l.drop kk) = ANS) ∧ Hid (Below w.heap.size w wx))
                case atStart => exact ⟨k + 25, m3, by have := HKM.out; have := hm2.out; have := hm3.out; show k + 25 + m3 = n; omega, by omega, Nat.le_refl _, hm3p, rfl, HV25, HB3⟩
                case round =>
                  obtain ⟨kk, mm, HKK, hmg2, hmm, hmp, rfl, HVK, HBK⟩ := hrel
                  by_cases c32 : 32 < mm
                  · as_aux_lemma =>
                    have c32d : decide ((32 : Int) < (mm : Int)) = true := decide_eq_true (by omega)
                    have s8k : (8 : Int) ≤ (mm : Int) := by omega
                    have s16k : (16 : Int) ≤ (mm : Int) := by omega
                    have s24k : (24 : Int) ≤ (mm : Int) := by omega
                    have s32k : (32 : Int) ≤ (mm : Int) := by omega
                    obtain ⟨A1, B1, C1, D1, P1, Q1, O1, Z2, hA1, hB1, hC1, hD1, ho1, ho2, ho3, hand3, hZ3⟩ := four_words l kk HI.out
                    have HZ3 : Hid (Z2 = 0 → ∀ i, i < 32 → l.getD (kk + i) 0 < 128) := hZ3
                    have HW4 : Hid (∀ (d : Nat) (q : Nat), d + 8 ≤ 32 → Calls Tryd.prog 54 #[.slice (some ⟨b, o + kk + d, none⟩) (mm - d) (mm - d)] (wr.drewN q) fun e w' => e = .returned (.int .u64 (wd l (kk + d))) ∧ ∃ q', w' = (wr.drewN q).drewN q') := fun d q hd => by
                      refine word_any b (o + kk + d) (mm - d) (mm - d) (kk + d) l _ (by omega) (by have := HKK.out; omega) HI.out (fun i hi => ?_)
                      have h := HC.out (kk + d + i) (by have := HKK.out; omega)
                      rw [show o + kk + d + i = o + (kk + d + i) from by omega]
                      exact ((below_drewN HBK.out q).cell (World.block_lt_of_cell? _ _ h)).trans h
                    have Hc0 : Hid (∀ q, Calls Tryd.prog 54 #[.slice (some ⟨b, o + kk, none⟩) mm mm] (wr.drewN q) fun e w' => e = .returned (.int .u64 A1) ∧ ∃ q', w' = (wr.drewN q).drewN q') := fun q => by rw [← hA1]; exact HW4.out 0 q (by omega)
                    have Hc1 : Hid (∀ q, Calls Tryd.prog 54 #[.slice (some ⟨b, o + kk + 8, none⟩) (mm - 8) (mm - 8)] (wr.drewN q) fun e w' => e = .returned (.int .u64 B1) ∧ ∃ q', w' = (wr.drewN q).drewN q') := fun q => by rw [← hB1]; exact HW4.out 8 q (by omega)
                    have Hc2 : Hid (∀ q, Calls Tryd.prog 54 #[.slice (some ⟨b, o + kk + 16, none⟩) (mm - 16) (mm - 16)] (wr.drewN q) fun e w' => e = .returned (.int .u64 C1) ∧ ∃ q', w' = (wr.drewN q).drewN q') := fun q => by rw [← hC1]; exact HW4.out 16 q (by omega)
                    have Hc3 : Hid (∀ q, Calls Tryd.prog 54 #[.slice (some ⟨b, o + kk + 24, none⟩) (mm - 24) (mm - 24)] (wr.drewN q) fun e w' => e = .returned (.int .u64 D1) ∧ ∃ q', w' = (wr.drewN q).drewN q') := fun q => by rw [← hD1]; exact HW4.out 24 q (by omega)
                    clear hA1 hB1 hC1 hD1 hZ3 HW4
                    by_cases hz3 : Z2 = 0
                    · have hz3b : ((Z2 : Int) == 0) = true := by simp [hz3]
                      have HV32 : Hid (vu (l.drop (kk + 32)) = ANS) := (vu_skip 32 kk (by rw [HX.out]; have := HKK.out; omega) (HZ3.out hz3)).symm.trans HVK.out
                      clear hz3
                      go_wp2
                      refine wp_region_quiet_lit (by kernel_rfl) (by kernel_rfl) ?_
                      go_big_quiet_step (fail)
                      go_big_quiet_step (fail)
                      go_big_quiet_step (fail)
                      go_big_quiet_step (fail)
                      go_big_quiet_step (fail)
                      go_big_quiet_want
                      go_big_quiet_op
                      go_big_quiet_call (exact Calls.quiet_of (Hc0.out _))
                      go_big_quiet_step (fail)
                      go_big_quiet_step (fail)
                      go_big_quiet_want
                      go_big_quiet_op
                      go_big_quiet_call (exact Calls.quiet_of (Hc1.out _))
                      go_big_quiet_step (fail)
                      go_big_quiet_step (fail)
                      go_big_quiet_step (fail)
                      go_big_quiet_want
                      go_big_quiet_op
                      go_big_quiet_call (exact Calls.quiet_of (Hc2.out _))
                      go_big_quiet_step (fail)
                      go_big_quiet_step (fail)
                      go_big_quiet_want
                      go_big_quiet_op
                      go_big_quiet_call (exact Calls.quiet_of (Hc3.out _))
                      go_big_quiet_step (fail)
                      go_big_quiet_step (fail)
                      go_big_quiet_step (fail)
                      go_big_quiet_step (fail)
                      go_big_quiet_step (fail)
                      refine wpQuiet_nil ?_
                      intro _ hw'
                      obtain ⟨nq, hw''⟩ := hw'
                      subst hw''
                      have HB4 : Hid (Below w.heap.size w (wr.drewN nq)) := below_drewN HBK.out nq
                      generalize wr.drewN nq = w4 at HB4 ⊢
                      go_wp2
                      go_roundg mm
                      case measure => have := HMG.out; omega
                      case rel => exact ⟨kk + 32, mm - 32, by have := HKK.out; show kk + 32 + (mm - 32) = n; omega, by omega, by omega, by omega, rfl, HV32, HB4⟩
                    · have hz3b : ((Z2 : Int) == 0) = false := by simp [hz3]
                      go_wp2
                      refine wp_region_quiet_lit (by kernel_rfl) (by kernel_rfl) ?_
                      go_big_quiet_step (fail)
                      go_big_quiet_step (fail)
                      go_big_quiet_step (fail)
                      go_big_quiet_step (fail)
                      go_big_quiet_step (fail)
                      go_big_quiet_want
                      go_big_quiet_op
                      go_big_quiet_call (exact Calls.quiet_of (Hc0.out _))
                      go_big_quiet_step (fail)
                      go_big_quiet_step (fail)
                      go_big_quiet_want
                      go_big_quiet_op
                      go_big_quiet_call (exact Calls.quiet_of (Hc1.out _))
                      go_big_quiet_step (fail)
                      go_big_quiet_step (fail)
                      go_big_quiet_step (fail)
                      go_big_quiet_want
                      go_big_quiet_op
                      go_big_quiet_call (exact Calls.quiet_of (Hc2.out _))
                      go_big_quiet_step (fail)
                      go_big_quiet_step (fail)
                      go_big_quiet_want
                      go_big_quiet_op
                      go_big_quiet_call (exact Calls.quiet_of (Hc3.out _))
                      go_big_quiet_step (fail)
                      go_big_quiet_step (fail)
                      go_big_quiet_step (fail)
                      go_big_quiet_step (fail)
                      go_big_quiet_step (fail)
                      refine wpQuiet_nil ?_
                      intro _ hw'
                      obtain ⟨nq, hw''⟩ := hw'
                      subst hw''
                      have HB4 : Hid (Below w.heap.size w (wr.drewN nq)) := below_drewN HBK.out nq
                      generalize wr.drewN nq = w4 at HB4 ⊢
                      go_wp2
                      go_roundg (m' + 1)
                      case measure => have := HMG.out; omega
                      case rel => exact ⟨kk, mm, _, HKK, by have := hm2.out; have := hm3.out; have := HMG.out; omega, by have := hm2.out; have := hm3.out; have := HMG.out; omega, rfl, fun _ => rfl, HVK, HB4⟩
                  · have c32d : decide ((32 : Int) < (mm : Int)) = false := decide_eq_false (by omega)
                    go_wp2
                    go_quiet (fail)
                    have HB4 : Hid (Below w.heap.size w (wr.drewN nq)) := below_drewN HBK.out nq
                    generalize wr.drewN nq = w4 at HB4 ⊢
                    go_wp2
                    go_roundg (m' + 1)
                    case measure => have := HMG.out; omega
                    case rel => exact ⟨kk, mm, _, HKK, by have := hm2.out; have := hm3.out; have := HMG.out; omega, by have := hm2.out; have := hm3.out; have := HMG.out; omega, rfl, fun _ => rfl, HVK, HB4⟩
              · as_aux_lemma =>
                have hz2b : ((Z : Int) == 0) = false := by simp [hz2]
                refine wp_region_quiet_lit (by kernel_rfl) (by kernel_rfl) ?_
                go_big_quiet_step (fail)
                go_big_quiet_step (fail)
                go_big_quiet_step (fail)
                go_big_quiet_step (fail)
                go_big_quiet_step (fail)
                go_big_quiet_want
                go_big_quiet_op
                go_big_quiet_call (exact Calls.quiet_of (HcA.out _))
                go_big_quiet_step (fail)
                go_big_quiet_step (fail)
                go_big_quiet_want
                go_big_quiet_op
                go_big_quiet_call (exact Calls.quiet_of (HcB.out _))
                go_big_quiet_step (fail)
                go_big_quiet_step (fail)
                go_big_quiet_step (fail)
                go_big_quiet_step (fail)
                refine wpQuiet_nil ?_
                intro _ hw'
                obtain ⟨nq, hw''⟩ := hw'
                subst hw''
                have HB3 : Hid (Below w.heap.size w (w2.drewN nq)) := below_drewN HB2.out nq
                generalize w2.drewN nq = w3 at HB3 ⊢
                go_wp2
                go_roundg (m' + 1)
                case measure => have := HMG.out; omega
                case rel => exact ⟨k + 9, m2, _, by have := HKM.out; have := hm2.out; show k + 9 + m2 = n; omega, by have := hm2.out; have := HMG.out; omega, by have := hm2.out; have := HMG.out; omega, rfl, fun _ => rfl, HV9, HB3⟩
            · have c16d : decide ((16 : Int) < (m2 : Int)) = false := decide_eq_false (by omega)
              go_quiet (fail)
              have HB3 : Hid (Below w.heap.size w (w2.drewN nq)) := below_drewN HB2.out nq
              generalize w2.drewN nq = w3 at HB3 ⊢
              go_wp2
              go_roundg (m' + 1)
              case measure => have := HMG.out; omega
              case rel => exact ⟨k + 9, m2, _, by have := HKM.out; have := hm2.out; show k + 9 + m2 = n; omega, by have := hm2.out; have := HMG.out; omega, by have := hm2.out; have := HMG.out; omega, rfl, fun _ => rfl, HV9, HB3⟩
          · have hz1b : ((Z1 : Int) == 0) = false := by simp [hz1]
            go_wp2_with fail
            refine HW1.out.mono ?_
            rintro e w2 ⟨rfl, q, hw2⟩
            have HB2 : Hid (Below w.heap.size w w2) := by rw [hw2]; exact below_drewN HB.out q
            clear hw2 hck
            go_wp2
            go_roundg (m' + 1)
            case measure => omega
            case rel => exact ⟨k + 1, m', _, by have := HKM.out; show k + 1 + m' = n; omega, by omega, by omega, rfl, fun _ => rfl, HV1, HB2⟩
        · have c8i : ¬ (8 : Int) < (m' : Int) := by omega
          by_cases hm0 : m' = 0
          · subst hm0
            go_wp2
            go_roundg 1
            case measure => omega
            case rel => exact ⟨k + 1, 0, _, by have := HKM.out; show k + 1 + 0 = n; omega, by omega, by omega, rfl, fun h => absurd h (by omega), HV1, HB⟩
          · go_wp2
            go_roundg (m' + 1)
            case measure => omega
            case rel => exact ⟨k + 1, m', _, by have := HKM.out; show k + 1 + m' = n; omega, by omega, by omega, rfl, fun _ => rfl, HV1, HB⟩
      · have hT0 := HT.out.below HB.out
        have hcf := hT0.first x.toNat (by omega)
        have HKX : Hid (¬ l.getD k 0 < 128) := by rw [HXK.out]; exact hasc
        rcases lead_walk x (by omega) hx1 with ⟨hcl, h7, h4⟩ | ⟨S, J, lo, hi, hS, hcl, h7, h4, hJ, hlo, hhi⟩
        · as_aux_lemma =>
          have HNO : Hid (vu (l.drop k) = false) := vu_at_none hkl.out HKX.out (by rw [HXK.out]; exact hcl)
          have clo := hT0.lo 15 (by omega)
          have chi := hT0.hi 15 (by omega)
          generalize aLo 15 = lo at clo
          generalize aHi 15 = hi at chi
          generalize ft x.toNat = X at h7 h4 hcf
          clear hcl hT0
          go_wp2
          go_ret
          rw [← HV.out, HNO.out]
          exact ⟨rfl, HB.out.alloc HB.out.size _⟩
        · have clo := hT0.lo J hJ
          have chi := hT0.hi J hJ
          rw [hlo, Nat.mul_comm] at clo
          rw [hhi, Nat.mul_comm] at chi
          have HSM : Hid (vu (l.drop k) = if l.length < k + 1 + (S - 1) ∨ l.getD (k + 1) 0 < lo ∨ hi < l.getD (k + 1) 0 ∨ (((l.drop (k + 1)).take (S - 1)).drop 1).all cont = false then false else vu (l.drop (k + 1 + (S - 1)))) := vu_at_some hkl.out HKX.out (by rw [HXK.out]; exact hcl)
          generalize ft x.toNat = X at h7 h4 hcf
          clear hcl hT0 hlo hhi
          have HLN : Hid (l.length = k + (m' + 1)) := by show _ = _; rw [HX.out]; exact HKM.out.symm
          rcases hS with rfl | rfl | rfl
          · as_aux_lemma =>
            by_cases hm2 : m' < 1
            · have HNO : Hid (vu (l.drop k) = false) := by show _ = _; rw [HSM.out, if_pos (.inl (by rw [HLN.out]; omega))]
              have d1 : decide ((m' : Int) + 1 < 2) = true := decide_eq_true (by omega)
              go_wp2
              go_quiet (fail)
              go_wp2
              go_ret
              rw [← HV.out, HNO.out]
              exact ⟨rfl, below_drewN (HB.out.alloc HB.out.size _) _⟩
            · have d1 : decide ((m' : Int) + 1 < 2) = false := decide_eq_false (by omega)
              have e1 : (1 : Int) < (m' : Int) + 1 := by omega
              obtain ⟨y, Hy⟩ : ∃ y, Hid (l.getD (k + 1) 0 = y) := ⟨_, rfl⟩
              have cy : (wr.alloc (.cells #[.int .u8 lo, .int .u8 hi] 84)).cell? ⟨b, o + k + 1, none⟩ = some (.int .u8 y) := by
                have h := HC.out (k + 1) (by have := HKM.out; omega)
                rw [Hy.out, ← Nat.add_assoc] at h
                exact ((HB.out.alloc HB.out.size _).cell (World.block_lt_of_cell? _ _ h)).trans h
              have bdy : 0 ≤ y ∧ y < 256 := by have := HI.out (k + 1); rw [Hy.out] at this; exact this
              by_cases hy1 : y < lo
              · have HNO : Hid (vu (l.drop k) = false) := by show _ = _; rw [HSM.out, if_pos (.inr (.inl (by rw [Hy.out]; exact hy1)))]
                have d2 : decide (y < lo) = true := decide_eq_true hy1
                clear hy1
                go_wp2
                go_quiet (fail)
                go_wp2
                go_ret
                rw [← HV.out, HNO.out]
                exact ⟨rfl, below_drewN (HB.out.alloc HB.out.size _) _⟩
              have d2 : decide (y < lo) = false := decide_eq_false hy1
              by_cases hy2 : hi < y
              · have HNO : Hid (vu (l.drop k) = false) := by show _ = _; rw [HSM.out, if_pos (.inr (.inr (.inl (by rw [Hy.out]; exact hy2))))]
                have d3 : decide (hi < y) = true := decide_eq_true hy2
                clear hy1 hy2
                go_wp2
                go_quiet (fail)
                go_wp2
                go_ret
                rw [← HV.out, HNO.out]
                exact ⟨rfl, below_drewN (HB.out.alloc HB.out.size _) _⟩
              have d3 : decide (hi < y) = false := decide_eq_false hy2
              have HCT : Hid ((((l.drop (k + 1)).take (2 - 1)).drop 1).all cont = true) := conts1 l k
              have HV1 : Hid (vu (l.drop (k + 2)) = ANS) := by
                have hn' : ¬ (l.length < k + 1 + (2 - 1) ∨ l.getD (k + 1) 0 < lo ∨ hi < l.getD (k + 1) 0 ∨ (((l.drop (k + 1)).take (2 - 1)).drop 1).all cont = false) := by
                  rw [HCT.out, Hy.out, HLN.out]
                  exact fun h => h.elim (fun h => by omega) (fun h => h.elim hy1 (fun h => h.elim hy2 (fun h => by cases h)))
                have h := HSM.out
                rw [if_neg hn'] at h
                exact h.symm.trans HV.out
              clear hy1 hy2
              by_cases hm3 : m' = 1
              · subst hm3
                go_wp2
                go_quiet (fail)
                go_wp2
                go_roundg 1
                case measure => omega
                case rel => exact ⟨k + 2, 0, _, by have := HKM.out; show k + 2 + 0 = n; omega, by omega, by omega, rfl, fun h => absurd h (by omega), HV1, below_drewN (HB.out.alloc HB.out.size _) _⟩
              · have hm4 : 2 ≤ m' := by omega
                go_wp2
                go_quiet (fail)
                go_wp2
                go_roundg m'
                case measure => omega
                case rel => exact ⟨k + 2, m' + 1 - 2, _, by have := HKM.out; show k + 2 + (m' + 1 - 2) = n; omega, by omega, by omega, by first | rfl | (congr 1 <;> omega), fun _ => rfl, HV1, below_drewN (HB.out.alloc HB.out.size _) _⟩
          · as_aux_lemma =>
            by_cases hm2 : m' < 2
            · have HNO : Hid (vu (l.drop k) = false) := by show _ = _; rw [HSM.out, if_pos (.inl (by rw [HLN.out]; omega))]
              have d1 : decide ((m' : Int) + 1 < 3) = true := decide_eq_true (by omega)
              go_wp2
              go_quiet (fail)
              go_wp2
              go_ret
              rw [← HV.out, HNO.out]
              exact ⟨rfl, below_drewN (HB.out.alloc HB.out.size _) _⟩
            · have d1 : decide ((m' : Int) + 1 < 3) = false := decide_eq_false (by omega)
              have e1 : (1 : Int) < (m' : Int) + 1 := by omega
              have e2 : (2 : Int) < (m' : Int) + 1 := by omega
              obtain ⟨y, Hy⟩ : ∃ y, Hid (l.getD (k + 1) 0 = y) := ⟨_, rfl⟩
              have cy : (wr.alloc (.cells #[.int .u8 lo, .int .u8 hi] 84)).cell? ⟨b, o + k + 1, none⟩ = some (.int .u8 y) := by
                have h := HC.out (k + 1) (by have := HKM.out; omega)
                rw [Hy.out, ← Nat.add_assoc] at h
                exact ((HB.out.alloc HB.out.size _).cell (World.block_lt_of_cell? _ _ h)).trans h
              have bdy : 0 ≤ y ∧ y < 256 := by have := HI.out (k + 1); rw [Hy.out] at this; exact this
              obtain ⟨z, Hz⟩ : ∃ z, Hid (l.getD (k + 2) 0 = z) := ⟨_, rfl⟩
              have cz : (wr.alloc (.cells #[.int .u8 lo, .int .u8 hi] 84)).cell? ⟨b, o + k + 2, none⟩ = some (.int .u8 z) := by
                have h := HC.out (k + 2) (by have := HKM.out; omega)
                rw [Hz.out, ← Nat.add_assoc] at h
                exact ((HB.out.alloc HB.out.size _).cell (World.block_lt_of_cell? _ _ h)).trans h
              have bdz : 0 ≤ z ∧ z < 256 := by have := HI.out (k + 2); rw [Hz.out] at this; exact this
              by_cases hy1 : y < lo
              · have HNO : Hid (vu (l.drop k) = false) := by show _ = _; rw [HSM.out, if_pos (.inr (.inl (by rw [Hy.out]; exact hy1)))]
                have d2 : decide (y < lo) = true := decide_eq_true hy1
                clear hy1
                go_wp2
                go_quiet (fail)
                go_wp2
                go_ret
                rw [← HV.out, HNO.out]
                exact ⟨rfl, below_drewN (HB.out.alloc HB.out.size _) _⟩
              have d2 : decide (y < lo) = false := decide_eq_false hy1
              by_cases hy2 : hi < y
              · have HNO : Hid (vu (l.drop k) = false) := by show _ = _; rw [HSM.out, if_pos (.inr (.inr (.inl (by rw [Hy.out]; exact hy2))))]
                have d3 : decide (hi < y) = true := decide_eq_true hy2
                clear hy1 hy2
                go_wp2
                go_quiet (fail)
                go_wp2
                go_ret
                rw [← HV.out, HNO.out]
                exact ⟨rfl, below_drewN (HB.out.alloc HB.out.size _) _⟩
              have d3 : decide (hi < y) = false := decide_eq_false hy2
              have HCT : Hid ((((l.drop (k + 1)).take (3 - 1)).drop 1).all cont = cont z) := by show _ = _; rw [← Hz.out]; exact conts2 l k (by rw [HLN.out]; omega)
              by_cases hz1 : z < 128
              · have HNO : Hid (vu (l.drop k) = false) := by
                  have hct := HCT.out
                  rw [(cont_no z).2 (by omega)] at hct
                  show _ = _; rw [HSM.out, if_pos (.inr (.inr (.inr hct)))]
                have d4 : decide (z < 128) = true := decide_eq_true hz1
                clear hy1 hy2 hz1
                go_wp2
                go_quiet (fail)
                go_wp2
                go_ret
                rw [← HV.out, HNO.out]
                exact ⟨rfl, below_drewN (HB.out.alloc HB.out.size _) _⟩
              have d4 : decide (z < 128) = false := decide_eq_false hz1
              by_cases hz2 : 191 < z
              · have HNO : Hid (vu (l.drop k) = false) := by
                  have hct := HCT.out
                  rw [(cont_no z).2 (by omega)] at hct
                  show _ = _; rw [HSM.out, if_pos (.inr (.inr (.inr hct)))]
                have d5 : decide (191 < z) = true := decide_eq_true hz2
                clear hy1 hy2 hz1 hz2
                go_wp2
                go_quiet (fail)
                go_wp2
                go_ret
                rw [← HV.out, HNO.out]
                exact ⟨rfl, below_drewN (HB.out.alloc HB.out.size _) _⟩
              have d5 : decide (191 < z) = false := decide_eq_false hz2
              have HV1 : Hid (vu (l.drop (k + 3)) = ANS) := by
                have hn' : ¬ (l.length < k + 1 + (3 - 1) ∨ l.getD (k + 1) 0 < lo ∨ hi < l.getD (k + 1) 0 ∨ (((l.drop (k + 1)).take (3 - 1)).drop 1).all cont = false) := by
                  rw [HCT.out, (cont_iff z).2 (by omega), Hy.out, HLN.out]
                  exact fun h => h.elim (fun h => by omega) (fun h => h.elim hy1 (fun h => h.elim hy2 (fun h => by cases h)))
                have h := HSM.out
                rw [if_neg hn'] at h
                exact h.symm.trans HV.out
              clear hy1 hy2 hz1 hz2
              by_cases hm3 : m' = 2
              · subst hm3
                go_wp2
                go_quiet (fail)
                go_wp2
                go_roundg 1
                case measure => omega
                case rel => exact ⟨k + 3, 0, _, by have := HKM.out; show k + 3 + 0 = n; omega, by omega, by omega, rfl, fun h => absurd h (by omega), HV1, below_drewN (HB.out.alloc HB.out.size _) _⟩
              · have hm4 : 3 ≤ m' := by omega
                go_wp2
                go_quiet (fail)
                go_wp2
                go_roundg m'
                case measure => omega
                case rel => exact ⟨k + 3, m' + 1 - 3, _, by have := HKM.out; show k + 3 + (m' + 1 - 3) = n; omega, by omega, by omega, by first | rfl | (congr 1 <;> omega), fun _ => rfl, HV1, below_drewN (HB.out.alloc HB.out.size _) _⟩
          · as_aux_lemma =>
            by_cases hm2 : m' < 3
            · have HNO : Hid (vu (l.drop k) = false) := by show _ = _; rw [HSM.out, if_pos (.inl (by rw [HLN.out]; omega))]
              have d1 : decide ((m' : Int) + 1 < 4) = true := decide_eq_true (by omega)
              go_wp2
              go_quiet (fail)
              go_wp2
              go_ret
              rw [← HV.out, HNO.out]
              exact ⟨rfl, below_drewN (HB.out.alloc HB.out.size _) _⟩
            · have d1 : decide ((m' : Int) + 1 < 4) = false := decide_eq_false (by omega)
              have e1 : (1 : Int) < (m' : Int) + 1 := by omega
              have e2 : (2 : Int) < (m' : Int) + 1 := by omega
              have e3 : (3 : Int) < (m' : Int) + 1 := by omega
              obtain ⟨y, Hy⟩ : ∃ y, Hid (l.getD (k + 1) 0 = y) := ⟨_, rfl⟩
              have cy : (wr.alloc (.cells #[.int .u8 lo, .int .u8 hi] 84)).cell? ⟨b, o + k + 1, none⟩ = some (.int .u8 y) := by
                have h := HC.out (k + 1) (by have := HKM.out; omega)
                rw [Hy.out, ← Nat.add_assoc] at h
                exact ((HB.out.alloc HB.out.size _).cell (World.block_lt_of_cell? _ _ h)).trans h
              have bdy : 0 ≤ y ∧ y < 256 := by have := HI.out (k + 1); rw [Hy.out] at this; exact this
              obtain ⟨z, Hz⟩ : ∃ z, Hid (l.getD (k + 2) 0 = z) := ⟨_, rfl⟩
              have cz : (wr.alloc (.cells #[.int .u8 lo, .int .u8 hi] 84)).cell? ⟨b, o + k + 2, none⟩ = some (.int .u8 z) := by
                have h := HC.out (k + 2) (by have := HKM.out; omega)
                rw [Hz.out, ← Nat.add_assoc] at h
                exact ((HB.out.alloc HB.out.size _).cell (World.block_lt_of_cell? _ _ h)).trans h
              have bdz : 0 ≤ z ∧ z < 256 := by have := HI.out (k + 2); rw [Hz.out] at this; exact this
              obtain ⟨t, Ht⟩ : ∃ t, Hid (l.getD (k + 3) 0 = t) := ⟨_, rfl⟩
              have ct : (wr.alloc (.cells #[.int .u8 lo, .int .u8 hi] 84)).cell? ⟨b, o + k + 3, none⟩ = some (.int .u8 t) := by
                have h := HC.out (k + 3) (by have := HKM.out; omega)
                rw [Ht.out, ← Nat.add_assoc] at h
                exact ((HB.out.alloc HB.out.size _).cell (World.block_lt_of_cell? _ _ h)).trans h
              have bdt : 0 ≤ t ∧ t < 256 := by have := HI.out (k + 3); rw [Ht.out] at this; exact this
              by_cases hy1 : y < lo
              · have HNO : Hid (vu (l.drop k) = false) := by show _ = _; rw [HSM.out, if_pos (.inr (.inl (by rw [Hy.out]; exact hy1)))]
                have d2 : decide (y < lo) = true := decide_eq_true hy1
                clear hy1
                go_wp2
                go_quiet (fail)
                go_wp2
                go_ret
                rw [← HV.out, HNO.out]
                exact ⟨rfl, below_drewN (HB.out.alloc HB.out.size _) _⟩
              have d2 : decide (y < lo) = false := decide_eq_false hy1
              by_cases hy2 : hi < y
              · have HNO : Hid (vu (l.drop k) = false) := by show _ = _; rw [HSM.out, if_pos (.inr (.inr (.inl (by rw [Hy.out]; exact hy2))))]
                have d3 : decide (hi < y) = true := decide_eq_true hy2
                clear hy1 hy2
                go_wp2
                go_quiet (fail)
                go_wp2
                go_ret
                rw [← HV.out, HNO.out]
                exact ⟨rfl, below_drewN (HB.out.alloc HB.out.size _) _⟩
              have d3 : decide (hi < y) = false := decide_eq_false hy2
              have HCT : Hid ((((l.drop (k + 1)).take (4 - 1)).drop 1).all cont = (cont z && cont t)) := by show _ = _; rw [← Hz.out, ← Ht.out]; exact conts3 l k (by rw [HLN.out]; omega)
              by_cases hz1 : z < 128
              · have HNO : Hid (vu (l.drop k) = false) := by
                  have hct := HCT.out
                  rw [(cont_no z).2 (by omega), Bool.false_and] at hct
                  show _ = _; rw [HSM.out, if_pos (.inr (.inr (.inr hct)))]
                have d4 : decide (z < 128) = true := decide_eq_true hz1
                clear hy1 hy2 hz1
                go_wp2
                go_quiet (fail)
                go_wp2
                go_ret
                rw [← HV.out, HNO.out]
                exact ⟨rfl, below_drewN (HB.out.alloc HB.out.size _) _⟩
              have d4 : decide (z < 128) = false := decide_eq_false hz1
              by_cases hz2 : 191 < z
              · have HNO : Hid (vu (l.drop k) = false) := by
                  have hct := HCT.out
                  rw [(cont_no z).2 (by omega), Bool.false_and] at hct
                  show _ = _; rw [HSM.out, if_pos (.inr (.inr (.inr hct)))]
                have d5 : decide (191 < z) = true := decide_eq_true hz2
                clear hy1 hy2 hz1 hz2
                go_wp2
                go_quiet (fail)
                go_wp2
                go_ret
                rw [← HV.out, HNO.out]
                exact ⟨rfl, below_drewN (HB.out.alloc HB.out.size _) _⟩
              have d5 : decide (191 < z) = false := decide_eq_false hz2
              by_cases ht1 : t < 128
              · have HNO : Hid (vu (l.drop k) = false) := by
                  have hct := HCT.out
                  rw [(cont_no t).2 (by omega), Bool.and_false] at hct
                  show _ = _; rw [HSM.out, if_pos (.inr (.inr (.inr hct)))]
                have d6 : decide (t < 128) = true := decide_eq_true ht1
                clear hy1 hy2 hz1 hz2 ht1
                go_wp2
                go_quiet (fail)
                go_wp2
                go_ret
                rw [← HV.out, HNO.out]
                exact ⟨rfl, below_drewN (HB.out.alloc HB.out.size _) _⟩
              have d6 : decide (t < 128) = false := decide_eq_false ht1
              by_cases ht2 : 191 < t
              · have HNO : Hid (vu (l.drop k) = false) := by
                  have hct := HCT.out
                  rw [(cont_no t).2 (by omega), Bool.and_false] at hct
                  show _ = _; rw [HSM.out, if_pos (.inr (.inr (.inr hct)))]
                have d7 : decide (191 < t) = true := decide_eq_true ht2
                clear hy1 hy2 hz1 hz2 ht1 ht2
                go_wp2
                go_quiet (fail)
                go_wp2
                go_ret
                rw [← HV.out, HNO.out]
                exact ⟨rfl, below_drewN (HB.out.alloc HB.out.size _) _⟩
              have d7 : decide (191 < t) = false := decide_eq_false ht2
              have HV1 : Hid (vu (l.drop (k + 4)) = ANS) := by
                have hn' : ¬ (l.length < k + 1 + (4 - 1) ∨ l.getD (k + 1) 0 < lo ∨ hi < l.getD (k + 1) 0 ∨ (((l.drop (k + 1)).take (4 - 1)).drop 1).all cont = false) := by
                  rw [HCT.out, (cont_iff z).2 (by omega), (cont_iff t).2 (by omega), Hy.out, HLN.out]
                  exact fun h => h.elim (fun h => by omega) (fun h => h.elim hy1 (fun h => h.elim hy2 (fun h => by cases h)))
                have h := HSM.out
                rw [if_neg hn'] at h
                exact h.symm.trans HV.out
              clear hy1 hy2 hz1 hz2 ht1 ht2
              by_cases hm3 : m' = 3
              · subst hm3
                go_wp2
                go_quiet (fail)
                go_wp2
                go_roundg 1
                case measure => omega
                case rel => exact ⟨k + 4, 0, _, by have := HKM.out; show k + 4 + 0 = n; omega, by omega, by omega, rfl, fun h => absurd h (by omega), HV1, below_drewN (HB.out.alloc HB.out.size _) _⟩
              · have hm4 : 4 ≤ m' := by omega
                go_wp2
                go_quiet (fail)
                go_wp2
                go_roundg m'
                case measure => omega
                case rel => exact ⟨k + 4, m' + 1 - 4, _, by have := HKM.out; show k + 4 + (m' + 1 - 4) = n; omega, by omega, by omega, by first | rfl | (congr 1 <;> omega), fun _ => rfl, HV1, below_drewN (HB.out.alloc HB.out.size _) _⟩
    · obtain rfl : m = 0 := by omega
      have HE : Hid (vu (l.drop k) = true) := vu_end l k (by rw [HX.out]; have := HKM.out; omega)
      go_wp2
      go_ret
      rw [← HV.out, HE.out]
      exact ⟨rfl, HB.out⟩
end Go.Proofs.Qxb6605662aDoor
