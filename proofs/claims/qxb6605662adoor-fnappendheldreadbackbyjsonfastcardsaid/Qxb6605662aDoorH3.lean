import Derived.Test.Qxb6605662aDoorH2
namespace Go.Proofs.Qxb6605662aDoor
open Go.RowKit

def CL (cp : Option Addr) (n cc : Nat) (xs : List Int) (w w1 : World) : Prop :=
  Below w.heap.size w w1 ∧ (∀ i, i < n → ∃ g0, cp = some ⟨g0, 0, none⟩ ∧ w1.cell? ⟨g0, i, none⟩ = some (.int .u8 (xs.getD i 0))) ∧
    ∃ v2 w2, (Builtin.append_ #[22, 9] 22 #[.slice cp n cc, .string preB]).run Tryd.prog w1 = .ok v2 w2 ∧ w2.ownsRow w1.heap.size 5 1 v2 (n + 6) (xs.map (Value.int .u8) ++ Lib.strCells preB) ∧ Below w1.heap.size w1 w2

theorem zzb_small (p : Option Addr) (n c : Nat) (u : Int) (w : World) (hn : n ≤ 1048576) : Calls Tryd.prog 18 #[.slice p n c, .int .u64 u] w fun e w' => e = .returned (.bool true) ∧ w' = w := by
  go_enter Tryd.func18, Tryd.ntmps18
  go_wp2
  go_ret
  exact ⟨rfl, rfl⟩

theorem upd_drewN_below {w : World} (q : Nat) : Below w.heap.size w (w.drewN q) := ⟨rfl, rfl, rfl, Nat.le_refl _, fun _ _ => rfl⟩
theorem conv_at (W : World) (g n M C R s q : Nat) (xs : List Int) (hx : xs.length = M) (hsq : s ≤ q) (hq : q ≤ M) (hD : Dat W (some ⟨g, n, none⟩) M xs R) :
    (convert 22 9 (.slice (some ⟨g, n + s, none⟩) (q - s) (C - s))).run Tryd.prog W = .ok (.string (strOfNums (sub xs s q))) W :=
  run_convert_bytes_arg (P := Tryd.prog) W 22 5 Tryd.underlying22 Tryd.underlying5 g (n + s) (q - s) (C - s) (sub xs s q) (sub_length xs s q hsq (by omega)) (fun i hi => by
    obtain ⟨b', o', hp', _, hcell⟩ := hD (s + i) (by omega)
    simp only [Option.some.injEq, Addr.mk.injEq, and_true] at hp'
    obtain ⟨rfl, rfl⟩ := hp'
    rw [sub_at xs s q i hi, Nat.add_assoc]
    exact hcell) 9 Tryd.underlying9

set_option maxRecDepth 100000 in
set_option maxHeartbeats 4000000 in
theorem held_law (p cp : Option Addr) (n c cc u : Nat) (xs : List Int) (w : World) (hn : n ≤ 1048576) (hu : u < 18446744073709551616) (hx : xs.length = n)
    (hcl : Calls Tryd.prog 7 #[.slice p n c] w fun e w1 => e = .returned (.slice cp n cc) ∧ CL cp n cc xs w w1)
    (htab : ∀ w1, Below w.heap.size w w1 → Lib.TabIs Tryd.prog w1 powName .u64 Lib.pow10Tab) :
    Calls Tryd.prog 5 #[.slice p n c, .int .u64 u] w fun e w' => e = .returned (.bool true) ∧ Below w.heap.size w w' := by
  have HCL : Hid (Calls Tryd.prog 7 #[.slice p n c] w fun e w1 => e = .returned (.slice cp n cc) ∧ CL cp n cc xs w w1) := hcl
  have HTAB : Hid (∀ w1, Below w.heap.size w w1 → Lib.TabIs Tryd.prog w1 powName .u64 Lib.pow10Tab) := htab
  have HX : Hid (xs.length = n) := hx
  have hd1 := Lib.nDigits_pos u
  have hd20 : Lib.nDigits u ≤ 20 := nDigits_le 19 u (by
    have : (10 : Nat) ^ (19 + 1) = 100000000000000000000 := by decide
    omega)
  clear hcl htab hx
  obtain ⟨d, HD⟩ : ∃ d, Hid (Lib.nDigits u = d) := ⟨_, rfl⟩
  rw [HD.out] at hd1 hd20
  have hdl : ∀ W, Calls Tryd.prog 20 #[.int .u64 u] W fun e w' => e = .returned (.int .i64 d) ∧ w' = W := by
    intro W; have := decLen_any u W hu; rw [HD.out] at this; exact this
  have HDL : Hid (∀ W, Calls Tryd.prog 20 #[.int .u64 u] W fun e w' => e = .returned (.int .i64 d) ∧ w' = W) := hdl
  clear hdl
  go_enter Tryd.func5, Tryd.ntmps5
  go_wp2_with fail
  refine (zzb_small p n c u w hn).mono ?_
  rintro e w0 ⟨rfl, hw⟩; obtain rfl := hw.symm
  go_wp2_with fail
  refine HCL.out.mono ?_
  rintro e w1 ⟨rfl, hB1, hcells, happ⟩
  have hheld := held_any (.slice cp n cc) n u (xs.map (Value.int .u8)) w1 hu hn happ (fun w2 hb => HTAB.out w2 (hB1.trans (hb.mono hB1.size)))
  have HH : Hid (Calls Tryd.prog 19 #[.slice cp n cc, .int .u64 u] w1 fun e w' => HeldOut w1.heap.size n u (xs.map (Value.int .u8)) w1 e w') := hheld
  have HB1 : Hid (Below w.heap.size w w1) := hB1
  have HCE : Hid (∀ i, i < n → ∃ g0, cp = some ⟨g0, 0, none⟩ ∧ w1.cell? ⟨g0, i, none⟩ = some (.int .u8 (xs.getD i 0))) := hcells
  clear happ hheld hB1 hcells
  go_wp2_with fail
  refine HH.out.mono ?_
  rintro e w2 ⟨v', rfl, ho, hB2⟩
  obtain ⟨N, HN⟩ : ∃ N, Hid (n + 6 + Lib.nDigits u + 14 = N) := ⟨_, rfl⟩
  rw [HN.out, List.append_assoc, List.append_assoc, ← List.append_assoc (Lib.strCells preB), line_cells, ← List.map_append] at ho
  have hNN : N = n + (20 + d) := by have := HN.out; rw [HD.out] at this; omega
  have hN1 : n + 20 < N := by omega
  have hN2 : N ≤ 1048576 + 40 := by omega
  have HNN : Hid (N = n + (20 + d)) := hNN
  obtain ⟨g, cap, hv, hBg, hcap1, hcap2⟩ : ∃ g cap, v' = .slice (some ⟨g, 0, none⟩) N cap ∧ w1.heap.size ≤ g ∧ N ≤ cap ∧ cap ≤ maxLen := by
    rcases ho.2 with ⟨h, h0⟩ | ⟨g, cap, cur, h1, h2, _, h3, h4, _, _⟩
    · omega
    · exact ⟨g, cap, h1, h2, h3, h4⟩
  subst hv
  unfold maxLen at hcap2
  have HO : Hid (∀ j, j < N → w2.cell? ⟨g, j, none⟩ = some (.int .u8 ((xs ++ lineL u).getD j 0))) := by
    intro j hj
    have h := ho.cellAt j (by omega)
    have hl : (xs ++ lineL u).length = N := by rw [List.length_append, HX.out, lineL_length, HD.out, hNN]
    rw [h, List.getElem?_map, List.getD_eq_getElem?_getD, List.getElem?_eq_getElem (by omega)]
    rfl
  have hg2 : g < w2.heap.size := by
    have h := HO.out 0 (by omega)
    exact World.block_lt_of_cell? _ _ h
  have HB2 : Hid (Below w1.heap.size w1 w2) := hB2
  clear ho hB2 hNN
  have hlen : ((N : Int) == (n : Int) + 20 + d) = true := beq_iff_eq.2 (by have := HNN.out; omega)
  have hlen2 : ((N : Int) != (n : Int) + 20 + d) = false := by simp; have := HNN.out; omega
  go_wp2_with fail
  refine (HDL.out _).mono ?_
  rintro e w2' ⟨rfl, hw⟩; obtain rfl := hw.symm
  clear hlen
  go_wp2_with fail
  go_loopg [6] n (fun gk i wr => ∃ (j q : Nat), j ≤ n ∧ n - j ≤ gk ∧ i = .int .i64 j ∧ wr = w2.drewN q)
  case atStart => exact ⟨0, 0, by omega, by omega, rfl, rfl⟩
  case round =>
    obtain ⟨j, q, hj, hgk, rfl, rfl⟩ := hrel
    by_cases hjn : j < n
    · obtain ⟨g0, hcp, hc1⟩ := HCE.out j hjn
      subst hcp
      have hg0 : g0 < w1.heap.size := World.block_lt_of_cell? _ _ hc1
      obtain ⟨x, HXJ⟩ : ∃ x, Hid (xs.getD j 0 = x) := ⟨_, rfl⟩
      rw [HXJ.out] at hc1
      have hc2 : w2.cell? ⟨g0, j, none⟩ = some (.int .u8 x) := (HB2.out.cell (p := ⟨g0, j, none⟩) hg0).trans hc1
      have hc3 : w2.cell? ⟨g, j, none⟩ = some (.int .u8 x) := by
        have h := HO.out j (by omega)
        rw [getD_left xs _ j (by rw [HX.out]; exact hjn), HXJ.out] at h
        exact h
      have hji : (j : Int) < n := by omega
      have hji2 : (j : Int) < N := by omega
      go_wp2
      go_quiet (fail)
      go_wp2
      go_roundg (n - (j + 1))
      case measure => omega
      case rel => exact ⟨j + 1, _, by omega, Nat.le_refl _, by go_num, rfl⟩
    · have hji : ¬ (j : Int) < n := by omega
      go_wp2_with fail
      obtain ⟨M, HM⟩ : ∃ M, Hid (N - n = M) := ⟨_, rfl⟩
      obtain ⟨C, HC⟩ : ∃ C, Hid (cap - n = C) := ⟨_, rfl⟩
      obtain ⟨R, HRR⟩ : ∃ R, Hid (w2.heap.size = R) := ⟨_, rfl⟩
      have hMd : Hid (M = 20 + d) := by have h1 := HM.out; have h2 := HNN.out; show _ = _; omega
      have hM1 : 20 < M := by have := hMd.out; omega
      have hM2 : M ≤ 2147483648 := by have := hMd.out; omega
      have hMC : M ≤ C := by have h1 := HM.out; have h2 := HC.out; omega
      have hC2 : C ≤ 9223372036854775807 := by have h2 := HC.out; omega
      have hxl : Hid ((lineL u).length = M) := by show _ = _; rw [lineL_length, HD.out, hMd.out]
      rw [HM.out, HC.out, HRR.out]
      generalize hW : (w2.drewN q).alloc (.cells #[.slice (some ⟨g, n, none⟩) M C, .int .i64 0, .bool false, .bool false] 32) = W3
      have hB3 : Below w2.heap.size w2 W3 := by rw [← hW]; exact (upd_drewN_below q).alloc (Nat.le_refl _) _
      have hS3 : RS W3 R (some ⟨g, n, none⟩) M C (some 0) false := by
        refine RS.mk_some (by omega) ?_
        rw [← hW, ← HRR.out]
        exact heap_alloc_new (w2.drewN q) _
      have hD3 : Dat W3 (some ⟨g, n, none⟩) M (lineL u) R := by
        intro i hi
        refine ⟨g, n, rfl, by have := HRR.out; omega, ?_⟩
        rw [hB3.cell (p := ⟨g, n + i, none⟩) hg2, HO.out (n + i) (by have := HM.out; omega), show n + i = xs.length + i by rw [HX.out], getD_right]
      have hV3 : VOK W3 R M C (some ⟨g, n, none⟩) (lineL u) := fun w1 b o s q _ _ _ _ h5 => by rw [line_asc] at h5; cases h5
      clear hW
      have HB3 : Hid (Below w2.heap.size w2 W3) := hB3
      have HD3 : Hid (Dat W3 (some ⟨g, n, none⟩) M (lineL u) R) := hD3
      have HV3 : Hid (VOK W3 R M C (some ⟨g, n, none⟩) (lineL u)) := hV3
      have h1 := objectA R M C (some ⟨g, n, none⟩) (lineL u) (some 0) false W3 hM2 hxl.out hS3 hD3
      rw [line0 u] at h1
      clear hB3 hS3 hD3 hV3
      refine h1.mono ?_
      clear h1
      rintro e W4 ⟨rfl, hS4, hG4⟩
      have h2 := keyA R M C (some ⟨g, n, none⟩) (lineL u) (some 1) true W4 hM2 hMC hC2 hxl.out hS4 (HD3.out.grown hG4) (HV3.out.grown hG4)
      have HK2 : Hid (Calls Tryd.prog 22 #[.pointer (some ⟨R, 0, none⟩)] W4 fun e w' => KeyOut (lineL u) R M C (some ⟨g, n, none⟩) (some 1) true W4 e w') := h2
      have HG4 : Hid (W3.grownBy W4 (some R)) := hG4
      clear h2 hS4 hG4
      go_wp2_with fail
      refine HK2.out.mono ?_
      rintro e W5 ⟨⟨v, he, hv⟩, hS5, hG5⟩
      rw [(line1 u).1] at he
      rw [(line1 u).2] at hS5
      obtain ⟨_, _, b', o', hp', hv'⟩ := hv 2 4 6 (line1 u).1
      simp only [Option.some.injEq, Addr.mk.injEq, and_true] at hp'
      obtain ⟨rfl, rfl⟩ := hp'
      subst hv' he
      have hG05 := HG4.out.trans hG5
      have kc1 := conv_at W5 g n M C R 2 4 (lineL u) hxl.out (by omega) (by omega) (HD3.out.grown hG05)
      rw [line_id] at kc1
      change (convert 22 9 (.slice (some ⟨g, n + 2, none⟩) 2 (C - 2))).run Tryd.prog W5 = .ok (.string ⟨#[105, 100]⟩) W5 at kc1
      have HG5 : Hid (W3.grownBy W5 (some R)) := hG05
      have h3 := uintA R M C (some ⟨g, n, none⟩) (lineL u) (some 6) false W5 hM2 hxl.out hS5 (HD3.out.grown hG05)
      unfold uiV uiS at h3
      rw [line2 u hu] at h3
      have HK3 : Hid (Calls Tryd.prog 23 #[.pointer (some ⟨R, 0, none⟩)] W5 fun e w' => e = .returned (.int .u64 u) ∧ RS w' R (some ⟨g, n, none⟩) M C (some (6 + Lib.nDigits u)) false ∧ W5.grownBy w' (some R)) := h3
      clear h3 hS5 hG5 hG05 hv
      go_wp2_with fail
      refine HK3.out.mono ?_
      rintro e W6 ⟨rfl, hS6, hG6⟩
      have hG06 := HG5.out.trans hG6
      have h4 := keyA R M C (some ⟨g, n, none⟩) (lineL u) (some (6 + Lib.nDigits u)) false W6 hM2 hMC hC2 hxl.out hS6 (HD3.out.grown hG06) (HV3.out.grown hG06)
      have HK4 : Hid (Calls Tryd.prog 22 #[.pointer (some ⟨R, 0, none⟩)] W6 fun e w' => KeyOut (lineL u) R M C (some ⟨g, n, none⟩) (some (6 + Lib.nDigits u)) false W6 e w') := h4
      have HG6 : Hid (W3.grownBy W6 (some R)) := hG06
      clear h4 hS6 hG6 hG06 kc1
      go_wp2_with fail
      refine HK4.out.mono ?_
      rintro e W7 ⟨⟨v, he, hv⟩, hS7, hG7⟩
      rw [(line3 u).1] at he
      rw [(line3 u).2] at hS7
      obtain ⟨_, _, b', o', hp', hv'⟩ := hv _ _ _ (line3 u).1
      simp only [Option.some.injEq, Addr.mk.injEq, and_true] at hp'
      obtain ⟨rfl, rfl⟩ := hp'
      subst hv' he
      have hG07 := HG6.out.trans hG7
      have kc1 := conv_at W7 g n M C R (6 + Lib.nDigits u + 2) (6 + Lib.nDigits u + 6) (lineL u) hxl.out (by omega) (by rw [HD.out]; have := hMd.out; omega) (HD3.out.grown hG07)
      rw [line_held] at kc1
      change (convert 22 9 (.slice (some ⟨g, n + (6 + Lib.nDigits u + 2), none⟩) (6 + Lib.nDigits u + 6 - (6 + Lib.nDigits u + 2)) (C - (6 + Lib.nDigits u + 2)))).run Tryd.prog W7 = .ok (.string ⟨#[104, 101, 108, 100]⟩) W7 at kc1
      rw [HD.out] at hS7 kc1 ⊢
      rw [show 6 + d + 6 - (6 + d + 2) = 4 by omega] at kc1 ⊢
      generalize 6 + d + 2 = S at kc1 ⊢
      have c1 := hS7.rd.c1
      have c2 := hS7.rd.c2
      have HG7 : Hid (W3.grownBy W7 (some R)) := hG07
      have hdat := HD3.out.grown hG07
      have hcell : ∀ i, i < 6 → W7.cell? ⟨g, n + (M - 6) + i, none⟩ = some (.int .u8 (postL.getD (8 + i) 0)) := by
        intro i hi
        obtain ⟨b', o', hp', _, hc⟩ := hdat (M - 6 + i) (by omega)
        simp only [Option.some.injEq, Addr.mk.injEq, and_true] at hp'
        obtain ⟨rfl, rfl⟩ := hp'
        rw [Nat.add_assoc, hc]
        have h := lineL_post u (8 + i)
        rw [HD.out] at h
        rw [← h, show M - 6 + i = 6 + d + (8 + i) by have := hMd.out; omega]
      have r0 : W7.cell? ⟨g, n + (M - 6), none⟩ = some (.int .u8 116) := hcell 0 (by omega)
      have r1 : W7.cell? ⟨g, n + (M - 6) + 1, none⟩ = some (.int .u8 114) := hcell 1 (by omega)
      have r2 : W7.cell? ⟨g, n + (M - 6) + 2, none⟩ = some (.int .u8 117) := hcell 2 (by omega)
      have r3 : W7.cell? ⟨g, n + (M - 6) + 3, none⟩ = some (.int .u8 101) := hcell 3 (by omega)
      have r4 : W7.cell? ⟨g, n + (M - 6) + 4, none⟩ = some (.int .u8 125) := hcell 4 (by omega)
      have r5 : W7.cell? ⟨g, n + (M - 6) + 5, none⟩ = some (.int .u8 10) := hcell 5 (by omega)
      have hM6 : M - (M - 6) = 6 := by omega
      have hlenr : ((6 + d + 8 : Nat) : Int) = (M : Int) - 6 := by have := hMd.out; omega
      rw [hlenr] at c1
      clear hS7 hG7 hG07 hv hdat hcell hlenr
      go_wp2
      go_ret
      have hB02 : Below w.heap.size w w2 := HB1.out.trans (HB2.out.mono HB1.out.size)
      have hB03 : Below w.heap.size w W3 := hB02.trans (HB3.out.mono hB02.size)
      exact ⟨rfl, hB03.grown HG7.out hB03.size (fun k hk => by cases hk; rw [← HRR.out]; exact hB02.size)⟩

theorem law_nil (u : Nat) (w : World) (hu : u < 18446744073709551616) (htab : ∀ w1, Below w.heap.size w w1 → Lib.TabIs Tryd.prog w1 powName .u64 Lib.pow10Tab) :
    Calls Tryd.prog 5 #[.slice none 0 0, .int .u64 u] w fun e w' => e = .returned (.bool true) ∧ Below w.heap.size w w' := by
  refine held_law none none 0 0 0 u [] w (by omega) hu rfl ((clone_nil w).mono fun e w1 ⟨he, hw⟩ => ⟨he, ?_⟩) htab
  subst hw
  obtain ⟨i5, hi, hz0, hz1, hz2⟩ := info_parts Tryd.info5
  obtain ⟨v2, w2, h1, h2, h3, _⟩ := Lib.run_append_own_string (P := Tryd.prog) w1 w1.heap.size 22 9 22 5 i5 Tryd.underlying22 Tryd.underlying9 hi hz0 hz1 hz2 (.slice none 0 0) 0 [] (World.ownsRow_nil _ _ _ _) preB (by decide) (by decide) (Nat.le_refl _)
  refine ⟨Below.refl _ _, fun i hi => absurd hi (by omega), v2, w2, h1, h2, (Below.refl _ _).grown h3 (Nat.le_refl _) (fun k hk => by cases hk)⟩
theorem law_some (a : Addr) (n c u : Nat) (xs : List Int) (w : World) (hn : n ≤ 1048576) (hu : u < 18446744073709551616) (hx : xs.length = n) (hc : ∀ i, i < n → w.cell? (a.add i) = some (.int .u8 (xs.getD i 0)))
    (htab : ∀ w1, Below w.heap.size w w1 → Lib.TabIs Tryd.prog w1 powName .u64 Lib.pow10Tab) :
    Calls Tryd.prog 5 #[.slice (some a) n c, .int .u64 u] w fun e w' => e = .returned (.bool true) ∧ Below w.heap.size w w' := by
  refine held_law (some a) (some ⟨w.heap.size, 0, none⟩) n c n u xs w hn hu hx ((clone_some a n c xs w hn hx hc).mono fun e w1 ⟨he, ho, hb⟩ => ⟨he, hb, ?_, ?_⟩) htab
  · intro i hi
    refine ⟨w.heap.size, rfl, ?_⟩
    rw [ho.cellAt i (by omega), List.getElem?_map, List.getElem?_eq_getElem (by omega), List.getD_eq_getElem?_getD, List.getElem?_eq_getElem (by omega)]
    rfl
  · exact append_fresh w.heap.size n (xs.map (Value.int .u8)) w1 22 preB (by simpa using hx) (fun j v hj => by
      have hjn : j < n := by have := (List.getElem?_eq_some_iff.1 hj).1; simp at this; omega
      rw [Go.WideShapes.add_plain, Nat.zero_add, ho.cellAt j (by omega)]
      exact hj) (by decide) (by have : preB.size = 6 := rfl; omega)
set_option maxHeartbeats 400000 in
theorem law_big (p : Option Addr) (n c : Nat) (u : Int) (w : World) (hn : 1048576 < n) :
    Calls Tryd.prog 5 #[.slice p n c, .int .u64 u] w fun e w' => e = .returned (.bool true) ∧ Below w.heap.size w w' := by
  go_enter Tryd.func5, Tryd.ntmps5
  go_wp2
  go_ret
  exact ⟨rfl, Below.refl _ _⟩
end Go.Proofs.Qxb6605662aDoor
