import Derived.Test.Qxb6605662aDoorM1
import Derived.Test.Qxb6605662aDoorD0
import Derived.OwnWalk
set_option linter.unusedVariables false
namespace Go.Proofs.Qxb6605662aDoor
open Go.RowKit

theorem results_tmp4 {fn : Func} {t u v x : Tmp} (h : fn.results = #[.tmp t, .tmp u, .tmp v, .tmp x]) (tmps : Array Value) (P : Program) (w : World) :
    (results fn tmps).run P w = .ok (.tuple #[tmps.getD t undef, tmps.getD u undef, tmps.getD v undef, tmps.getD x undef]) w := by
  simp [results, h]
theorem results_tmp5 {fn : Func} {t u v x y : Tmp} (h : fn.results = #[.tmp t, .tmp u, .tmp v, .tmp x, .tmp y]) (tmps : Array Value) (P : Program) (w : World) :
    (results fn tmps).run P w = .ok (.tuple #[tmps.getD t undef, tmps.getD u undef, tmps.getD v undef, tmps.getD x undef, tmps.getD y undef]) w := by
  simp [results, h]

/-! ### the model's scanner -/
theorem isws_any (x : Int) (w : World) : Calls Tryd.prog 38 #[.int .u8 x] w fun e w' => e = .returned (.bool (ws x)) ∧ w' = w := by
  have HW : Hid (ws x = (x == 32 || x == 9 || x == 10 || x == 13)) := rfl
  generalize ws x = W at HW ⊢
  by_cases h1 : x = 32
  · subst h1
    go_enter Tryd.func38, Tryd.ntmps38
    go_wp2
    go_ret
    exact ⟨by rw [HW.out]; rfl, rfl⟩
  · have g1 : (x == 32) = false := beq_eq_false_iff_ne.2 h1
    by_cases h2 : x = 9
    · subst h2
      go_enter Tryd.func38, Tryd.ntmps38
      go_wp2
      go_ret
      exact ⟨by rw [HW.out]; rfl, rfl⟩
    · have g2 : (x == 9) = false := beq_eq_false_iff_ne.2 h2
      by_cases h3 : x = 10
      · subst h3
        go_enter Tryd.func38, Tryd.ntmps38
        go_wp2
        go_ret
        exact ⟨by rw [HW.out]; rfl, rfl⟩
      · have g3 : (x == 10) = false := beq_eq_false_iff_ne.2 h3
        rw [g1, g2, g3] at HW
        clear h1 h2 h3
        go_enter Tryd.func38, Tryd.ntmps38
        go_wp2
        go_ret
        exact ⟨by rw [HW.out]; rfl, rfl⟩
/-- a string's token, by what plain reads -/
def tkQ (j : Nat) : Option (Nat × Nat) → Nat × Nat × Nat × Nat
  | some (s, q) => (7, s, q, q + 1)
  | none => (0, j, j, j)
def plQ (xs : List Int) (j : Nat) : Option Nat → Option (Nat × Nat)
  | some q => if vu (sub xs (j + 1) q) = true then some (j + 1, q) else none
  | none => none
theorem plR_at {xs : List Int} {j : Nat} (h1 : j < xs.length) (h2 : xs.getD j 0 = 34) : plR xs j = plQ xs j (sc xs (j + 1)) := by
  unfold plR plQ
  rw [if_pos ⟨h1, h2⟩]
  cases sc xs (j + 1) <;> rfl
/-- the token that begins at j -/
def tkJ (xs : List Int) (j : Nat) : Nat × Nat × Nat × Nat :=
  if j < xs.length then
    if xs.getD j 0 = 123 then (1, j, j + 1, j + 1) else if xs.getD j 0 = 125 then (2, j, j + 1, j + 1) else if xs.getD j 0 = 91 then (3, j, j + 1, j + 1)
    else if xs.getD j 0 = 93 then (4, j, j + 1, j + 1) else if xs.getD j 0 = 58 then (5, j, j + 1, j + 1) else if xs.getD j 0 = 44 then (6, j, j + 1, j + 1)
    else if xs.getD j 0 = 34 then tkQ j (plR xs j)
    else if isd (xs.getD j 0) then (8, j, j + dN xs j, j + dN xs j) else (0, j, j, j)
  else (9, j, j, j)
def tk (xs : List Int) (p : Nat) : Nat × Nat × Nat × Nat := tkJ xs (sk xs p)
def tkV (t : Nat × Nat × Nat × Nat) : Value := .tuple #[.int .i64 t.1, .int .i64 t.2.1, .int .i64 t.2.2.1, .int .i64 t.2.2.2]
/-- the data that the model reads -/
structure MD (w : World) (pa : Option Addr) (n cap : Nat) (xs : List Int) : Prop where
  hn : n ≤ 2147483648
  hcap : n ≤ cap
  hcb : cap ≤ 9223372036854775807
  hx : xs.length = n
  hb : InB xs
  hc : Cells w pa n xs
theorem dN_snoc (xs : List Int) : ∀ (m k : Nat), (∀ i, i < m → k + i < xs.length ∧ isd (xs.getD (k + i) 0) = true) → dN xs k = m + dN xs (k + m) := by
  intro m
  induction m with
  | zero => intro k _; simp
  | succ m ih =>
    intro k h
    have h0 := h 0 (by omega)
    rw [dN_step (by simpa using h0.1) (by simpa using h0.2), ih (k + 1) (fun i hi => by have := h (i + 1) (by omega); rw [show k + 1 + i = k + (i + 1) by omega]; exact this), show k + 1 + m = k + (m + 1) by omega]
    omega
set_option maxHeartbeats 8000000 in
set_option maxRecDepth 100000 in
theorem tok_any (pa : Option Addr) (n cap : Nat) (xs : List Int) (p : Nat) (w : World) (hM : MD w pa n cap xs) (hp : p ≤ n) :
    Calls Tryd.prog 24 #[.slice pa n cap, .int .i64 p] w fun e w' => e = .returned (tkV (tk xs p)) ∧ w' = w := by
  have HM : Hid (MD w pa n cap xs) := hM
  obtain ⟨T, HT0⟩ : ∃ T, Hid (tk xs p = T) := ⟨_, rfl⟩
  rw [HT0.out]
  have hn := hM.hn
  have hcap := hM.hcap
  have hcb := hM.hcb
  clear hM
  go_enter Tryd.func24, Tryd.ntmps24
  go_wp2
  go_loop [1] (fun i => ∃ j : Nat, j ≤ n ∧ i = .int .i64 j ∧ Hid (tk xs j = T)) (fun i => n - (intOf i).toNat)
  case atStart => exact ⟨p, hp, rfl, HT0⟩
  case round =>
    obtain ⟨j, hj, rfl, HTJ⟩ := hrel
    clear HT0
    by_cases hjn : j < n
    · obtain ⟨b, o, hpa, hcell⟩ := HM.out.hc j hjn
      subst hpa
      have HC : Hid (∀ i, i < n → w.cell? ⟨b, o + i, none⟩ = some (.int .u8 (xs.getD i 0))) := fun i hi => by
        obtain ⟨b', o', hp', h⟩ := HM.out.hc i hi
        simp only [Option.some.injEq, Addr.mk.injEq, and_true] at hp'
        obtain ⟨rfl, rfl⟩ := hp'
        exact h
      obtain ⟨x, HX⟩ : ∃ x, Hid (xs.getD j 0 = x) := ⟨_, rfl⟩
      rw [HX.out] at hcell
      have hji : (j : Int) < n := by omega
      have HJL : Hid (j < xs.length) := by show j < xs.length; rw [HM.out.hx]; exact hjn
      have hws := isws_any x w
      cases hwx : ws x with
      | true =>
        rw [hwx] at hws
        have HWS : Hid (Calls Tryd.prog 38 #[.int .u8 x] w fun e w' => e = .returned (.bool true) ∧ w' = w) := hws
        have HT1 : Hid (tk xs (j + 1) = T) := by
          have h := HTJ.out
          unfold tk at h ⊢
          rw [sk_step HJL.out (by rw [HX.out]; exact hwx)] at h
          exact h
        clear hws hwx
        go_wp2_with fail
        refine HWS.out.mono ?_
        rintro e w1 ⟨rfl, hw⟩; obtain rfl := hw.symm
        go_wp2_with fail
        go_round
        case rel => exact ⟨j + 1, by omega, by go_num, HT1⟩
        case measure => simp [intOf]; omega
      | false =>
        rw [hwx] at hws
        have HWS : Hid (Calls Tryd.prog 38 #[.int .u8 x] w fun e w' => e = .returned (.bool false) ∧ w' = w) := hws
        have HTK : Hid (T = tkJ xs j) := by
          have h := HTJ.out
          unfold tk at h
          rw [sk_stop (by rw [HX.out, hwx]; simp)] at h
          exact h.symm
        clear hws hwx HTJ
        have HTU : Hid (tkJ xs j = if x = 123 then (1, j, j + 1, j + 1) else if x = 125 then (2, j, j + 1, j + 1) else if x = 91 then (3, j, j + 1, j + 1)
            else if x = 93 then (4, j, j + 1, j + 1) else if x = 58 then (5, j, j + 1, j + 1) else if x = 44 then (6, j, j + 1, j + 1)
            else if x = 34 then tkQ j (plR xs j)
            else if isd x then (8, j, j + dN xs j, j + dN xs j) else (0, j, j, j)) := by
          show _ = _
          unfold tkJ
          rw [if_pos HJL.out, HX.out]
        go_wp2_with fail
        refine HWS.out.mono ?_
        rintro e w1 ⟨rfl, hw⟩; obtain rfl := hw.symm
        clear HWS
        by_cases h123 : x = 123
        · as_aux_lemma =>
          subst h123
          have HT : Hid (T = (1, j, j + 1, j + 1)) := by show _ = _; rw [HTK.out, HTU.out]; rfl
          clear HTK HTU
          go_wp2_with fail
          (try simp only [Exit.inBlock, Exit.then])
          refine bodyPost_ret (results_tmp4 (t := 4) (u := 5) (v := 6) (x := 7) (by kernel_rfl) _ _ _) rfl ?_
          rw [HT.out]
          exact ⟨rfl, rfl⟩
        have g123 : (x == 123) = false := beq_eq_false_iff_ne.2 h123
        by_cases h125 : x = 125
        · as_aux_lemma =>
          subst h125
          have HT : Hid (T = (2, j, j + 1, j + 1)) := by show _ = _; rw [HTK.out, HTU.out]; rfl
          clear HTK HTU
          clear g123 h123
          go_wp2_with fail
          (try simp only [Exit.inBlock, Exit.then])
          refine bodyPost_ret (results_tmp4 (t := 4) (u := 5) (v := 6) (x := 7) (by kernel_rfl) _ _ _) rfl ?_
          rw [HT.out]
          exact ⟨rfl, rfl⟩
        have g125 : (x == 125) = false := beq_eq_false_iff_ne.2 h125
        by_cases h91 : x = 91
        · as_aux_lemma =>
          subst h91
          have HT : Hid (T = (3, j, j + 1, j + 1)) := by show _ = _; rw [HTK.out, HTU.out]; rfl
          clear HTK HTU
          clear g123 h123 g125 h125
          go_wp2_with fail
          (try simp only [Exit.inBlock, Exit.then])
          refine bodyPost_ret (results_tmp4 (t := 4) (u := 5) (v := 6) (x := 7) (by kernel_rfl) _ _ _) rfl ?_
          rw [HT.out]
          exact ⟨rfl, rfl⟩
        have g91 : (x == 91) = false := beq_eq_false_iff_ne.2 h91
        by_cases h93 : x = 93
        · as_aux_lemma =>
          subst h93
          have HT : Hid (T = (4, j, j + 1, j + 1)) := by show _ = _; rw [HTK.out, HTU.out]; rfl
          clear HTK HTU
          clear g123 h123 g125 h125 g91 h91
          go_wp2_with fail
          (try simp only [Exit.inBlock, Exit.then])
          refine bodyPost_ret (results_tmp4 (t := 4) (u := 5) (v := 6) (x := 7) (by kernel_rfl) _ _ _) rfl ?_
          rw [HT.out]
          exact ⟨rfl, rfl⟩
        have g93 : (x == 93) = false := beq_eq_false_iff_ne.2 h93
        by_cases h58 : x = 58
        · as_aux_lemma =>
          subst h58
          have HT : Hid (T = (5, j, j + 1, j + 1)) := by show _ = _; rw [HTK.out, HTU.out]; rfl
          clear HTK HTU
          clear g123 h123 g125 h125 g91 h91 g93 h93
          go_wp2_with fail
          (try simp only [Exit.inBlock, Exit.then])
          refine bodyPost_ret (results_tmp4 (t := 4) (u := 5) (v := 6) (x := 7) (by kernel_rfl) _ _ _) rfl ?_
          rw [HT.out]
          exact ⟨rfl, rfl⟩
        have g58 : (x == 58) = false := beq_eq_false_iff_ne.2 h58
        by_cases h44 : x = 44
        · as_aux_lemma =>
          subst h44
          have HT : Hid (T = (6, j, j + 1, j + 1)) := by show _ = _; rw [HTK.out, HTU.out]; rfl
          clear HTK HTU
          clear g123 h123 g125 h125 g91 h91 g93 h93 g58 h58
          go_wp2_with fail
          (try simp only [Exit.inBlock, Exit.then])
          refine bodyPost_ret (results_tmp4 (t := 4) (u := 5) (v := 6) (x := 7) (by kernel_rfl) _ _ _) rfl ?_
          rw [HT.out]
          exact ⟨rfl, rfl⟩
        have g44 : (x == 44) = false := beq_eq_false_iff_ne.2 h44
        have HTV : Hid (T = if x = 34 then tkQ j (plR xs j) else if isd x then (8, j, j + dN xs j, j + dN xs j) else (0, j, j, j)) := by show _ = _; rw [HTK.out, HTU.out, if_neg h123, if_neg h125, if_neg h91, if_neg h93, if_neg h58, if_neg h44]
        clear HTK HTU h123 h125 h91 h93 h58 h44
        by_cases h34 : x = 34
        · as_aux_lemma =>
          subst h34
          have HTW : Hid (T = tkQ j (plR xs j)) := by show _ = _; rw [HTV.out, if_pos rfl]
          clear HTV
          have HPL : Hid (plR xs j = plQ xs j (sc xs (j + 1))) := plR_at HJL.out HX.out
          go_wp2_with fail
          go_loop [9] (fun i => ∃ k : Nat, j + 1 ≤ k ∧ k ≤ n ∧ i = .int .i64 k ∧ Hid (sc xs (j + 1) = sc xs k)) (fun i => n - (intOf i).toNat)
          case atStart => exact ⟨j + 1, Nat.le_refl _, by omega, by go_num, rfl⟩
          case round =>
            obtain ⟨k, hk1, hk2, rfl, HS⟩ := hrel
            by_cases hkn : k < n
            · obtain ⟨y, HY⟩ : ∃ y, Hid (xs.getD k 0 = y) := ⟨_, rfl⟩
              have hck : w.cell? ⟨b, o + k, none⟩ = some (.int .u8 y) := by have h := HC.out k hkn; rw [HY.out] at h; exact h
              have hki : (k : Int) < n := by omega
              have HKL : Hid (k < xs.length) := by show k < xs.length; rw [HM.out.hx]; exact hkn
              by_cases hy : y = 34
              · as_aux_lemma =>
                subst hy
                have hsl : 0 ≤ ((j : Int) + 1) ∧ ((j : Int) + 1) ≤ k ∧ (k : Int) ≤ cap := by omega
                have hval := zzvalid_any (some ⟨b, o + (j + 1), none⟩) (k - (j + 1)) (cap - (j + 1)) (sub xs (j + 1) k) w (by omega) (sub_length xs (j + 1) k (by omega) (by rw [HM.out.hx]; omega)) (fun i => by
                    by_cases hi : i < k - (j + 1)
                    · rw [sub_at xs (j + 1) k i hi]; exact HM.out.hb _
                    · have : (sub xs (j + 1) k).getD i 0 = 0 := by
                        rw [List.getD_eq_getElem?_getD, List.getElem?_eq_none (by rw [sub_length xs (j + 1) k (by omega) (by rw [HM.out.hx]; omega)]; omega)]; rfl
                      rw [this]; omega)
                  (fun i hi => ⟨b, o + (j + 1), rfl, by
                    rw [sub_at xs (j + 1) k i hi, Nat.add_assoc]
                    exact HC.out (j + 1 + i) (by omega)⟩)
                have HTX : Hid (T = if vu (sub xs (j + 1) k) = true then (7, j + 1, k, k + 1) else (0, j, j, j)) := by
                  show _ = _
                  rw [HTW.out, HPL.out, HS.out, sc_hit HKL.out HY.out]
                  show tkQ j (if vu (sub xs (j + 1) k) = true then some (j + 1, k) else none) = _
                  split <;> rfl
                have HVAL : Hid (Calls Tryd.prog 28 #[.slice (some ⟨b, o + (j + 1), none⟩) (k - (j + 1) : Nat) (cap - (j + 1) : Nat)] w fun e w' => e = .returned (.bool (vu (sub xs (j + 1) k))) ∧ w' = w) := hval
                clear hval HTW HPL HS
                generalize vu (sub xs (j + 1) k) = V at HVAL HTX
                cases V with
                | true =>
                  have HT : Hid (T = (7, j + 1, k, k + 1)) := by show _ = _; rw [HTX.out]; rfl
                  clear HTX
                  go_wp2_with fail
                  refine HVAL.out.mono ?_
                  rintro e w1 ⟨rfl, hw⟩; obtain rfl := hw.symm
                  go_wp2_with fail
                  (try simp only [Exit.inBlock, Exit.then])
                  refine bodyPost_ret (results_tmp4 (t := 4) (u := 5) (v := 6) (x := 7) (by kernel_rfl) _ _ _) rfl ?_
                  rw [HT.out]
                  exact ⟨rfl, rfl⟩
                | false =>
                  have HT : Hid (T = (0, j, j, j)) := by show _ = _; rw [HTX.out]; rfl
                  clear HTX
                  go_wp2_with fail
                  refine HVAL.out.mono ?_
                  rintro e w1 ⟨rfl, hw⟩; obtain rfl := hw.symm
                  go_wp2_with fail
                  (try simp only [Exit.inBlock, Exit.then])
                  refine bodyPost_ret (results_tmp4 (t := 4) (u := 5) (v := 6) (x := 7) (by kernel_rfl) _ _ _) rfl ?_
                  rw [HT.out]
                  exact ⟨rfl, rfl⟩
              · have gy : (y == 34) = false := beq_eq_false_iff_ne.2 hy
                have gy' : (y != 34) = true := by simp [hy]
                by_cases hbad : y = 92 ∨ y < 32
                · as_aux_lemma =>
                  have HT : Hid (T = (0, j, j, j)) := by
                    show _ = _
                    rw [HTW.out, HPL.out, HS.out, sc_bad HKL.out (by rw [HY.out]; exact hbad)]
                    rfl
                  have hxc : y = 92 ∨ ((y == 92) = false ∧ y < 32) := by
                    by_cases e : y = 92
                    · exact .inl e
                    · exact .inr ⟨beq_eq_false_iff_ne.2 e, by omega⟩
                  clear hbad HTW HPL HS hy
                  rcases hxc with rfl | ⟨hx1, hx2⟩
                  all_goals
                    go_wp2_with fail
                    (try simp only [Exit.inBlock, Exit.then])
                    refine bodyPost_ret (results_tmp4 (t := 4) (u := 5) (v := 6) (x := 7) (by kernel_rfl) _ _ _) rfl ?_
                    rw [HT.out]
                    exact ⟨rfl, rfl⟩
                · as_aux_lemma =>
                  have hx1 : (y == 92) = false := beq_eq_false_iff_ne.2 (fun e => hbad (.inl e))
                  have hx2 : ¬ y < 32 := fun e => hbad (.inr e)
                  have HS2 : Hid (sc xs (j + 1) = sc xs (k + 1)) := HS.out.trans (sc_step HKL.out (by rw [HY.out]; exact hy) (by rw [HY.out]; exact hbad))
                  clear hbad hy
                  go_wp2_with fail
                  go_round
                  case rel => exact ⟨k + 1, by omega, by omega, by go_num, HS2⟩
                  case measure => simp [intOf]; omega
            · as_aux_lemma =>
              have hki : ¬ (k : Int) < n := by omega
              have hki2 : (n : Int) ≤ (k : Int) := by omega
              have HT : Hid (T = (0, j, j, j)) := by
                show _ = _
                rw [HTW.out, HPL.out, HS.out, sc_end (by rw [HM.out.hx]; omega)]
                rfl
              go_wp2_with fail
              (try simp only [Exit.inBlock, Exit.then])
              refine bodyPost_ret (results_tmp4 (t := 4) (u := 5) (v := 6) (x := 7) (by kernel_rfl) _ _ _) rfl ?_
              rw [HT.out]
              exact ⟨rfl, rfl⟩
        have g34 : (x == 34) = false := beq_eq_false_iff_ne.2 h34
        cases hd : isd x with
        | true => as_aux_lemma =>
          have HTW : Hid (T = (8, j, j + dN xs j, j + dN xs j)) := by show _ = _; rw [HTV.out, if_neg h34, hd]; rfl
          have hdi := (isd_iff x).1 hd
          obtain ⟨hd1, hd2⟩ := hdi
          clear HTV h34 hd
          go_wp2_with fail
          go_loop [10] (fun i => ∃ k : Nat, j ≤ k ∧ k ≤ n ∧ i = .int .i64 k ∧ Hid (∀ i, j ≤ i → i < k → isd (xs.getD i 0) = true)) (fun i => n - (intOf i).toNat)
          case atStart => exact ⟨j, Nat.le_refl _, by omega, rfl, fun i h1 h2 => by omega⟩
          case round =>
            obtain ⟨k, hk1, hk2, rfl, HS⟩ := hrel
            have HEND : Hid (¬ (k < xs.length ∧ isd (xs.getD k 0) = true) → T = (8, j, k, k)) := fun hne => by
              have hd := dN_of xs (k - j) j (fun i hi => HS.out (j + i) (by omega) (by omega)) (by rw [HM.out.hx]; omega) (by rw [show j + (k - j) = k by omega]; exact hne)
              rw [HTW.out, hd, show j + (k - j) = k by omega]
            clear HTW
            by_cases hkn : k < n
            · obtain ⟨y, HY⟩ : ∃ y, Hid (xs.getD k 0 = y) := ⟨_, rfl⟩
              have hck : w.cell? ⟨b, o + k, none⟩ = some (.int .u8 y) := by have h := HC.out k hkn; rw [HY.out] at h; exact h
              have hki : (k : Int) < n := by omega
              cases hd : isd y with
              | true => as_aux_lemma =>
                have hdi := (isd_iff y).1 hd
                obtain ⟨he1, he2⟩ := hdi
                have HS2 : Hid (∀ i, j ≤ i → i < k + 1 → isd (xs.getD i 0) = true) := fun i h1 h2 => by
                  by_cases hik : i = k
                  · rw [hik, HY.out]; exact hd
                  · exact HS.out i h1 (by omega)
                clear hd HEND
                go_wp2_with fail
                go_round
                case rel => exact ⟨k + 1, by omega, by omega, by go_num, HS2⟩
                case measure => simp [intOf]; omega
              | false => as_aux_lemma =>
                have HT : Hid (T = (8, j, k, k)) := HEND.out (by rw [HY.out, hd]; simp)
                have hdi := (isd_no y).1 hd
                clear hd HEND HS
                rcases hdi with he | he
                all_goals
                  go_wp2_with fail
                  (try simp only [Exit.inBlock, Exit.then])
                  refine bodyPost_ret (results_tmp4 (t := 4) (u := 5) (v := 6) (x := 7) (by kernel_rfl) _ _ _) rfl ?_
                  rw [HT.out]
                  exact ⟨rfl, rfl⟩
            · as_aux_lemma =>
              have hki : ¬ (k : Int) < n := by omega
              have HT : Hid (T = (8, j, k, k)) := HEND.out (by rw [HM.out.hx]; omega)
              clear HEND HS
              go_wp2_with fail
              (try simp only [Exit.inBlock, Exit.then])
              refine bodyPost_ret (results_tmp4 (t := 4) (u := 5) (v := 6) (x := 7) (by kernel_rfl) _ _ _) rfl ?_
              rw [HT.out]
              exact ⟨rfl, rfl⟩
        | false => as_aux_lemma =>
          have HT : Hid (T = (0, j, j, j)) := by show _ = _; rw [HTV.out, if_neg h34, hd]; rfl
          have hdi := (isd_no x).1 hd
          clear hd h34 HTV
          rcases hdi with he | he
          all_goals
            go_wp2_with fail
            (try simp only [Exit.inBlock, Exit.then])
            refine bodyPost_ret (results_tmp4 (t := 4) (u := 5) (v := 6) (x := 7) (by kernel_rfl) _ _ _) rfl ?_
            rw [HT.out]
            exact ⟨rfl, rfl⟩
    · as_aux_lemma =>
      obtain rfl : j = n := by omega
      have HT : Hid (T = (9, j, j, j)) := by
        have h := HTJ.out
        unfold tk at h
        rw [sk_stop (by rw [HM.out.hx]; omega)] at h
        unfold tkJ at h
        rw [if_neg (by rw [HM.out.hx]; omega)] at h
        exact h.symm
      have hji : ¬ (j : Int) < j := by omega
      clear HTJ
      go_wp2_with fail
      (try simp only [Exit.inBlock, Exit.then])
      refine bodyPost_ret (results_tmp4 (t := 4) (u := 5) (v := 6) (x := 7) (by kernel_rfl) _ _ _) rfl ?_
      rw [HT.out]
      exact ⟨rfl, rfl⟩
end Go.Proofs.Qxb6605662aDoor
