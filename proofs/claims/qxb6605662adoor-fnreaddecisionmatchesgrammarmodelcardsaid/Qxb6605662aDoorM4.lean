import Derived.Test.Qxb6605662aDoorM3
import Derived.BigQuiet
set_option linter.unusedVariables false
namespace Go.Proofs.Qxb6605662aDoor
open Go.RowKit

/-! ### zzParseDec -/
def mxs : List Int := [49, 56, 52, 52, 54, 55, 52, 52, 48, 55, 51, 55, 48, 57, 53, 53, 49, 54, 49, 53]
/-- what zzParseDec reads out of digits -/
def pd (l : List Int) : Option Int := if 0 < l.length ∧ ¬ (l.getD 0 0 = 48 ∧ 1 < l.length) ∧ dvl l 0 l.length ≤ Max64 then some (dvl l 0 l.length) else none
theorem dvl_top (l : List Int) (n : Nat) (h : ∀ i, i < n + 1 → isd (l.getD (0 + i) 0) = true) (h0 : l.getD 0 0 ≠ 48) : (10 : Int) ^ n ≤ dvl l 0 (n + 1) := by
  induction n with
  | zero =>
    have h1 := (isd_iff _).1 (h 0 (by omega))
    simp only [Nat.add_zero] at h1
    simp only [dvl, Nat.zero_add]
    omega
  | succ n ih =>
    have h1 := ih (fun i hi => h i (by omega))
    have h2 := (isd_iff _).1 (h (n + 1) (by omega))
    rw [dvl, Int.pow_succ]
    omega
theorem pd_long (l : List Int) (h : 20 < l.length) (hd : ∀ i, i < l.length → isd (l.getD (0 + i) 0) = true) : pd l = none := by
  unfold pd
  refine if_neg fun ⟨h1, h2, h3⟩ => ?_
  have h0 : l.getD 0 0 ≠ 48 := fun e => h2 ⟨e, by omega⟩
  obtain ⟨m, hm⟩ : ∃ m, l.length = m + 1 := ⟨l.length - 1, by omega⟩
  rw [hm] at h3
  have ht := dvl_top l m (fun i hi => hd i (by omega)) h0
  have hp : (10 : Int) ^ 20 ≤ 10 ^ m := by exact_mod_cast Nat.pow_le_pow_right (n := 10) (by omega) (by omega : 20 ≤ m)
  have h20 : (10 : Int) ^ 20 = 100000000000000000000 := by decide
  unfold Max64 at h3
  omega
/-- two texts of digits, held against each other from the first place on -/
theorem dvl_lt_of {a b : List Int} {k : Nat} (he : dvl a 0 k = dvl b 0 k) (hk : a.getD k 0 < b.getD k 0) : ∀ m, (∀ i, i < k + 1 + m → isd (a.getD (0 + i) 0) = true ∧ isd (b.getD (0 + i) 0) = true) → dvl a 0 (k + 1 + m) + 1 ≤ dvl b 0 (k + 1 + m) := by
  intro m
  induction m with
  | zero =>
    intro _
    rw [Nat.add_zero, dvl, dvl, he, Nat.zero_add]
    omega
  | succ m ih =>
    intro h
    have h1 := ih (fun i hi => h i (by omega))
    have h2 := (isd_iff _).1 (h (k + 1 + m) (by omega)).1
    have h3 := (isd_iff _).1 (h (k + 1 + m) (by omega)).2
    rw [← Nat.add_assoc, dvl, dvl]
    omega
theorem dvl_eq_of {a b : List Int} : ∀ k, (∀ i, i < k → a.getD i 0 = b.getD i 0) → dvl a 0 k = dvl b 0 k := by
  intro k
  induction k with
  | zero => intro _; rfl
  | succ k ih => intro h; rw [dvl, dvl, ih (fun i hi => h i (by omega)), Nat.zero_add, h k (by omega)]
theorem dvl_lt10 (l : List Int) : ∀ n, (∀ i, i < n → isd (l.getD i 0) = true) → dvl l 0 n < 10 ^ n := by
  intro n
  induction n with
  | zero => intro _; exact (by decide : (0 : Int) < 10 ^ 0)
  | succ n ih =>
    intro h
    have h1 := ih (fun i hi => h i (by omega))
    have h2 := (isd_iff _).1 (h n (by omega))
    rw [dvl, Nat.zero_add, Int.pow_succ]
    omega
theorem dvl_small (l : List Int) (n : Nat) (h : n < 20) (hd : ∀ i, i < n → isd (l.getD i 0) = true) : dvl l 0 n ≤ Max64 := by
  have h1 := dvl_lt10 l n hd
  have hp : (10 : Int) ^ n ≤ 10 ^ 19 := by exact_mod_cast Nat.pow_le_pow_right (n := 10) (by omega) (by omega : n ≤ 19)
  have h19 : (10 : Int) ^ 19 = 10000000000000000000 := by decide
  unfold Max64
  omega
theorem mxs_val : dvl mxs 0 20 = Max64 := by decide
theorem mxs_isd : ∀ i, i < 20 → isd (mxs.getD (0 + i) 0) = true := by decide
theorem mx_at (k : Nat) (hk : k < 20) : ∃ u : UInt8, (⟨#[49, 56, 52, 52, 54, 55, 52, 52, 48, 55, 51, 55, 48, 57, 53, 53, 49, 54, 49, 53]⟩ : ByteArray)[k]'hk = u ∧ ((u.toNat : Nat) : Int) = mxs.getD k 0 := by
  refine ⟨_, rfl, ?_⟩
  have : ∀ k : Fin 20, ((((⟨#[49, 56, 52, 52, 54, 55, 52, 52, 48, 55, 51, 55, 48, 57, 53, 53, 49, 54, 49, 53]⟩ : ByteArray)[k.val]'k.isLt).toNat : Nat) : Int) = mxs.getD k.val 0 := by decide
  exact this ⟨k, hk⟩
def PdOut (R : Option Int) (w : World) (e : Ending) (w' : World) : Prop := (∃ q, w' = w.drewN q) ∧ (match R with
  | some v => e = .returned (.tuple #[.int .u64 v, .bool true])
  | none => e = .returned (.tuple #[.int .u64 0, .bool false]))
set_option maxHeartbeats 4000000 in
set_option maxRecDepth 100000 in
theorem parse_any (pa : Option Addr) (n cap : Nat) (l : List Int) (w : World) (hn : n ≤ 2147483648) (hx : l.length = n) (hd : ∀ i, i < n → isd (l.getD i 0) = true) (hc : Cells w pa n l) :
    Calls Tryd.prog 39 #[.slice pa n cap] w fun e w' => PdOut (pd l) w e w' := by
  have HX : Hid (l.length = n) := hx
  have HC : Hid (Cells w pa n l) := hc
  have HD : Hid (∀ i, i < n → isd (l.getD i 0) = true) := hd
  have HD0 : Hid (∀ i, i < l.length → isd (l.getD (0 + i) 0) = true) := fun i hi => by rw [Nat.zero_add]; exact hd i (by omega)
  obtain ⟨RES, HR⟩ : ∃ RES, Hid (pd l = RES) := ⟨_, rfl⟩
  rw [HR.out]
  clear hx hc hd
  by_cases h0 : n = 0
  · have HN : Hid (RES = none) := by show _ = _; rw [← HR.out]; unfold pd; rw [if_neg (by rw [HX.out]; omega)]
    subst h0
    go_enter Tryd.func39, Tryd.ntmps39
    go_wp2
    go_ret2
    rw [HN.out]
    exact ⟨⟨0, rfl⟩, rfl⟩
  have g0 : ((n : Int) == 0) = false := beq_eq_false_iff_ne.2 (by omega)
  by_cases h20 : 20 < n
  · have HN : Hid (RES = none) := by show _ = _; rw [← HR.out]; exact pd_long l (by rw [HX.out]; exact h20) HD0.out
    have h20i : (20 : Int) < n := by omega
    go_enter Tryd.func39, Tryd.ntmps39
    go_wp2
    go_ret2
    rw [HN.out]
    exact ⟨⟨0, rfl⟩, rfl⟩
  have h20i : ¬ (20 : Int) < n := by omega
  go_enter Tryd.func39, Tryd.ntmps39
  go_wp2
  go_loop [5] (fun i => ∃ j : Nat, j ≤ n ∧ i = .int .i64 j) (fun i => n - (intOf i).toNat)
  case atStart => exact ⟨0, Nat.zero_le _, rfl⟩
  case round =>
    obtain ⟨j, hj, rfl⟩ := hrel
    by_cases hjn : j < n
    · obtain ⟨b, o, hp, hcell⟩ := HC.out j hjn
      subst hp
      have hdj := (isd_iff _).1 (HD.out j hjn)
      generalize l.getD j 0 = x at hcell hdj
      obtain ⟨hd1, hd2⟩ := hdj
      have hji : (j : Int) < n := by omega
      go_wp2
      go_round
      case rel => exact ⟨j + 1, by omega, by go_num⟩
      case measure => simp [intOf]; omega
    · have hji : ¬ (j : Int) < n := by omega
      obtain ⟨b, o, hp, hcell⟩ := HC.out 0 (by omega)
      subst hp
      have HC' : Hid (∀ i, i < n → w.cell? ⟨b, o + i, none⟩ = some (.int .u8 (l.getD i 0))) := fun i hi => by
        obtain ⟨b', o', hp', h⟩ := HC.out i hi
        simp only [Option.some.injEq, Addr.mk.injEq, and_true] at hp'
        obtain ⟨rfl, rfl⟩ := hp'
        exact h
      rw [Nat.add_zero] at hcell
      obtain ⟨x, HX0⟩ : ∃ x, Hid (l.getD 0 0 = x) := ⟨_, rfl⟩
      rw [HX0.out] at hcell
      have h0i : (0 : Int) < n := by omega
      by_cases hz : x = 48 ∧ 1 < n
      · obtain ⟨rfl, h1⟩ := hz
        have h1i : (1 : Int) < n := by omega
        have HN : Hid (RES = none) := by show _ = _; rw [← HR.out]; unfold pd; rw [if_neg (by rw [HX.out, HX0.out]; omega)]
        go_wp2
        go_ret2
        rw [HN.out]
        exact ⟨⟨0, rfl⟩, rfl⟩
      · have HPD : Hid (dvl l 0 n ≤ Max64 → dvl l 0 n ≤ Max64 ∧ RES = some (dvl l 0 n)) := fun h => ⟨h, by rw [← HR.out]; unfold pd; rw [if_pos ⟨by rw [HX.out]; omega, by rw [HX.out, HX0.out]; exact hz, by rw [HX.out]; exact h⟩, HX.out]⟩
        have HPN : Hid (Max64 < dvl l 0 n → RES = none) := fun h => by rw [← HR.out]; unfold pd; rw [if_neg (by rw [HX.out]; omega)]
        have HSM : Hid (n < 20 → dvl l 0 n ≤ Max64) := fun h => dvl_small l n h HD.out
        by_cases h1 : 1 < n
        · have h1i : (1 : Int) < n := by omega
          have gx : (x == 48) = false := beq_eq_false_iff_ne.2 (fun e => hz ⟨e, h1⟩)
          clear hz
          by_cases hn20 : n = 20
          · as_aux_lemma =>
            subst hn20
            go_wp2
            go_loopw [6] (fun i wr => ∃ (k : Nat) (q : Nat), k ≤ 20 ∧ i = .int .i64 k ∧ Hid (∀ i, i < k → l.getD i 0 = mxs.getD i 0) ∧ Hid (wr = w.drewN q)) (fun i _ => 20 - (intOf i).toNat)
            case atStart => exact ⟨0, 0, by omega, rfl, fun i hi => by omega, rfl⟩
            case round =>
              obtain ⟨k, q, hk, rfl, HEQ, HW⟩ := hrel
              by_cases hk20 : k < 20
              · have hki : (k : Int) < 20 := by omega
                obtain ⟨u, hu, hu2⟩ := mx_at k hk20
                have hck : wr.cell? ⟨b, o + k, none⟩ = some (.int .u8 (l.getD k 0)) := by rw [HW.out]; exact HC'.out k hk20
                obtain ⟨y, HY⟩ : ∃ y, Hid (l.getD k 0 = y) := ⟨_, rfl⟩
                rw [HY.out] at hck
                obtain ⟨z, HZ⟩ : ∃ z : Int, Hid ((u.toNat : Int) = z) := ⟨_, rfl⟩
                have HU : Hid (z = mxs.getD k 0) := by rw [← HZ.out]; exact hu2
                clear hu2
                have HDD : Hid (∀ m, (∀ i, i < m → isd (l.getD (0 + i) 0) = true ∧ isd (mxs.getD (0 + i) 0) = true) ∨ 20 < m) := fun m => by
                  by_cases h : m ≤ 20
                  · exact .inl fun i hi => ⟨by rw [Nat.zero_add]; exact HD.out i (by omega), mxs_isd i (by omega)⟩
                  · exact .inr (by omega)
                by_cases hlt : y < z
                · have HVAL : Hid (dvl l 0 20 ≤ Max64 ∧ RES = some (dvl l 0 20)) := HPD.out (by
                    have h := dvl_lt_of (dvl_eq_of k HEQ.out) (by rw [HY.out, ← HU.out]; exact hlt) (20 - (k + 1)) ((HDD.out (k + 1 + (20 - (k + 1)))).resolve_right (by omega))
                    rw [show k + 1 + (20 - (k + 1)) = 20 by omega, mxs_val] at h
                    omega)
                  have d1 : decide (y < (u.toNat : Int)) = true := decide_eq_true (by rw [HZ.out]; exact hlt)
                  have d2 : decide (y < z) = true := decide_eq_true hlt
                  go_wp2
                  go_quiet (fail)
                  obtain ⟨q2, HW2⟩ : ∃ q2, Hid (wr.drewN nq = w.drewN q2) := ⟨q + nq, by show _ = _; rw [HW.out, World.drewN_drewN]⟩
                  generalize wr.drewN nq = wr2 at HW2 ⊢
                  have HC2 : Hid (∀ i, i < 20 → wr2.cell? ⟨b, o + i, none⟩ = some (.int .u8 (l.getD i 0))) := fun i hi => by rw [HW2.out]; exact HC'.out i hi
                  clear hck hlt d1 d2 hu
                  go_wp2
                  go_loop [7, 8] (fun v i => ∃ k : Nat, k ≤ 20 ∧ i = .int .i64 k ∧ v = .int .u64 (dvl l 0 k)) (fun _ i => 20 - (intOf i).toNat)
                  case atStart => exact ⟨0, Nat.zero_le _, rfl, rfl⟩
                  case round =>
                    obtain ⟨k, hk, rfl, rfl⟩ := hrel
                    by_cases hkn : k < 20
                    · have hck := HC2.out k hkn
                      have hdk := (isd_iff _).1 (HD.out k hkn)
                      have hm1 := dvl_mono l 0 (k + 1) 20 (fun i hi => by rw [Nat.zero_add]; exact HD.out i hi) (by omega)
                      have hm2 := dvl_nonneg l 0 k (fun i hi => by rw [Nat.zero_add]; exact HD.out i (by omega))
                      have hm3 := HVAL.out.1
                      have HST : Hid (dvl l 0 (k + 1) = dvl l 0 k * 10 + (l.getD k 0 - 48)) := by show _ = _; rw [dvl, Nat.zero_add]
                      rw [HST.out] at hm1
                      unfold Max64 at hm3
                      have hm4 : dvl l 0 k * 10 + (l.getD k 0 - 48) ≤ 18446744073709551615 := by omega
                      clear hm1 hm3
                      generalize l.getD k 0 = y at hck hdk HST hm4
                      generalize dvl l 0 k = v at HST hm2 hm4 ⊢
                      obtain ⟨hd1, hd2⟩ := hdk
                      have hki : (k : Int) < 20 := by omega
                      have hv10 : v * 10 ≤ 18446744073709551615 := by omega
                      go_wp2
                      go_round
                      case rel => exact ⟨k + 1, by omega, by go_num, by rw [HST.out]⟩
                      case measure => simp [intOf]; omega
                    · obtain rfl : k = 20 := by omega
                      have HRS : Hid (RES = some (dvl l 0 20)) := HVAL.out.2
                      generalize dvl l 0 20 = v at HRS ⊢
                      go_wp2
                      go_ret2
                      rw [HRS.out]
                      exact ⟨⟨q2, HW2.out⟩, rfl⟩
                · have d1 : decide (y < (u.toNat : Int)) = false := decide_eq_false (by rw [HZ.out]; exact hlt)
                  by_cases hgt : z < y
                  · have HN : Hid (RES = none) := HPN.out (by
                      have h := dvl_lt_of (a := mxs) (b := l) (dvl_eq_of k fun i hi => (HEQ.out i hi).symm) (by rw [HY.out, ← HU.out]; exact hgt) (20 - (k + 1)) (fun i hi => ((HDD.out (k + 1 + (20 - (k + 1)))).resolve_right (by omega) i hi).symm)
                      rw [show k + 1 + (20 - (k + 1)) = 20 by omega, mxs_val] at h
                      omega)
                    have d2 : decide ((u.toNat : Int) < y) = true := decide_eq_true (by rw [HZ.out]; exact hgt)
                    go_wp2
                    go_quiet (fail)
                    obtain ⟨q2, HW2⟩ : ∃ q2, Hid (wr.drewN nq = w.drewN q2) := ⟨q + nq, by show _ = _; rw [HW.out, World.drewN_drewN]⟩
                    generalize wr.drewN nq = wr2 at HW2 ⊢
                    have hck2 : wr2.cell? ⟨b, o + k, none⟩ = some (.int .u8 y) := by rw [HW2.out, ← HY.out]; exact HC'.out k hk20
                    go_wp2
                    go_quiet (fail)
                    go_wp2
                    go_ret2
                    rw [HN.out]
                    exact ⟨⟨q2 + nq, by rw [HW2.out, World.drewN_drewN]⟩, rfl⟩
                  · have d2 : decide ((u.toNat : Int) < y) = false := decide_eq_false (by rw [HZ.out]; exact hgt)
                    have HEQ2 : Hid (∀ i, i < k + 1 → l.getD i 0 = mxs.getD i 0) := fun i hi => by
                      by_cases hik : i = k
                      · rw [hik, HY.out, ← HU.out]; omega
                      · exact HEQ.out i (by omega)
                    go_wp2
                    go_quiet (fail)
                    obtain ⟨q2, HW2⟩ : ∃ q2, Hid (wr.drewN nq = w.drewN q2) := ⟨q + nq, by show _ = _; rw [HW.out, World.drewN_drewN]⟩
                    generalize wr.drewN nq = wr2 at HW2 ⊢
                    have hck2 : wr2.cell? ⟨b, o + k, none⟩ = some (.int .u8 y) := by rw [HW2.out, ← HY.out]; exact HC'.out k hk20
                    go_wp2
                    go_quiet (fail)
                    go_wp2
                    go_round
                    case rel => exact ⟨k + 1, q2 + nq, by omega, by go_num, HEQ2, by show _ = _; rw [HW2.out, World.drewN_drewN]⟩
                    case measure => simp [intOf]; omega
              · obtain rfl : k = 20 := by omega
                have HVAL : Hid (dvl l 0 20 ≤ Max64 ∧ RES = some (dvl l 0 20)) := HPD.out (by rw [dvl_eq_of 20 HEQ.out, mxs_val]; exact Int.le_refl _)
                have HC2 : Hid (∀ i, i < 20 → wr.cell? ⟨b, o + i, none⟩ = some (.int .u8 (l.getD i 0))) := fun i hi => by rw [HW.out]; exact HC'.out i hi
                go_wp2
                go_loop [7, 8] (fun v i => ∃ k : Nat, k ≤ 20 ∧ i = .int .i64 k ∧ v = .int .u64 (dvl l 0 k)) (fun _ i => 20 - (intOf i).toNat)
                case atStart => exact ⟨0, Nat.zero_le _, rfl, rfl⟩
                case round =>
                  obtain ⟨k, hk, rfl, rfl⟩ := hrel
                  by_cases hkn : k < 20
                  · have hck := HC2.out k hkn
                    have hdk := (isd_iff _).1 (HD.out k hkn)
                    have hm1 := dvl_mono l 0 (k + 1) 20 (fun i hi => by rw [Nat.zero_add]; exact HD.out i hi) (by omega)
                    have hm2 := dvl_nonneg l 0 k (fun i hi => by rw [Nat.zero_add]; exact HD.out i (by omega))
                    have hm3 := HVAL.out.1
                    have HST : Hid (dvl l 0 (k + 1) = dvl l 0 k * 10 + (l.getD k 0 - 48)) := by show _ = _; rw [dvl, Nat.zero_add]
                    rw [HST.out] at hm1
                    unfold Max64 at hm3
                    have hm4 : dvl l 0 k * 10 + (l.getD k 0 - 48) ≤ 18446744073709551615 := by omega
                    clear hm1 hm3
                    generalize l.getD k 0 = y at hck hdk HST hm4
                    generalize dvl l 0 k = v at HST hm2 hm4 ⊢
                    obtain ⟨hd1, hd2⟩ := hdk
                    have hki : (k : Int) < 20 := by omega
                    have hv10 : v * 10 ≤ 18446744073709551615 := by omega
                    go_wp2
                    go_round
                    case rel => exact ⟨k + 1, by omega, by go_num, by rw [HST.out]⟩
                    case measure => simp [intOf]; omega
                  · obtain rfl : k = 20 := by omega
                    have HRS : Hid (RES = some (dvl l 0 20)) := HVAL.out.2
                    generalize dvl l 0 20 = v at HRS ⊢
                    go_wp2
                    go_ret2
                    rw [HRS.out]
                    exact ⟨⟨q, HW.out⟩, rfl⟩
          · as_aux_lemma =>
            have gn : ((n : Int) == 20) = false := beq_eq_false_iff_ne.2 (by omega)
            have HVAL : Hid (dvl l 0 n ≤ Max64 ∧ RES = some (dvl l 0 n)) := HPD.out (HSM.out (by omega))
            go_wp2
            go_loop [7, 8] (fun v i => ∃ k : Nat, k ≤ n ∧ i = .int .i64 k ∧ v = .int .u64 (dvl l 0 k)) (fun _ i => n - (intOf i).toNat)
            case atStart => exact ⟨0, Nat.zero_le _, rfl, rfl⟩
            case round =>
              obtain ⟨k, hk, rfl, rfl⟩ := hrel
              by_cases hkn : k < n
              · have hck := HC'.out k hkn
                have hdk := (isd_iff _).1 (HD.out k hkn)
                have hm1 := dvl_mono l 0 (k + 1) n (fun i hi => by rw [Nat.zero_add]; exact HD.out i hi) (by omega)
                have hm2 := dvl_nonneg l 0 k (fun i hi => by rw [Nat.zero_add]; exact HD.out i (by omega))
                have hm3 := HVAL.out.1
                have HST : Hid (dvl l 0 (k + 1) = dvl l 0 k * 10 + (l.getD k 0 - 48)) := by show _ = _; rw [dvl, Nat.zero_add]
                rw [HST.out] at hm1
                unfold Max64 at hm3
                have hm4 : dvl l 0 k * 10 + (l.getD k 0 - 48) ≤ 18446744073709551615 := by omega
                clear hm1 hm3
                generalize l.getD k 0 = y at hck hdk HST hm4
                generalize dvl l 0 k = v at HST hm2 hm4 ⊢
                obtain ⟨hd1, hd2⟩ := hdk
                have hki : (k : Int) < n := by omega
                have hv10 : v * 10 ≤ 18446744073709551615 := by omega
                go_wp2
                go_round
                case rel => exact ⟨k + 1, by omega, by go_num, by rw [HST.out]⟩
                case measure => simp [intOf]; omega
              · obtain rfl : k = n := by omega
                have hki : ¬ (k : Int) < k := by omega
                have HRS : Hid (RES = some (dvl l 0 k)) := HVAL.out.2
                generalize dvl l 0 k = v at HRS ⊢
                go_wp2
                go_ret2
                rw [HRS.out]
                exact ⟨⟨0, rfl⟩, rfl⟩
        · as_aux_lemma =>
          have h1i : ¬ (1 : Int) < n := by omega
          have gn : ((n : Int) == 20) = false := beq_eq_false_iff_ne.2 (by omega)
          have HVAL : Hid (dvl l 0 n ≤ Max64 ∧ RES = some (dvl l 0 n)) := HPD.out (HSM.out (by omega))
          clear hz
          go_wp2
          go_loop [7, 8] (fun v i => ∃ k : Nat, k ≤ n ∧ i = .int .i64 k ∧ v = .int .u64 (dvl l 0 k)) (fun _ i => n - (intOf i).toNat)
          case atStart => exact ⟨0, Nat.zero_le _, rfl, rfl⟩
          case round =>
            obtain ⟨k, hk, rfl, rfl⟩ := hrel
            by_cases hkn : k < n
            · have hck := HC'.out k hkn
              have hdk := (isd_iff _).1 (HD.out k hkn)
              have hm1 := dvl_mono l 0 (k + 1) n (fun i hi => by rw [Nat.zero_add]; exact HD.out i hi) (by omega)
              have hm2 := dvl_nonneg l 0 k (fun i hi => by rw [Nat.zero_add]; exact HD.out i (by omega))
              have hm3 := HVAL.out.1
              have HST : Hid (dvl l 0 (k + 1) = dvl l 0 k * 10 + (l.getD k 0 - 48)) := by show _ = _; rw [dvl, Nat.zero_add]
              rw [HST.out] at hm1
              unfold Max64 at hm3
              have hm4 : dvl l 0 k * 10 + (l.getD k 0 - 48) ≤ 18446744073709551615 := by omega
              clear hm1 hm3
              generalize l.getD k 0 = y at hck hdk HST hm4
              generalize dvl l 0 k = v at HST hm2 hm4 ⊢
              obtain ⟨hd1, hd2⟩ := hdk
              have hki : (k : Int) < n := by omega
              have hv10 : v * 10 ≤ 18446744073709551615 := by omega
              go_wp2
              go_round
              case rel => exact ⟨k + 1, by omega, by go_num, by rw [HST.out]⟩
              case measure => simp [intOf]; omega
            · obtain rfl : k = n := by omega
              have hki : ¬ (k : Int) < k := by omega
              have HRS : Hid (RES = some (dvl l 0 k)) := HVAL.out.2
              generalize dvl l 0 k = v at HRS ⊢
              go_wp2
              go_ret2
              rw [HRS.out]
              exact ⟨⟨0, rfl⟩, rfl⟩
end Go.Proofs.Qxb6605662aDoor
