import Derived.Test.Qxb6605477aDoorPl
namespace Go.Proofs.Qxb6605477aDoor
open Go.RowKit

def AnsE (xs : List Int) (T : Nat) (e : Ending) : Prop := ∃ r b, e = .returned (.tuple #[.int .i64 r, .bool b]) ∧ Ans xs T r b
theorem AnsE.mk {xs : List Int} {T : Nat} {r : Int} {b : Bool} (h : Ans xs T r b) : AnsE xs T (.returned (.tuple #[.int .i64 r, .bool b])) := ⟨r, b, rfl, h⟩

set_option maxHeartbeats 2000000 in
theorem model_any (a : Addr) (n c E T : Nat) (xs : List Int) (w : World) (hn : n ≤ 1048576) (hx : xs.length = n)
    (hE : IsCut xs E) (hT : IsTrim xs E T)
    (hc : ∀ i, i < n → w.cell? (a.add i) = some (.int .u8 (xs.getD i 0))) :
    Calls Tryd.prog 7 #[.slice (some a) n c] w fun e w' => AnsE xs T e ∧ w' = w := by
  obtain ⟨hE0, hE1, hE2⟩ := hE
  obtain ⟨hT0, hT1, hT2⟩ := hT
  have HE1 : Hid (∀ i, i < E → xs.getD i 0 ≠ 59) := hE1
  have HE2 : Hid (E < xs.length → xs.getD E 0 = 59) := hE2
  have HT1 : Hid (∀ i, T ≤ i → i < E → xs.getD i 0 = 32 ∨ xs.getD i 0 = 9) := hT1
  have HT2 : Hid (0 < T → xs.getD (T - 1) 0 ≠ 32 ∧ xs.getD (T - 1) 0 ≠ 9) := hT2
  have HX : Hid (xs.length = n) := hx
  have HC : Hid (∀ i, i < n → w.cell? (a.add i) = some (.int .u8 (xs.getD i 0))) := hc
  have hEn : E ≤ n := by omega
  clear hE1 hE2 hT1 hT2 hx hc hE0
  go_enter Tryd.func7, Tryd.ntmps7
  go_wp2
  go_loop [4, 5] (fun e i => ∃ k : Nat, k ≤ E ∧ i = .int .i64 k ∧ e = .int .i64 n) (fun _ i => n - (intOf i).toNat)
  case atStart => exact ⟨0, by omega, rfl, rfl⟩
  case round =>
    obtain ⟨k, hk, rfl, rfl⟩ := hrel
    by_cases hlt : k < E
    · obtain ⟨x, HXK⟩ : ∃ x, Hid (xs.getD k 0 = x) := ⟨_, rfl⟩
      have hck := HC.out k (by omega)
      rw [HXK.out] at hck
      have hne : (x == 59) = false := beq_eq_false_iff_ne.2 (by rw [← HXK.out]; exact HE1.out k hlt)
      have hkn : (k : Int) < n := by omega
      go_wp2
      go_round
      case rel => exact ⟨k + 1, by omega, by go_num, rfl⟩
      case measure => simp [intOf]; omega
    · have hkE : k = E := by omega
      subst hkE
      have hst : (k < n ∧ w.cell? (a.add k) = some (.int .u8 59)) ∨ n ≤ k := by
        by_cases hlt2 : k < n
        · have hck := HC.out k (by omega)
          rw [HE2.out (by rw [HX.out]; omega)] at hck
          exact .inl ⟨hlt2, hck⟩
        · exact .inr (by omega)
      rcases hst with ⟨hlt2, hck⟩ | hlt2
      all_goals
        go_wp2
        go_loop [4] (fun e => ∃ m : Nat, T ≤ m ∧ m ≤ k ∧ e = .int .i64 m) (fun e => (intOf e).toNat)
        case atStart => first | exact ⟨k, by omega, by omega, rfl⟩ | exact ⟨n, by omega, by omega, rfl⟩
        case round =>
          obtain ⟨m, hm1, hm2, rfl⟩ := hrel
          by_cases hmT : T < m
          · obtain ⟨m', rfl⟩ : ∃ m', m = m' + 1 := ⟨m - 1, by omega⟩
            obtain ⟨x, HXK⟩ : ∃ x, Hid (xs.getD m' 0 = x) := ⟨_, rfl⟩
            have hck := HC.out m' (by omega)
            rw [HXK.out] at hck
            have hb := HT1.out m' (by omega) (by omega)
            rw [HXK.out] at hb
            rcases hb with rfl | rfl
            all_goals
              go_wp2
              go_round
              case rel => exact ⟨m', by omega, by omega, by go_num⟩
              case measure => simp [intOf]
          · have hmT' : m = T := by omega
            subst hmT'
            by_cases hm0 : m = 0
            · subst hm0
              go_wp2
              go_ret2
              exact ⟨AnsE.mk (Ans.empty xs), rfl⟩
            · obtain ⟨m', rfl⟩ : ∃ m', m = m' + 1 := ⟨m - 1, by omega⟩
              obtain ⟨x, HXK⟩ : ∃ x, Hid (xs.getD m' 0 = x) := ⟨_, rfl⟩
              have hck := HC.out m' (by omega)
              rw [HXK.out] at hck
              have hb := HT2.out (by omega)
              rw [show m' + 1 - 1 = m' from rfl, HXK.out] at hb
              have hb1 : (x == 32) = false := beq_eq_false_iff_ne.2 hb.1
              have hb2 : (x == 9) = false := beq_eq_false_iff_ne.2 hb.2
              clear hb
              go_wp2
              go_loop [6, 7] (fun f j => ∃ (q : Nat) (g : Int), q ≤ m' + 1 ∧ j = .int .i64 q ∧ f = .int .i64 g ∧ Hid (Lead xs q g) ∧ -1 ≤ g ∧ g < q) (fun _ j => m' + 1 - (intOf j).toNat)
              case atStart => exact ⟨0, -1, by omega, rfl, rfl, Lead_zero xs, by omega, by omega⟩
              case round =>
                obtain ⟨q, g, hq, rfl, rfl, HL, hg1, hg2⟩ := hrel
                by_cases hqm : q < m' + 1
                · obtain ⟨y, HY⟩ : ∃ y, Hid (xs.getD q 0 = y) := ⟨_, rfl⟩
                  have hcq := HC.out q (by omega)
                  rw [HY.out] at hcq
                  have hcon := fun W => hexVal_any y W
                  obtain ⟨d, HD⟩ : ∃ d, Hid (hv y = d) := ⟨_, rfl⟩
                  rw [HD.out] at hcon
                  have hdb := hv_bd y
                  rw [HD.out] at hdb
                  obtain ⟨hd1, hd2⟩ := hdb
                  have HYD : Hid (hv (xs.getD q 0) = d) := by rw [HY.out]; exact HD
                  have hqT : (q : Int) < ↑m' + 1 := by omega
                  by_cases hdneg : d < 0
                  · go_wp2_with (go_at_call 12; refine (hcon _).mono ?_; rintro e w' ⟨rfl, hw'⟩; obtain rfl := hw'.symm)
                    go_ret2
                    exact ⟨AnsE.mk (Ans.bad hqm (by rw [HYD.out]; omega)), rfl⟩
                  · have hd0 : d = 0 ∨ 0 < d := by omega
                    rcases hd0 with rfl | hdpos
                    · go_wp2_with (go_at_call 12; refine (hcon _).mono ?_; rintro e w' ⟨rfl, hw'⟩; obtain rfl := hw'.symm)
                      go_round
                      case rel => exact ⟨q + 1, g, by omega, by go_num, rfl, HL.out.zero HYD.out, by omega, by omega⟩
                      case measure => simp [intOf]; omega
                    · by_cases hgneg : g < 0
                      · go_wp2_with (go_at_call 12; refine (hcon _).mono ?_; rintro e w' ⟨rfl, hw'⟩; obtain rfl := hw'.symm)
                        go_round
                        case rel => exact ⟨q + 1, q, by omega, by go_num, rfl, HL.out.first (by omega) (by rw [HYD.out]; omega), by omega, by omega⟩
                        case measure => simp [intOf]; omega
                      · go_wp2_with (go_at_call 12; refine (hcon _).mono ?_; rintro e w' ⟨rfl, hw'⟩; obtain rfl := hw'.symm)
                        go_round
                        case rel => exact ⟨q + 1, g, by omega, by go_num, rfl, HL.out.later (by omega) (by rw [HYD.out]; omega), by omega, by omega⟩
                        case measure => simp [intOf]; omega
                · have hqm' : q = m' + 1 := by omega
                  subst hqm'
                  by_cases hgneg : g < 0
                  · go_wp2
                    go_ret2
                    exact ⟨AnsE.mk (Ans.zeros (by omega) HL.out (by omega)), rfl⟩
                  · obtain ⟨F, rfl⟩ : ∃ F : Nat, g = F := ⟨g.toNat, by omega⟩
                    obtain ⟨L, rfl⟩ : ∃ L : Nat, m' = F + L := ⟨m' - F, by omega⟩
                    by_cases hlong : 16 ≤ L
                    · have hlong' : 16 < (F : Int) + L + 1 - F := by omega
                      go_wp2
                      go_ret2
                      exact ⟨AnsE.mk (Ans.long (L := L) HL.out hlong), rfl⟩
                    · obtain ⟨y, HY⟩ : ∃ y, Hid (xs.getD F 0 = y) := ⟨_, rfl⟩
                      have hcq := HC.out F (by omega)
                      rw [HY.out] at hcq
                      have hcon := fun W => hexVal_any y W
                      obtain ⟨d, HD⟩ : ∃ d, Hid (hv y = d) := ⟨_, rfl⟩
                      rw [HD.out] at hcon
                      have HYD : Hid (hv (xs.getD F 0) = d) := by rw [HY.out]; exact HD
                      by_cases hbig : L = 15 ∧ 7 < d
                      · obtain ⟨rfl, hb2⟩ := hbig
                        go_wp2_with (go_at_call 12; refine (hcon _).mono ?_; rintro e w' ⟨rfl, hw'⟩; obtain rfl := hw'.symm)
                        go_ret2
                        exact ⟨AnsE.mk (Ans.great (F := F) HL.out (by rw [HYD.out]; omega)), rfl⟩
                      · have hcase : L ≤ 14 ∨ (15 ≤ L ∧ L ≤ 15 ∧ d ≤ 7) := by omega
                        have HFT : Hid (vl xs 0 (F + L + 1) < 9223372036854775808) := lead_fits (L := L) HL.out (by rw [HYD.out]; omega)
                        rcases hcase with hcase | ⟨hcase, hcase1, hcase2⟩
                        all_goals
                          go_wp2_with (go_at_call 12; refine (hcon _).mono ?_; rintro e w' ⟨rfl, hw'⟩; obtain rfl := hw'.symm)
                          clear hcon hcase
                          go_loop [9, 10, 11] (fun v s j => ∃ (q r : Nat) (V : Int), r + q ≤ L + 1 ∧ L + 1 ≤ r + q ∧ j = .int .i64 ((F : Int) + r - 1) ∧ s = .int .u64 (4 * (q : Int)) ∧ v = .int .u64 V ∧ Hid (V = vl xs (F + r) q) ∧ 0 ≤ V) (fun _ _ j => (intOf j + 1).toNat)
                          case atStart => exact ⟨0, L + 1, 0, by omega, by omega, by go_num, rfl, rfl, rfl, by omega⟩
                          case round =>
                            obtain ⟨q, r, V, hqr1, hqr2, rfl, rfl, rfl, HV, hV0⟩ := hrel
                            by_cases hr0 : r = 0
                            · subst hr0
                              have hq : q = L + 1 := by omega
                              subst hq
                              have HVE : Hid (V = vl xs 0 (F + L + 1)) := by
                                have h2 := HL.out
                                rcases h2.2 with ⟨h3, _⟩ | ⟨_, _, _, h3⟩
                                · omega
                                · have h4 := vl_zeros xs F (L + 1) (by simpa using h3)
                                  show V = _
                                  rw [HV.out, Nat.add_zero, ← h4]
                                  rfl
                              have hVm : V < 9223372036854775808 := by rw [HVE.out]; exact HFT.out
                              have HA : Hid (Ans xs (F + L + 1) V true) := by
                                have h1 := Ans.good (xs := xs) (T := F + L + 1) (by omega) HL.out.1 HFT.out
                                rw [← HVE.out] at h1
                                exact h1
                              go_wp2
                              go_ret2
                              exact ⟨AnsE.mk HA.out, rfl⟩
                            · obtain ⟨r', rfl⟩ : ∃ r', r = r' + 1 := ⟨r - 1, by omega⟩
                              obtain ⟨z, HZ⟩ : ∃ z, Hid (xs.getD (F + r') 0 = z) := ⟨_, rfl⟩
                              have hcz := HC.out (F + r') (by omega)
                              rw [HZ.out] at hcz
                              have hconz := fun W => hexVal_any z W
                              obtain ⟨dz, HDZ⟩ : ∃ d, Hid (hv z = d) := ⟨_, rfl⟩
                              rw [HDZ.out] at hconz
                              have HYZ : Hid (hv (xs.getD (F + r') 0) = dz) := by rw [HZ.out]; exact HDZ
                              have hdz1 : 0 ≤ dz := by have := HL.out.1 (F + r') (by omega); rw [HYZ.out] at this; exact this
                              have hdz2 : dz ≤ 15 := by have := (hv_bd (xs.getD (F + r') 0)).2; rw [HYZ.out] at this; exact this
                              have HO : Hid (bits .or .u64 V (IntKind.u64.wrap (dz * 2 ^ (4 * q))) = V + dz * 16 ^ q) := or_shift V dz q (by omega) hV0 (by rw [HV.out]; exact vl_lt _ _ _) hdz1 hdz2
                              have HN : Hid (V + dz * 16 ^ q = vl xs (F + r') (q + 1)) := by
                                show V + dz * 16 ^ q = vl xs (F + r') (q + 1)
                                rw [vl_first, HYZ.out, HV.out, show F + (r' + 1) = F + r' + 1 from rfl]
                                exact Int.add_comm _ _
                              have hN0 : 0 ≤ V + dz * 16 ^ q := by
                                have : (0 : Int) ≤ dz * 16 ^ q := Int.mul_nonneg hdz1 (Int.le_of_lt (Int.pow_pos (by omega)))
                                omega
                              go_wp2_with (go_at_call 12; refine (hconz _).mono ?_; rintro e w' ⟨rfl, hw'⟩; obtain rfl := hw'.symm)
                              go_round
                              case rel => exact ⟨q + 1, r', V + dz * 16 ^ q, by omega, by omega, by go_num, by go_num, by rw [HO.out], HN, hN0⟩
                              case measure => simp [intOf]; omega
end Go.Proofs.Qxb6605477aDoor
