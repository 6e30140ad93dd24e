import Derived.Test.Qxb6605662aDoorV3
import Derived.Handy
set_option linter.unusedVariables false
namespace Go.Proofs.Qxb6605662aDoor
open Go.RowKit

/-- cells of a text, wherever it lies -/
def Cells (w : World) (pa : Option Addr) (n : Nat) (l : List Int) : Prop := ∀ i, i < n → ∃ b o, pa = some ⟨b, o, none⟩ ∧ w.cell? ⟨b, o + i, none⟩ = some (.int .u8 (l.getD i 0))
set_option maxHeartbeats 40000000 in
set_option maxRecDepth 100000 in
theorem zzvalid_any (pa : Option Addr) (n cap : Nat) (l : List Int) (w : World) (hn : n ≤ 2147483648) (hx : l.length = n) (hb : InB l) (hc : Cells w pa n l) :
    Calls Tryd.prog 28 #[.slice pa n cap] w fun e w' => e = .returned (.bool (vu l)) ∧ w' = w := by
  have HX : Hid (l.length = n) := hx
  have HC : Hid (Cells w pa n l) := hc
  have HI : Hid (InB l) := hb
  obtain ⟨ANS, HANS⟩ : ∃ ANS, Hid (vu l = ANS) := ⟨_, rfl⟩
  rw [HANS.out]
  clear hx hc hb
  go_enter Tryd.func28, Tryd.ntmps28
  go_wp2
  go_loop [3] (fun i => ∃ j : Nat, j ≤ n ∧ i = .int .i64 j ∧ Hid (vu (l.drop j) = ANS)) (fun i => n - (intOf i).toNat)
  case atStart => exact ⟨0, Nat.zero_le _, rfl, HANS⟩
  case round =>
    obtain ⟨j, hj, rfl, HV⟩ := hrel
    by_cases hjn : j < n
    · have hjl : Hid (j < l.length) := by show j < l.length; rw [HX.out]; exact hjn
      obtain ⟨b, o, hp, hcell⟩ := HC.out j hjn
      subst hp
      have HC' : Hid (∀ i, i < n → w.cell? ⟨b, o + i, none⟩ = some (.int .u8 (l.getD i 0))) := fun i hi => by
        obtain ⟨b', o', hp', h⟩ := HC.out i hi
        simp only [Option.some.injEq, Addr.mk.injEq, and_true] at hp'
        obtain ⟨rfl, rfl⟩ := hp'
        exact h
      obtain ⟨x, HXK⟩ : ∃ x, Hid (l.getD j 0 = x) := ⟨_, rfl⟩
      rw [HXK.out] at hcell
      have hx0 : 0 ≤ x := by have := (HI.out j).1; rw [HXK.out] at this; exact this
      have hx1 : x < 256 := by have := (HI.out j).2; rw [HXK.out] at this; exact this
      have hji : (j : Int) < n := by omega
      by_cases hasc : x < 128
      · have HV1 : Hid (vu (l.drop (j + 1)) = ANS) := (vu_at_asc hjl.out (by rw [HXK.out]; exact hasc)).symm.trans HV.out
        go_wp2
        go_round
        case rel => exact ⟨j + 1, by omega, by go_num, HV1⟩
        case measure => simp [intOf]; omega
      · have HKX : Hid (¬ l.getD j 0 < 128) := by rw [HXK.out]; exact hasc
        have HLN : Hid (l.length = n) := HX
        by_cases hc0 : 194 ≤ x ∧ x ≤ 223
        · as_aux_lemma =>
          have hcl : cls x = some (1, 128, 191) := by
            unfold cls
            rw [if_pos (show 194 ≤ x ∧ x ≤ 223 by omega)]
          have HSM : Hid (vu (l.drop j) = if l.length < j + 1 + 1 ∨ l.getD (j + 1) 0 < 128 ∨ 191 < l.getD (j + 1) 0 ∨ (((l.drop (j + 1)).take 1).drop 1).all cont = false then false else vu (l.drop (j + 1 + 1))) := vu_at_some hjl.out HKX.out (by rw [HXK.out]; exact hcl)
          clear hcl
          obtain ⟨hca, hcb⟩ := hc0
          by_cases hs : n ≤ j + 1
          · have HNO : Hid (vu (l.drop j) = false) := by show _ = _; rw [HSM.out, if_pos (.inl (by rw [HLN.out]; omega))]
            have hsi : (n : Int) - (j : Int) ≤ 1 := by omega
            go_wp2
            go_ret
            rw [← HV.out, HNO.out]
            exact ⟨rfl, rfl⟩
          have hsi : ¬ (n : Int) - (j : Int) ≤ 1 := by omega
          obtain ⟨y, Hy⟩ : ∃ y, Hid (l.getD (j + 1) 0 = y) := ⟨_, rfl⟩
          have cy : w.cell? ⟨b, o + (j + 1), none⟩ = some (.int .u8 y) := by have h := HC'.out (j + 1) (by omega); rw [Hy.out] at h; exact h
          have bdy : 0 ≤ y ∧ y < 256 := by have := HI.out (j + 1); rw [Hy.out] at this; exact this
          have iy : (j : Int) + 1 < n := by omega
          by_cases hy1 : y < 128
          · have HNO : Hid (vu (l.drop j) = false) := by show _ = _; rw [HSM.out, if_pos (.inr (.inl (by rw [Hy.out]; exact hy1)))]
            go_wp2
            go_ret
            rw [← HV.out, HNO.out]
            exact ⟨rfl, rfl⟩
          by_cases hy2 : 191 < y
          · have HNO : Hid (vu (l.drop j) = false) := by show _ = _; rw [HSM.out, if_pos (.inr (.inr (.inl (by rw [Hy.out]; exact hy2))))]
            go_wp2
            go_ret
            rw [← HV.out, HNO.out]
            exact ⟨rfl, rfl⟩
          have HCT : Hid ((((l.drop (j + 1)).take 1).drop 1).all cont = true) := conts1 l j
          have HV1 : Hid (vu (l.drop (j + 1 + 1)) = ANS) := by
            have hn' : ¬ (l.length < j + 1 + 1 ∨ l.getD (j + 1) 0 < 128 ∨ 191 < l.getD (j + 1) 0 ∨ (((l.drop (j + 1)).take 1).drop 1).all cont = false) := by
              rw [HCT.out, Hy.out, HLN.out]
              exact fun h => h.elim (fun h => by omega) (fun h => h.elim hy1 (fun h => h.elim hy2 (fun h => by cases h)))
            have h := HSM.out
            rw [if_neg hn'] at h
            exact h.symm.trans HV.out
          go_wp2
          go_rounds 4
          go_round
          case rel => exact ⟨j + 1 + 1, by omega, by go_num, HV1⟩
          case measure => simp [intOf]; omega
        by_cases hc1 : 224 ≤ x ∧ x ≤ 224
        · as_aux_lemma =>
          have hcl : cls x = some (2, 160, 191) := by
            unfold cls
            rw [if_neg (show ¬ (194 ≤ x ∧ x ≤ 223) by omega), if_pos (show x = 224 by omega)]
          have HSM : Hid (vu (l.drop j) = if l.length < j + 1 + 2 ∨ l.getD (j + 1) 0 < 160 ∨ 191 < l.getD (j + 1) 0 ∨ (((l.drop (j + 1)).take 2).drop 1).all cont = false then false else vu (l.drop (j + 1 + 2))) := vu_at_some hjl.out HKX.out (by rw [HXK.out]; exact hcl)
          clear hcl
          obtain ⟨hca, hcb⟩ := hc1
          obtain rfl : x = 224 := by omega
          clear hca hcb hx0 hx1 hasc
          clear hc0
          by_cases hs : n ≤ j + 2
          · have HNO : Hid (vu (l.drop j) = false) := by show _ = _; rw [HSM.out, if_pos (.inl (by rw [HLN.out]; omega))]
            have hsi : (n : Int) - (j : Int) ≤ 2 := by omega
            go_wp2
            go_ret
            rw [← HV.out, HNO.out]
            exact ⟨rfl, rfl⟩
          have hsi : ¬ (n : Int) - (j : Int) ≤ 2 := by omega
          obtain ⟨y, Hy⟩ : ∃ y, Hid (l.getD (j + 1) 0 = y) := ⟨_, rfl⟩
          have cy : w.cell? ⟨b, o + (j + 1), none⟩ = some (.int .u8 y) := by have h := HC'.out (j + 1) (by omega); rw [Hy.out] at h; exact h
          have bdy : 0 ≤ y ∧ y < 256 := by have := HI.out (j + 1); rw [Hy.out] at this; exact this
          have iy : (j : Int) + 1 < n := by omega
          obtain ⟨z, Hz⟩ : ∃ z, Hid (l.getD (j + 2) 0 = z) := ⟨_, rfl⟩
          have cz : w.cell? ⟨b, o + (j + 2), none⟩ = some (.int .u8 z) := by have h := HC'.out (j + 2) (by omega); rw [Hz.out] at h; exact h
          have bdz : 0 ≤ z ∧ z < 256 := by have := HI.out (j + 2); rw [Hz.out] at this; exact this
          have iz : (j : Int) + 2 < n := by omega
          by_cases hy1 : y < 160
          · have HNO : Hid (vu (l.drop j) = false) := by show _ = _; rw [HSM.out, if_pos (.inr (.inl (by rw [Hy.out]; exact hy1)))]
            go_wp2
            go_ret
            rw [← HV.out, HNO.out]
            exact ⟨rfl, rfl⟩
          by_cases hy2 : 191 < y
          · have HNO : Hid (vu (l.drop j) = false) := by show _ = _; rw [HSM.out, if_pos (.inr (.inr (.inl (by rw [Hy.out]; exact hy2))))]
            go_wp2
            go_ret
            rw [← HV.out, HNO.out]
            exact ⟨rfl, rfl⟩
          have HCT : Hid ((((l.drop (j + 1)).take 2).drop 1).all cont = cont z) := by show _ = _; rw [← Hz.out]; exact conts2 l j (by rw [HLN.out]; omega)
          by_cases hz1 : z < 128
          · have HNO : Hid (vu (l.drop j) = false) := by
              have hct := HCT.out
              rw [(cont_no z).2 (by omega)] at hct
              show _ = _; rw [HSM.out, if_pos (.inr (.inr (.inr hct)))]
            go_wp2
            go_rounds 4
            go_ret
            rw [← HV.out, HNO.out]
            exact ⟨rfl, rfl⟩
          by_cases hz2 : 191 < z
          · have HNO : Hid (vu (l.drop j) = false) := by
              have hct := HCT.out
              rw [(cont_no z).2 (by omega)] at hct
              show _ = _; rw [HSM.out, if_pos (.inr (.inr (.inr hct)))]
            go_wp2
            go_rounds 4
            go_ret
            rw [← HV.out, HNO.out]
            exact ⟨rfl, rfl⟩
          have HV1 : Hid (vu (l.drop (j + 1 + 2)) = ANS) := by
            have hn' : ¬ (l.length < j + 1 + 2 ∨ l.getD (j + 1) 0 < 160 ∨ 191 < l.getD (j + 1) 0 ∨ (((l.drop (j + 1)).take 2).drop 1).all cont = false) := by
              rw [HCT.out, (cont_iff z).2 (by omega), Hy.out, HLN.out]
              exact fun h => h.elim (fun h => by omega) (fun h => h.elim hy1 (fun h => h.elim hy2 (fun h => by cases h)))
            have h := HSM.out
            rw [if_neg hn'] at h
            exact h.symm.trans HV.out
          go_wp2
          go_rounds 4
          go_round
          case rel => exact ⟨j + 1 + 2, by omega, by go_num, HV1⟩
          case measure => simp [intOf]; omega
        by_cases hc2 : 225 ≤ x ∧ x ≤ 236
        · as_aux_lemma =>
          have hcl : cls x = some (2, 128, 191) := by
            unfold cls
            rw [if_neg (show ¬ (194 ≤ x ∧ x ≤ 223) by omega), if_neg (show ¬ (x = 224) by omega), if_pos (show 225 ≤ x ∧ x ≤ 236 by omega)]
          have HSM : Hid (vu (l.drop j) = if l.length < j + 1 + 2 ∨ l.getD (j + 1) 0 < 128 ∨ 191 < l.getD (j + 1) 0 ∨ (((l.drop (j + 1)).take 2).drop 1).all cont = false then false else vu (l.drop (j + 1 + 2))) := vu_at_some hjl.out HKX.out (by rw [HXK.out]; exact hcl)
          clear hcl
          obtain ⟨hca, hcb⟩ := hc2
          have hne1 : (x == 224) = false := beq_eq_false_iff_ne.2 (by omega)
          clear hc0 hc1
          by_cases hs : n ≤ j + 2
          · have HNO : Hid (vu (l.drop j) = false) := by show _ = _; rw [HSM.out, if_pos (.inl (by rw [HLN.out]; omega))]
            have hsi : (n : Int) - (j : Int) ≤ 2 := by omega
            go_wp2
            go_ret
            rw [← HV.out, HNO.out]
            exact ⟨rfl, rfl⟩
          have hsi : ¬ (n : Int) - (j : Int) ≤ 2 := by omega
          obtain ⟨y, Hy⟩ : ∃ y, Hid (l.getD (j + 1) 0 = y) := ⟨_, rfl⟩
          have cy : w.cell? ⟨b, o + (j + 1), none⟩ = some (.int .u8 y) := by have h := HC'.out (j + 1) (by omega); rw [Hy.out] at h; exact h
          have bdy : 0 ≤ y ∧ y < 256 := by have := HI.out (j + 1); rw [Hy.out] at this; exact this
          have iy : (j : Int) + 1 < n := by omega
          obtain ⟨z, Hz⟩ : ∃ z, Hid (l.getD (j + 2) 0 = z) := ⟨_, rfl⟩
          have cz : w.cell? ⟨b, o + (j + 2), none⟩ = some (.int .u8 z) := by have h := HC'.out (j + 2) (by omega); rw [Hz.out] at h; exact h
          have bdz : 0 ≤ z ∧ z < 256 := by have := HI.out (j + 2); rw [Hz.out] at this; exact this
          have iz : (j : Int) + 2 < n := by omega
          by_cases hy1 : y < 128
          · have HNO : Hid (vu (l.drop j) = false) := by show _ = _; rw [HSM.out, if_pos (.inr (.inl (by rw [Hy.out]; exact hy1)))]
            go_wp2
            go_ret
            rw [← HV.out, HNO.out]
            exact ⟨rfl, rfl⟩
          by_cases hy2 : 191 < y
          · have HNO : Hid (vu (l.drop j) = false) := by show _ = _; rw [HSM.out, if_pos (.inr (.inr (.inl (by rw [Hy.out]; exact hy2))))]
            go_wp2
            go_ret
            rw [← HV.out, HNO.out]
            exact ⟨rfl, rfl⟩
          have HCT : Hid ((((l.drop (j + 1)).take 2).drop 1).all cont = cont z) := by show _ = _; rw [← Hz.out]; exact conts2 l j (by rw [HLN.out]; omega)
          by_cases hz1 : z < 128
          · have HNO : Hid (vu (l.drop j) = false) := by
              have hct := HCT.out
              rw [(cont_no z).2 (by omega)] at hct
              show _ = _; rw [HSM.out, if_pos (.inr (.inr (.inr hct)))]
            go_wp2
            go_rounds 4
            go_ret
            rw [← HV.out, HNO.out]
            exact ⟨rfl, rfl⟩
          by_cases hz2 : 191 < z
          · have HNO : Hid (vu (l.drop j) = false) := by
              have hct := HCT.out
              rw [(cont_no z).2 (by omega)] at hct
              show _ = _; rw [HSM.out, if_pos (.inr (.inr (.inr hct)))]
            go_wp2
            go_rounds 4
            go_ret
            rw [← HV.out, HNO.out]
            exact ⟨rfl, rfl⟩
          have HV1 : Hid (vu (l.drop (j + 1 + 2)) = ANS) := by
            have hn' : ¬ (l.length < j + 1 + 2 ∨ l.getD (j + 1) 0 < 128 ∨ 191 < l.getD (j + 1) 0 ∨ (((l.drop (j + 1)).take 2).drop 1).all cont = false) := by
              rw [HCT.out, (cont_iff z).2 (by omega), Hy.out, HLN.out]
              exact fun h => h.elim (fun h => by omega) (fun h => h.elim hy1 (fun h => h.elim hy2 (fun h => by cases h)))
            have h := HSM.out
            rw [if_neg hn'] at h
            exact h.symm.trans HV.out
          go_wp2
          go_rounds 4
          go_round
          case rel => exact ⟨j + 1 + 2, by omega, by go_num, HV1⟩
          case measure => simp [intOf]; omega
        by_cases hc3 : 237 ≤ x ∧ x ≤ 237
        · as_aux_lemma =>
          have hcl : cls x = some (2, 128, 159) := by
            unfold cls
            rw [if_neg (show ¬ (194 ≤ x ∧ x ≤ 223) by omega), if_neg (show ¬ (x = 224) by omega), if_neg (show ¬ (225 ≤ x ∧ x ≤ 236) by omega), if_pos (show x = 237 by omega)]
          have HSM : Hid (vu (l.drop j) = if l.length < j + 1 + 2 ∨ l.getD (j + 1) 0 < 128 ∨ 159 < l.getD (j + 1) 0 ∨ (((l.drop (j + 1)).take 2).drop 1).all cont = false then false else vu (l.drop (j + 1 + 2))) := vu_at_some hjl.out HKX.out (by rw [HXK.out]; exact hcl)
          clear hcl
          obtain ⟨hca, hcb⟩ := hc3
          obtain rfl : x = 237 := by omega
          clear hca hcb hx0 hx1 hasc
          clear hc0 hc1 hc2
          by_cases hs : n ≤ j + 2
          · have HNO : Hid (vu (l.drop j) = false) := by show _ = _; rw [HSM.out, if_pos (.inl (by rw [HLN.out]; omega))]
            have hsi : (n : Int) - (j : Int) ≤ 2 := by omega
            go_wp2
            go_ret
            rw [← HV.out, HNO.out]
            exact ⟨rfl, rfl⟩
          have hsi : ¬ (n : Int) - (j : Int) ≤ 2 := by omega
          obtain ⟨y, Hy⟩ : ∃ y, Hid (l.getD (j + 1) 0 = y) := ⟨_, rfl⟩
          have cy : w.cell? ⟨b, o + (j + 1), none⟩ = some (.int .u8 y) := by have h := HC'.out (j + 1) (by omega); rw [Hy.out] at h; exact h
          have bdy : 0 ≤ y ∧ y < 256 := by have := HI.out (j + 1); rw [Hy.out] at this; exact this
          have iy : (j : Int) + 1 < n := by omega
          obtain ⟨z, Hz⟩ : ∃ z, Hid (l.getD (j + 2) 0 = z) := ⟨_, rfl⟩
          have cz : w.cell? ⟨b, o + (j + 2), none⟩ = some (.int .u8 z) := by have h := HC'.out (j + 2) (by omega); rw [Hz.out] at h; exact h
          have bdz : 0 ≤ z ∧ z < 256 := by have := HI.out (j + 2); rw [Hz.out] at this; exact this
          have iz : (j : Int) + 2 < n := by omega
          by_cases hy1 : y < 128
          · have HNO : Hid (vu (l.drop j) = false) := by show _ = _; rw [HSM.out, if_pos (.inr (.inl (by rw [Hy.out]; exact hy1)))]
            go_wp2
            go_ret
            rw [← HV.out, HNO.out]
            exact ⟨rfl, rfl⟩
          by_cases hy2 : 159 < y
          · have HNO : Hid (vu (l.drop j) = false) := by show _ = _; rw [HSM.out, if_pos (.inr (.inr (.inl (by rw [Hy.out]; exact hy2))))]
            go_wp2
            go_ret
            rw [← HV.out, HNO.out]
            exact ⟨rfl, rfl⟩
          have HCT : Hid ((((l.drop (j + 1)).take 2).drop 1).all cont = cont z) := by show _ = _; rw [← Hz.out]; exact conts2 l j (by rw [HLN.out]; omega)
          by_cases hz1 : z < 128
          · have HNO : Hid (vu (l.drop j) = false) := by
              have hct := HCT.out
              rw [(cont_no z).2 (by omega)] at hct
              show _ = _; rw [HSM.out, if_pos (.inr (.inr (.inr hct)))]
            go_wp2
            go_rounds 4
            go_ret
            rw [← HV.out, HNO.out]
            exact ⟨rfl, rfl⟩
          by_cases hz2 : 191 < z
          · have HNO : Hid (vu (l.drop j) = false) := by
              have hct := HCT.out
              rw [(cont_no z).2 (by omega)] at hct
              show _ = _; rw [HSM.out, if_pos (.inr (.inr (.inr hct)))]
            go_wp2
            go_rounds 4
            go_ret
            rw [← HV.out, HNO.out]
            exact ⟨rfl, rfl⟩
          have HV1 : Hid (vu (l.drop (j + 1 + 2)) = ANS) := by
            have hn' : ¬ (l.length < j + 1 + 2 ∨ l.getD (j + 1) 0 < 128 ∨ 159 < l.getD (j + 1) 0 ∨ (((l.drop (j + 1)).take 2).drop 1).all cont = false) := by
              rw [HCT.out, (cont_iff z).2 (by omega), Hy.out, HLN.out]
              exact fun h => h.elim (fun h => by omega) (fun h => h.elim hy1 (fun h => h.elim hy2 (fun h => by cases h)))
            have h := HSM.out
            rw [if_neg hn'] at h
            exact h.symm.trans HV.out
          go_wp2
          go_rounds 4
          go_round
          case rel => exact ⟨j + 1 + 2, by omega, by go_num, HV1⟩
          case measure => simp [intOf]; omega
        by_cases hc4 : 238 ≤ x ∧ x ≤ 238
        · as_aux_lemma =>
          have hcl : cls x = some (2, 128, 191) := by
            unfold cls
            rw [if_neg (show ¬ (194 ≤ x ∧ x ≤ 223) by omega), if_neg (show ¬ (x = 224) by omega), if_neg (show ¬ (225 ≤ x ∧ x ≤ 236) by omega), if_neg (show ¬ (x = 237) by omega), if_pos (show 238 ≤ x ∧ x ≤ 239 by omega)]
          have HSM : Hid (vu (l.drop j) = if l.length < j + 1 + 2 ∨ l.getD (j + 1) 0 < 128 ∨ 191 < l.getD (j + 1) 0 ∨ (((l.drop (j + 1)).take 2).drop 1).all cont = false then false else vu (l.drop (j + 1 + 2))) := vu_at_some hjl.out HKX.out (by rw [HXK.out]; exact hcl)
          clear hcl
          obtain ⟨hca, hcb⟩ := hc4
          obtain rfl : x = 238 := by omega
          clear hca hcb hx0 hx1 hasc
          clear hc0 hc1 hc2 hc3
          by_cases hs : n ≤ j + 2
          · have HNO : Hid (vu (l.drop j) = false) := by show _ = _; rw [HSM.out, if_pos (.inl (by rw [HLN.out]; omega))]
            have hsi : (n : Int) - (j : Int) ≤ 2 := by omega
            go_wp2
            go_ret
            rw [← HV.out, HNO.out]
            exact ⟨rfl, rfl⟩
          have hsi : ¬ (n : Int) - (j : Int) ≤ 2 := by omega
          obtain ⟨y, Hy⟩ : ∃ y, Hid (l.getD (j + 1) 0 = y) := ⟨_, rfl⟩
          have cy : w.cell? ⟨b, o + (j + 1), none⟩ = some (.int .u8 y) := by have h := HC'.out (j + 1) (by omega); rw [Hy.out] at h; exact h
          have bdy : 0 ≤ y ∧ y < 256 := by have := HI.out (j + 1); rw [Hy.out] at this; exact this
          have iy : (j : Int) + 1 < n := by omega
          obtain ⟨z, Hz⟩ : ∃ z, Hid (l.getD (j + 2) 0 = z) := ⟨_, rfl⟩
          have cz : w.cell? ⟨b, o + (j + 2), none⟩ = some (.int .u8 z) := by have h := HC'.out (j + 2) (by omega); rw [Hz.out] at h; exact h
          have bdz : 0 ≤ z ∧ z < 256 := by have := HI.out (j + 2); rw [Hz.out] at this; exact this
          have iz : (j : Int) + 2 < n := by omega
          by_cases hy1 : y < 128
          · have HNO : Hid (vu (l.drop j) = false) := by show _ = _; rw [HSM.out, if_pos (.inr (.inl (by rw [Hy.out]; exact hy1)))]
            go_wp2
            go_ret
            rw [← HV.out, HNO.out]
            exact ⟨rfl, rfl⟩
          by_cases hy2 : 191 < y
          · have HNO : Hid (vu (l.drop j) = false) := by show _ = _; rw [HSM.out, if_pos (.inr (.inr (.inl (by rw [Hy.out]; exact hy2))))]
            go_wp2
            go_ret
            rw [← HV.out, HNO.out]
            exact ⟨rfl, rfl⟩
          have HCT : Hid ((((l.drop (j + 1)).take 2).drop 1).all cont = cont z) := by show _ = _; rw [← Hz.out]; exact conts2 l j (by rw [HLN.out]; omega)
          by_cases hz1 : z < 128
          · have HNO : Hid (vu (l.drop j) = false) := by
              have hct := HCT.out
              rw [(cont_no z).2 (by omega)] at hct
              show _ = _; rw [HSM.out, if_pos (.inr (.inr (.inr hct)))]
            go_wp2
            go_rounds 4
            go_ret
            rw [← HV.out, HNO.out]
            exact ⟨rfl, rfl⟩
          by_cases hz2 : 191 < z
          · have HNO : Hid (vu (l.drop j) = false) := by
              have hct := HCT.out
              rw [(cont_no z).2 (by omega)] at hct
              show _ = _; rw [HSM.out, if_pos (.inr (.inr (.inr hct)))]
            go_wp2
            go_rounds 4
            go_ret
            rw [← HV.out, HNO.out]
            exact ⟨rfl, rfl⟩
          have HV1 : Hid (vu (l.drop (j + 1 + 2)) = ANS) := by
            have hn' : ¬ (l.length < j + 1 + 2 ∨ l.getD (j + 1) 0 < 128 ∨ 191 < l.getD (j + 1) 0 ∨ (((l.drop (j + 1)).take 2).drop 1).all cont = false) := by
              rw [HCT.out, (cont_iff z).2 (by omega), Hy.out, HLN.out]
              exact fun h => h.elim (fun h => by omega) (fun h => h.elim hy1 (fun h => h.elim hy2 (fun h => by cases h)))
            have h := HSM.out
            rw [if_neg hn'] at h
            exact h.symm.trans HV.out
          go_wp2
          go_rounds 4
          go_round
          case rel => exact ⟨j + 1 + 2, by omega, by go_num, HV1⟩
          case measure => simp [intOf]; omega
        by_cases hc5 : 239 ≤ x ∧ x ≤ 239
        · as_aux_lemma =>
          have hcl : cls x = some (2, 128, 191) := by
            unfold cls
            rw [if_neg (show ¬ (194 ≤ x ∧ x ≤ 223) by omega), if_neg (show ¬ (x = 224) by omega), if_neg (show ¬ (225 ≤ x ∧ x ≤ 236) by omega), if_neg (show ¬ (x = 237) by omega), if_pos (show 238 ≤ x ∧ x ≤ 239 by omega)]
          have HSM : Hid (vu (l.drop j) = if l.length < j + 1 + 2 ∨ l.getD (j + 1) 0 < 128 ∨ 191 < l.getD (j + 1) 0 ∨ (((l.drop (j + 1)).take 2).drop 1).all cont = false then false else vu (l.drop (j + 1 + 2))) := vu_at_some hjl.out HKX.out (by rw [HXK.out]; exact hcl)
          clear hcl
          obtain ⟨hca, hcb⟩ := hc5
          obtain rfl : x = 239 := by omega
          clear hca hcb hx0 hx1 hasc
          clear hc0 hc1 hc2 hc3 hc4
          by_cases hs : n ≤ j + 2
          · have HNO : Hid (vu (l.drop j) = false) := by show _ = _; rw [HSM.out, if_pos (.inl (by rw [HLN.out]; omega))]
            have hsi : (n : Int) - (j : Int) ≤ 2 := by omega
            go_wp2
            go_ret
            rw [← HV.out, HNO.out]
            exact ⟨rfl, rfl⟩
          have hsi : ¬ (n : Int) - (j : Int) ≤ 2 := by omega
          obtain ⟨y, Hy⟩ : ∃ y, Hid (l.getD (j + 1) 0 = y) := ⟨_, rfl⟩
          have cy : w.cell? ⟨b, o + (j + 1), none⟩ = some (.int .u8 y) := by have h := HC'.out (j + 1) (by omega); rw [Hy.out] at h; exact h
          have bdy : 0 ≤ y ∧ y < 256 := by have := HI.out (j + 1); rw [Hy.out] at this; exact this
          have iy : (j : Int) + 1 < n := by omega
          obtain ⟨z, Hz⟩ : ∃ z, Hid (l.getD (j + 2) 0 = z) := ⟨_, rfl⟩
          have cz : w.cell? ⟨b, o + (j + 2), none⟩ = some (.int .u8 z) := by have h := HC'.out (j + 2) (by omega); rw [Hz.out] at h; exact h
          have bdz : 0 ≤ z ∧ z < 256 := by have := HI.out (j + 2); rw [Hz.out] at this; exact this
          have iz : (j : Int) + 2 < n := by omega
          by_cases hy1 : y < 128
          · have HNO : Hid (vu (l.drop j) = false) := by show _ = _; rw [HSM.out, if_pos (.inr (.inl (by rw [Hy.out]; exact hy1)))]
            go_wp2
            go_ret
            rw [← HV.out, HNO.out]
            exact ⟨rfl, rfl⟩
          by_cases hy2 : 191 < y
          · have HNO : Hid (vu (l.drop j) = false) := by show _ = _; rw [HSM.out, if_pos (.inr (.inr (.inl (by rw [Hy.out]; exact hy2))))]
            go_wp2
            go_ret
            rw [← HV.out, HNO.out]
            exact ⟨rfl, rfl⟩
          have HCT : Hid ((((l.drop (j + 1)).take 2).drop 1).all cont = cont z) := by show _ = _; rw [← Hz.out]; exact conts2 l j (by rw [HLN.out]; omega)
          by_cases hz1 : z < 128
          · have HNO : Hid (vu (l.drop j) = false) := by
              have hct := HCT.out
              rw [(cont_no z).2 (by omega)] at hct
              show _ = _; rw [HSM.out, if_pos (.inr (.inr (.inr hct)))]
            go_wp2
            go_rounds 4
            go_ret
            rw [← HV.out, HNO.out]
            exact ⟨rfl, rfl⟩
          by_cases hz2 : 191 < z
          · have HNO : Hid (vu (l.drop j) = false) := by
              have hct := HCT.out
              rw [(cont_no z).2 (by omega)] at hct
              show _ = _; rw [HSM.out, if_pos (.inr (.inr (.inr hct)))]
            go_wp2
            go_rounds 4
            go_ret
            rw [← HV.out, HNO.out]
            exact ⟨rfl, rfl⟩
          have HV1 : Hid (vu (l.drop (j + 1 + 2)) = ANS) := by
            have hn' : ¬ (l.length < j + 1 + 2 ∨ l.getD (j + 1) 0 < 128 ∨ 191 < l.getD (j + 1) 0 ∨ (((l.drop (j + 1)).take 2).drop 1).all cont = false) := by
              rw [HCT.out, (cont_iff z).2 (by omega), Hy.out, HLN.out]
              exact fun h => h.elim (fun h => by omega) (fun h => h.elim hy1 (fun h => h.elim hy2 (fun h => by cases h)))
            have h := HSM.out
            rw [if_neg hn'] at h
            exact h.symm.trans HV.out
          go_wp2
          go_rounds 4
          go_round
          case rel => exact ⟨j + 1 + 2, by omega, by go_num, HV1⟩
          case measure => simp [intOf]; omega
        by_cases hc6 : 240 ≤ x ∧ x ≤ 240
        · as_aux_lemma =>
          have hcl : cls x = some (3, 144, 191) := by
            unfold cls
            rw [if_neg (show ¬ (194 ≤ x ∧ x ≤ 223) by omega), if_neg (show ¬ (x = 224) by omega), if_neg (show ¬ (225 ≤ x ∧ x ≤ 236) by omega), if_neg (show ¬ (x = 237) by omega), if_neg (show ¬ (238 ≤ x ∧ x ≤ 239) by omega), if_pos (show x = 240 by omega)]
          have HSM : Hid (vu (l.drop j) = if l.length < j + 1 + 3 ∨ l.getD (j + 1) 0 < 144 ∨ 191 < l.getD (j + 1) 0 ∨ (((l.drop (j + 1)).take 3).drop 1).all cont = false then false else vu (l.drop (j + 1 + 3))) := vu_at_some hjl.out HKX.out (by rw [HXK.out]; exact hcl)
          clear hcl
          obtain ⟨hca, hcb⟩ := hc6
          obtain rfl : x = 240 := by omega
          clear hca hcb hx0 hx1 hasc
          clear hc0 hc1 hc2 hc3 hc4 hc5
          by_cases hs : n ≤ j + 3
          · have HNO : Hid (vu (l.drop j) = false) := by show _ = _; rw [HSM.out, if_pos (.inl (by rw [HLN.out]; omega))]
            have hsi : (n : Int) - (j : Int) ≤ 3 := by omega
            go_wp2
            go_ret
            rw [← HV.out, HNO.out]
            exact ⟨rfl, rfl⟩
          have hsi : ¬ (n : Int) - (j : Int) ≤ 3 := by omega
          obtain ⟨y, Hy⟩ : ∃ y, Hid (l.getD (j + 1) 0 = y) := ⟨_, rfl⟩
          have cy : w.cell? ⟨b, o + (j + 1), none⟩ = some (.int .u8 y) := by have h := HC'.out (j + 1) (by omega); rw [Hy.out] at h; exact h
          have bdy : 0 ≤ y ∧ y < 256 := by have := HI.out (j + 1); rw [Hy.out] at this; exact this
          have iy : (j : Int) + 1 < n := by omega
          obtain ⟨z, Hz⟩ : ∃ z, Hid (l.getD (j + 2) 0 = z) := ⟨_, rfl⟩
          have cz : w.cell? ⟨b, o + (j + 2), none⟩ = some (.int .u8 z) := by have h := HC'.out (j + 2) (by omega); rw [Hz.out] at h; exact h
          have bdz : 0 ≤ z ∧ z < 256 := by have := HI.out (j + 2); rw [Hz.out] at this; exact this
          have iz : (j : Int) + 2 < n := by omega
          obtain ⟨t, Ht⟩ : ∃ t, Hid (l.getD (j + 3) 0 = t) := ⟨_, rfl⟩
          have ct : w.cell? ⟨b, o + (j + 3), none⟩ = some (.int .u8 t) := by have h := HC'.out (j + 3) (by omega); rw [Ht.out] at h; exact h
          have bdt : 0 ≤ t ∧ t < 256 := by have := HI.out (j + 3); rw [Ht.out] at this; exact this
          have it : (j : Int) + 3 < n := by omega
          by_cases hy1 : y < 144
          · have HNO : Hid (vu (l.drop j) = false) := by show _ = _; rw [HSM.out, if_pos (.inr (.inl (by rw [Hy.out]; exact hy1)))]
            go_wp2
            go_ret
            rw [← HV.out, HNO.out]
            exact ⟨rfl, rfl⟩
          by_cases hy2 : 191 < y
          · have HNO : Hid (vu (l.drop j) = false) := by show _ = _; rw [HSM.out, if_pos (.inr (.inr (.inl (by rw [Hy.out]; exact hy2))))]
            go_wp2
            go_ret
            rw [← HV.out, HNO.out]
            exact ⟨rfl, rfl⟩
          have HCT : Hid ((((l.drop (j + 1)).take 3).drop 1).all cont = (cont z && cont t)) := by show _ = _; rw [← Hz.out, ← Ht.out]; exact conts3 l j (by rw [HLN.out]; omega)
          by_cases hz1 : z < 128
          · have HNO : Hid (vu (l.drop j) = false) := by
              have hct := HCT.out
              rw [(cont_no z).2 (by omega), Bool.false_and] at hct
              show _ = _; rw [HSM.out, if_pos (.inr (.inr (.inr hct)))]
            go_wp2
            go_rounds 4
            go_ret
            rw [← HV.out, HNO.out]
            exact ⟨rfl, rfl⟩
          by_cases hz2 : 191 < z
          · have HNO : Hid (vu (l.drop j) = false) := by
              have hct := HCT.out
              rw [(cont_no z).2 (by omega), Bool.false_and] at hct
              show _ = _; rw [HSM.out, if_pos (.inr (.inr (.inr hct)))]
            go_wp2
            go_rounds 4
            go_ret
            rw [← HV.out, HNO.out]
            exact ⟨rfl, rfl⟩
          by_cases ht1 : t < 128
          · have HNO : Hid (vu (l.drop j) = false) := by
              have hct := HCT.out
              rw [(cont_no t).2 (by omega), Bool.and_false] at hct
              show _ = _; rw [HSM.out, if_pos (.inr (.inr (.inr hct)))]
            go_wp2
            go_rounds 4
            go_ret
            rw [← HV.out, HNO.out]
            exact ⟨rfl, rfl⟩
          by_cases ht2 : 191 < t
          · have HNO : Hid (vu (l.drop j) = false) := by
              have hct := HCT.out
              rw [(cont_no t).2 (by omega), Bool.and_false] at hct
              show _ = _; rw [HSM.out, if_pos (.inr (.inr (.inr hct)))]
            go_wp2
            go_rounds 4
            go_ret
            rw [← HV.out, HNO.out]
            exact ⟨rfl, rfl⟩
          have HV1 : Hid (vu (l.drop (j + 1 + 3)) = ANS) := by
            have hn' : ¬ (l.length < j + 1 + 3 ∨ l.getD (j + 1) 0 < 144 ∨ 191 < l.getD (j + 1) 0 ∨ (((l.drop (j + 1)).take 3).drop 1).all cont = false) := by
              rw [HCT.out, (cont_iff z).2 (by omega), (cont_iff t).2 (by omega), Hy.out, HLN.out]
              exact fun h => h.elim (fun h => by omega) (fun h => h.elim hy1 (fun h => h.elim hy2 (fun h => by cases h)))
            have h := HSM.out
            rw [if_neg hn'] at h
            exact h.symm.trans HV.out
          go_wp2
          go_rounds 4
          go_round
          case rel => exact ⟨j + 1 + 3, by omega, by go_num, HV1⟩
          case measure => simp [intOf]; omega
        by_cases hc7 : 241 ≤ x ∧ x ≤ 243
        · as_aux_lemma =>
          have hcl : cls x = some (3, 128, 191) := by
            unfold cls
            rw [if_neg (show ¬ (194 ≤ x ∧ x ≤ 223) by omega), if_neg (show ¬ (x = 224) by omega), if_neg (show ¬ (225 ≤ x ∧ x ≤ 236) by omega), if_neg (show ¬ (x = 237) by omega), if_neg (show ¬ (238 ≤ x ∧ x ≤ 239) by omega), if_neg (show ¬ (x = 240) by omega), if_pos (show 241 ≤ x ∧ x ≤ 243 by omega)]
          have HSM : Hid (vu (l.drop j) = if l.length < j + 1 + 3 ∨ l.getD (j + 1) 0 < 128 ∨ 191 < l.getD (j + 1) 0 ∨ (((l.drop (j + 1)).take 3).drop 1).all cont = false then false else vu (l.drop (j + 1 + 3))) := vu_at_some hjl.out HKX.out (by rw [HXK.out]; exact hcl)
          clear hcl
          obtain ⟨hca, hcb⟩ := hc7
          have hne1 : (x == 224) = false := beq_eq_false_iff_ne.2 (by omega)
          have hne3 : (x == 237) = false := beq_eq_false_iff_ne.2 (by omega)
          have hne4 : (x == 238) = false := beq_eq_false_iff_ne.2 (by omega)
          have hne5 : (x == 239) = false := beq_eq_false_iff_ne.2 (by omega)
          have hne6 : (x == 240) = false := beq_eq_false_iff_ne.2 (by omega)
          clear hc0 hc1 hc2 hc3 hc4 hc5 hc6
          by_cases hs : n ≤ j + 3
          · have HNO : Hid (vu (l.drop j) = false) := by show _ = _; rw [HSM.out, if_pos (.inl (by rw [HLN.out]; omega))]
            have hsi : (n : Int) - (j : Int) ≤ 3 := by omega
            go_wp2
            go_ret
            rw [← HV.out, HNO.out]
            exact ⟨rfl, rfl⟩
          have hsi : ¬ (n : Int) - (j : Int) ≤ 3 := by omega
          obtain ⟨y, Hy⟩ : ∃ y, Hid (l.getD (j + 1) 0 = y) := ⟨_, rfl⟩
          have cy : w.cell? ⟨b, o + (j + 1), none⟩ = some (.int .u8 y) := by have h := HC'.out (j + 1) (by omega); rw [Hy.out] at h; exact h
          have bdy : 0 ≤ y ∧ y < 256 := by have := HI.out (j + 1); rw [Hy.out] at this; exact this
          have iy : (j : Int) + 1 < n := by omega
          obtain ⟨z, Hz⟩ : ∃ z, Hid (l.getD (j + 2) 0 = z) := ⟨_, rfl⟩
          have cz : w.cell? ⟨b, o + (j + 2), none⟩ = some (.int .u8 z) := by have h := HC'.out (j + 2) (by omega); rw [Hz.out] at h; exact h
          have bdz : 0 ≤ z ∧ z < 256 := by have := HI.out (j + 2); rw [Hz.out] at this; exact this
          have iz : (j : Int) + 2 < n := by omega
          obtain ⟨t, Ht⟩ : ∃ t, Hid (l.getD (j + 3) 0 = t) := ⟨_, rfl⟩
          have ct : w.cell? ⟨b, o + (j + 3), none⟩ = some (.int .u8 t) := by have h := HC'.out (j + 3) (by omega); rw [Ht.out] at h; exact h
          have bdt : 0 ≤ t ∧ t < 256 := by have := HI.out (j + 3); rw [Ht.out] at this; exact this
          have it : (j : Int) + 3 < n := by omega
          by_cases hy1 : y < 128
          · have HNO : Hid (vu (l.drop j) = false) := by show _ = _; rw [HSM.out, if_pos (.inr (.inl (by rw [Hy.out]; exact hy1)))]
            go_wp2
            go_ret
            rw [← HV.out, HNO.out]
            exact ⟨rfl, rfl⟩
          by_cases hy2 : 191 < y
          · have HNO : Hid (vu (l.drop j) = false) := by show _ = _; rw [HSM.out, if_pos (.inr (.inr (.inl (by rw [Hy.out]; exact hy2))))]
            go_wp2
            go_ret
            rw [← HV.out, HNO.out]
            exact ⟨rfl, rfl⟩
          have HCT : Hid ((((l.drop (j + 1)).take 3).drop 1).all cont = (cont z && cont t)) := by show _ = _; rw [← Hz.out, ← Ht.out]; exact conts3 l j (by rw [HLN.out]; omega)
          by_cases hz1 : z < 128
          · have HNO : Hid (vu (l.drop j) = false) := by
              have hct := HCT.out
              rw [(cont_no z).2 (by omega), Bool.false_and] at hct
              show _ = _; rw [HSM.out, if_pos (.inr (.inr (.inr hct)))]
            go_wp2
            go_rounds 4
            go_ret
            rw [← HV.out, HNO.out]
            exact ⟨rfl, rfl⟩
          by_cases hz2 : 191 < z
          · have HNO : Hid (vu (l.drop j) = false) := by
              have hct := HCT.out
              rw [(cont_no z).2 (by omega), Bool.false_and] at hct
              show _ = _; rw [HSM.out, if_pos (.inr (.inr (.inr hct)))]
            go_wp2
            go_rounds 4
            go_ret
            rw [← HV.out, HNO.out]
            exact ⟨rfl, rfl⟩
          by_cases ht1 : t < 128
          · have HNO : Hid (vu (l.drop j) = false) := by
              have hct := HCT.out
              rw [(cont_no t).2 (by omega), Bool.and_false] at hct
              show _ = _; rw [HSM.out, if_pos (.inr (.inr (.inr hct)))]
            go_wp2
            go_rounds 4
            go_ret
            rw [← HV.out, HNO.out]
            exact ⟨rfl, rfl⟩
          by_cases ht2 : 191 < t
          · have HNO : Hid (vu (l.drop j) = false) := by
              have hct := HCT.out
              rw [(cont_no t).2 (by omega), Bool.and_false] at hct
              show _ = _; rw [HSM.out, if_pos (.inr (.inr (.inr hct)))]
            go_wp2
            go_rounds 4
            go_ret
            rw [← HV.out, HNO.out]
            exact ⟨rfl, rfl⟩
          have HV1 : Hid (vu (l.drop (j + 1 + 3)) = ANS) := by
            have hn' : ¬ (l.length < j + 1 + 3 ∨ l.getD (j + 1) 0 < 128 ∨ 191 < l.getD (j + 1) 0 ∨ (((l.drop (j + 1)).take 3).drop 1).all cont = false) := by
              rw [HCT.out, (cont_iff z).2 (by omega), (cont_iff t).2 (by omega), Hy.out, HLN.out]
              exact fun h => h.elim (fun h => by omega) (fun h => h.elim hy1 (fun h => h.elim hy2 (fun h => by cases h)))
            have h := HSM.out
            rw [if_neg hn'] at h
            exact h.symm.trans HV.out
          go_wp2
          go_rounds 4
          go_round
          case rel => exact ⟨j + 1 + 3, by omega, by go_num, HV1⟩
          case measure => simp [intOf]; omega
        by_cases hc8 : 244 ≤ x ∧ x ≤ 244
        · as_aux_lemma =>
          have hcl : cls x = some (3, 128, 143) := by
            unfold cls
            rw [if_neg (show ¬ (194 ≤ x ∧ x ≤ 223) by omega), if_neg (show ¬ (x = 224) by omega), if_neg (show ¬ (225 ≤ x ∧ x ≤ 236) by omega), if_neg (show ¬ (x = 237) by omega), if_neg (show ¬ (238 ≤ x ∧ x ≤ 239) by omega), if_neg (show ¬ (x = 240) by omega), if_neg (show ¬ (241 ≤ x ∧ x ≤ 243) by omega), if_pos (show x = 244 by omega)]
          have HSM : Hid (vu (l.drop j) = if l.length < j + 1 + 3 ∨ l.getD (j + 1) 0 < 128 ∨ 143 < l.getD (j + 1) 0 ∨ (((l.drop (j + 1)).take 3).drop 1).all cont = false then false else vu (l.drop (j + 1 + 3))) := vu_at_some hjl.out HKX.out (by rw [HXK.out]; exact hcl)
          clear hcl
          obtain ⟨hca, hcb⟩ := hc8
          obtain rfl : x = 244 := by omega
          clear hca hcb hx0 hx1 hasc
          clear hc0 hc1 hc2 hc3 hc4 hc5 hc6 hc7
          by_cases hs : n ≤ j + 3
          · have HNO : Hid (vu (l.drop j) = false) := by show _ = _; rw [HSM.out, if_pos (.inl (by rw [HLN.out]; omega))]
            have hsi : (n : Int) - (j : Int) ≤ 3 := by omega
            go_wp2
            go_ret
            rw [← HV.out, HNO.out]
            exact ⟨rfl, rfl⟩
          have hsi : ¬ (n : Int) - (j : Int) ≤ 3 := by omega
          obtain ⟨y, Hy⟩ : ∃ y, Hid (l.getD (j + 1) 0 = y) := ⟨_, rfl⟩
          have cy : w.cell? ⟨b, o + (j + 1), none⟩ = some (.int .u8 y) := by have h := HC'.out (j + 1) (by omega); rw [Hy.out] at h; exact h
          have bdy : 0 ≤ y ∧ y < 256 := by have := HI.out (j + 1); rw [Hy.out] at this; exact this
          have iy : (j : Int) + 1 < n := by omega
          obtain ⟨z, Hz⟩ : ∃ z, Hid (l.getD (j + 2) 0 = z) := ⟨_, rfl⟩
          have cz : w.cell? ⟨b, o + (j + 2), none⟩ = some (.int .u8 z) := by have h := HC'.out (j + 2) (by omega); rw [Hz.out] at h; exact h
          have bdz : 0 ≤ z ∧ z < 256 := by have := HI.out (j + 2); rw [Hz.out] at this; exact this
          have iz : (j : Int) + 2 < n := by omega
          obtain ⟨t, Ht⟩ : ∃ t, Hid (l.getD (j + 3) 0 = t) := ⟨_, rfl⟩
          have ct : w.cell? ⟨b, o + (j + 3), none⟩ = some (.int .u8 t) := by have h := HC'.out (j + 3) (by omega); rw [Ht.out] at h; exact h
          have bdt : 0 ≤ t ∧ t < 256 := by have := HI.out (j + 3); rw [Ht.out] at this; exact this
          have it : (j : Int) + 3 < n := by omega
          by_cases hy1 : y < 128
          · have HNO : Hid (vu (l.drop j) = false) := by show _ = _; rw [HSM.out, if_pos (.inr (.inl (by rw [Hy.out]; exact hy1)))]
            go_wp2
            go_ret
            rw [← HV.out, HNO.out]
            exact ⟨rfl, rfl⟩
          by_cases hy2 : 143 < y
          · have HNO : Hid (vu (l.drop j) = false) := by show _ = _; rw [HSM.out, if_pos (.inr (.inr (.inl (by rw [Hy.out]; exact hy2))))]
            go_wp2
            go_ret
            rw [← HV.out, HNO.out]
            exact ⟨rfl, rfl⟩
          have HCT : Hid ((((l.drop (j + 1)).take 3).drop 1).all cont = (cont z && cont t)) := by show _ = _; rw [← Hz.out, ← Ht.out]; exact conts3 l j (by rw [HLN.out]; omega)
          by_cases hz1 : z < 128
          · have HNO : Hid (vu (l.drop j) = false) := by
              have hct := HCT.out
              rw [(cont_no z).2 (by omega), Bool.false_and] at hct
              show _ = _; rw [HSM.out, if_pos (.inr (.inr (.inr hct)))]
            go_wp2
            go_rounds 4
            go_ret
            rw [← HV.out, HNO.out]
            exact ⟨rfl, rfl⟩
          by_cases hz2 : 191 < z
          · have HNO : Hid (vu (l.drop j) = false) := by
              have hct := HCT.out
              rw [(cont_no z).2 (by omega), Bool.false_and] at hct
              show _ = _; rw [HSM.out, if_pos (.inr (.inr (.inr hct)))]
            go_wp2
            go_rounds 4
            go_ret
            rw [← HV.out, HNO.out]
            exact ⟨rfl, rfl⟩
          by_cases ht1 : t < 128
          · have HNO : Hid (vu (l.drop j) = false) := by
              have hct := HCT.out
              rw [(cont_no t).2 (by omega), Bool.and_false] at hct
              show _ = _; rw [HSM.out, if_pos (.inr (.inr (.inr hct)))]
            go_wp2
            go_rounds 4
            go_ret
            rw [← HV.out, HNO.out]
            exact ⟨rfl, rfl⟩
          by_cases ht2 : 191 < t
          · have HNO : Hid (vu (l.drop j) = false) := by
              have hct := HCT.out
              rw [(cont_no t).2 (by omega), Bool.and_false] at hct
              show _ = _; rw [HSM.out, if_pos (.inr (.inr (.inr hct)))]
            go_wp2
            go_rounds 4
            go_ret
            rw [← HV.out, HNO.out]
            exact ⟨rfl, rfl⟩
          have HV1 : Hid (vu (l.drop (j + 1 + 3)) = ANS) := by
            have hn' : ¬ (l.length < j + 1 + 3 ∨ l.getD (j + 1) 0 < 128 ∨ 143 < l.getD (j + 1) 0 ∨ (((l.drop (j + 1)).take 3).drop 1).all cont = false) := by
              rw [HCT.out, (cont_iff z).2 (by omega), (cont_iff t).2 (by omega), Hy.out, HLN.out]
              exact fun h => h.elim (fun h => by omega) (fun h => h.elim hy1 (fun h => h.elim hy2 (fun h => by cases h)))
            have h := HSM.out
            rw [if_neg hn'] at h
            exact h.symm.trans HV.out
          go_wp2
          go_rounds 4
          go_round
          case rel => exact ⟨j + 1 + 3, by omega, by go_num, HV1⟩
          case measure => simp [intOf]; omega
        have hcl : cls x = none := by
          unfold cls
          rw [if_neg (show ¬ (194 ≤ x ∧ x ≤ 223) by omega), if_neg (show ¬ (x = 224) by omega), if_neg (show ¬ (225 ≤ x ∧ x ≤ 236) by omega), if_neg (show ¬ (x = 237) by omega), if_neg (show ¬ (238 ≤ x ∧ x ≤ 239) by omega), if_neg (show ¬ (x = 240) by omega), if_neg (show ¬ (241 ≤ x ∧ x ≤ 243) by omega), if_neg (show ¬ (x = 244) by omega)]
        have HNO : Hid (vu (l.drop j) = false) := vu_at_none hjl.out HKX.out (by rw [HXK.out]; exact hcl)
        clear hcl
        have hlh : x < 194 ∨ 244 < x := by omega
        clear hc0 hc1 hc2 hc3 hc4 hc5 hc6 hc7 hc8
        have hn224 : (x == 224) = false := beq_eq_false_iff_ne.2 (by omega)
        have hn237 : (x == 237) = false := beq_eq_false_iff_ne.2 (by omega)
        have hn238 : (x == 238) = false := beq_eq_false_iff_ne.2 (by omega)
        have hn239 : (x == 239) = false := beq_eq_false_iff_ne.2 (by omega)
        have hn240 : (x == 240) = false := beq_eq_false_iff_ne.2 (by omega)
        have hn244 : (x == 244) = false := beq_eq_false_iff_ne.2 (by omega)
        rcases hlh with hlh | hlh
        · go_wp2
          go_ret
          rw [← HV.out, HNO.out]
          exact ⟨rfl, rfl⟩
        · go_wp2
          go_ret
          rw [← HV.out, HNO.out]
          exact ⟨rfl, rfl⟩
    · have hji : ¬ (j : Int) < n := by omega
      have HE : Hid (vu (l.drop j) = true) := vu_end l j (by rw [HX.out]; omega)
      go_wp2
      go_ret
      rw [← HV.out, HE.out]
      exact ⟨rfl, rfl⟩
end Go.Proofs.Qxb6605662aDoor
