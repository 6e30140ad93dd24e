import Derived.Test.Qxb6606346aDoorA1
import Derived.Test.Qxb6606346aDoorP3
import Derived.Lib.TrimByte
import Derived.Lib.Strings
import Derived.Lib.Slices
import Derived.Lib.Walk
import Derived.Laws.Strings3
set_option linter.unusedVariables false
set_option linter.unusedSimpArgs false
namespace Go.Proofs.Qxb6606346aDoor
open Go.RowKit
/-- how many spaces a line opens with -/
def ind (s : ByteArray) : Nat := (s.data.toList.takeWhile (· == 32)).length
theorem trim_len (l : List UInt8) : (Lib.trimLeftB l 32).length + (l.takeWhile (· == 32)).length = l.length := by
  unfold Lib.trimLeftB
  have := congrArg List.length (List.takeWhile_append_dropWhile (p := (· == (32 : UInt8))) (l := l))
  rw [List.length_append] at this
  omega
set_option maxHeartbeats 2000000 in
set_option maxRecDepth 1000000 in
theorem trimByte_any (s : ByteArray) (w : World) : Calls Tryd.prog 24 #[.string s, .int .u8 32] w fun e w' => e = .returned (.string ⟨(Lib.trimLeftB s.data.toList 32).toArray⟩) ∧ w' = w := by
  go_enter Tryd.func24, Tryd.ntmps24
  go_wp2
  go_loop [0] (fun v => ∃ k : Nat, k ≤ s.size ∧ v = .string ⟨(s.data.toList.drop k).toArray⟩ ∧ ∀ (j : Nat) b, j < k → s.data.toList[j]? = some b → b = 32) (fun v => Lib.strSize v)
  case atStart => exact ⟨0, Nat.zero_le _, by simp, fun j b hj => absurd hj (Nat.not_lt_zero _)⟩
  case round =>
    obtain ⟨k, hk, rfl, hc⟩ := hrel
    have hts : (⟨(s.data.toList.drop k).toArray⟩ : ByteArray).size = s.size - k := by rw [Lib.size_mk, List.length_drop, ← Lib.size_eq]
    have hb0 : ∀ h, s.data.toList[k]? = some ((⟨(s.data.toList.drop k).toArray⟩ : ByteArray)[0]'h) := by
      intro h
      rw [← Lib.getElem_mk (s.data.toList.drop k) 0 h, List.getElem?_drop]
      rfl
    have hx1 : (⟨(s.data.toList.drop k).toArray⟩ : ByteArray).extract 1 (s.size - k) = ⟨(s.data.toList.drop (k + 1)).toArray⟩ := by
      rw [Lib.extract_mk, List.drop_drop, List.take_of_length_le (by simp; omega)]
    have hK : Hid (∀ (j : Nat) b, j < k → s.data.toList[j]? = some b → b = 32) := hc
    clear hc
    generalize ht : (⟨(s.data.toList.drop k).toArray⟩ : ByteArray) = t at hts hb0 hx1 ⊢
    have hK3 : Hid ((⟨(s.data.toList.drop k).toArray⟩ : ByteArray) = t) := ht
    clear ht
    have hkl : Hid (k ≤ s.data.toList.length) := by rw [← Lib.size_eq]; exact hk
    by_cases h0 : 0 < t.size
    · have hbk := hb0 h0
      clear hb0
      have h0i : (0 : Int) < (t.size : Int) := by omega
      by_cases heq : t[0]'h0 = 32
      · have heq' : ((t[0]'h0).toNat : Int) = 32 := by rw [heq]; rfl
        have hK2 : Hid (s.data.toList[k]? = some (t[0]'h0)) := hbk
        clear hbk
        go_wp2
        refine ⟨⟨k + 1, by omega, rfl, fun j b hj hb => ?_⟩, ?_⟩
        · by_cases e : j = k
          · subst e
            have h2 : s.data.toList[j]? = some (t[0]'h0) := hK2
            have h3 : s.data.toList[j]? = some b := by simpa using hb
            rw [h2] at h3
            rw [← Option.some.inj h3, heq]
          · exact hK j b (by omega) (by simpa using hb)
        · rw [Lib.strSize_string, Lib.strSize_string, Lib.size_mk, List.length_drop, ← Lib.size_eq]
          omega
      · have hne' : ¬ ((t[0]'h0).toNat : Int) = 32 := by
          intro e
          exact heq (UInt8.toNat_inj.1 (by exact_mod_cast e))
        have hbeq : (((t[0]'h0).toNat : Int) == 32) = false := by simpa using hne'
        have hK2 : Hid (s.data.toList[k]? = some (t[0]'h0)) := hbk
        clear hbk
        go_wp2
        go_ret
        refine ⟨?_, rfl⟩
        have ht' : (⟨(s.data.toList.drop k).toArray⟩ : ByteArray) = t := hK3
        show Ending.returned (Value.string t) = _
        rw [Lib.trimLeftB_drop s.data.toList 32 k hkl hK (fun b hb => by
          have h2 : s.data.toList[k]? = some (t[0]'h0) := hK2
          rw [h2] at hb
          rw [← Option.some.inj hb]
          exact heq), ht']
    · clear hb0
      go_wp2
      go_ret
      refine ⟨?_, rfl⟩
      have ht' : (⟨(s.data.toList.drop k).toArray⟩ : ByteArray) = t := hK3
      show Ending.returned (Value.string t) = _
      rw [Lib.trimLeftB_drop s.data.toList 32 k hkl hK (fun b hb => by
        have : s.data.toList.length ≤ k := by rw [← Lib.size_eq]; omega
        simp [List.getElem?_eq_none this] at hb), ht']
set_option maxRecDepth 1000000 in
theorem trimLeft_any (s : ByteArray) (w : World) : Calls Tryd.prog 23 #[.string s, .string ⟨#[32]⟩] w fun e w' => (∃ t : ByteArray, e = .returned (.string t) ∧ t.size + ind s = s.size) ∧ w' = w := by
  have HT : Hid (Calls Tryd.prog 24 #[.string s, .int .u8 32] w fun e w' => e = .returned (.string ⟨(Lib.trimLeftB s.data.toList 32).toArray⟩) ∧ w' = w) := trimByte_any s w
  have HL : Hid ((⟨(Lib.trimLeftB s.data.toList 32).toArray⟩ : ByteArray).size + ind s = s.size) := by
    have := trim_len s.data.toList
    rw [← Lib.size_eq] at this
    show _ = _
    rw [Lib.size_mk]
    exact this
  generalize (⟨(Lib.trimLeftB s.data.toList 32).toArray⟩ : ByteArray) = t at HT HL
  by_cases h0 : s = ⟨#[]⟩
  · subst h0
    clear HT HL
    go_enter Tryd.func23, Tryd.ntmps23
    go_wp2_with fail
    go_ret
    exact ⟨⟨_, rfl, rfl⟩, rfl⟩
  · have d0 : (s.toList == []) = false := by
      rw [beq_eq_false_iff_ne, ByteArray.toList_eq]
      intro q
      apply h0
      cases s
      simp only [ByteArray.mk.injEq]
      exact Array.toList_inj.1 q
    clear h0
    go_enter Tryd.func23, Tryd.ntmps23
    go_wp2_with fail
    refine HT.out.mono ?_
    rintro e w1 ⟨rfl, hw⟩
    obtain rfl := hw.symm
    go_wp2_with fail
    go_ret
    exact ⟨⟨t, rfl, HL.out⟩, rfl⟩
/-- indentation -/
theorem indent_any (s : ByteArray) (w : World) (hs : s.size ≤ 9223372036854775807) : Calls Tryd.prog 21 #[.string s] w fun e w' => e = .returned (.int .i64 (ind s)) ∧ w' = w := by
  have HT : Hid (Calls Tryd.prog 23 #[.string s, .string ⟨#[32]⟩] w fun e w' => (∃ t : ByteArray, e = .returned (.string t) ∧ t.size + ind s = s.size) ∧ w' = w) := trimLeft_any s w
  go_enter Tryd.func21, Tryd.ntmps21
  go_wp2_with fail
  refine HT.out.mono ?_
  rintro e w1 ⟨⟨t, rfl, ht⟩, hw⟩
  obtain rfl := hw.symm
  have he : (s.size : Int) - t.size = ind s := by omega
  have htl : t.size ≤ s.size := by omega
  clear ht
  go_wp2_with fail
  go_ret
  exact ⟨rfl, rfl⟩
/-! ### keptAt -/
def kp (L : List Int) (i : Int) : Bool := decide (i < 0) || decide ((L.length : Int) ≤ i) || (L.getD i.toNat 0 == 32)
theorem keptAt_any (X g n cap : Nat) (L : List Int) (i : Int) (w : World) (hX : w.cell? ⟨X, 0, none⟩ = some (.slice (some ⟨g, 0, none⟩) n cap)) (hL : L.length = n) (hn : n ≤ 1048576) (hc : ∀ k, k < n → w.cell? ⟨g, k, none⟩ = some (.int .u8 (L.getD k 0))) :
    Calls Tryd.prog 20 #[.int .i64 i, .pointer (some ⟨X, 0, none⟩)] w fun e w' => e = .returned (.bool (kp L i)) ∧ w' = w := by
  have HK : Hid (kp L i = (decide (i < 0) || decide ((L.length : Int) ≤ i) || (L.getD i.toNat 0 == 32))) := rfl
  generalize kp L i = K at HK
  by_cases t1 : i < 0
  · have d1 : decide (i < 0) = true := decide_eq_true t1
    have hk : K = true := by rw [HK.out, d1]; rfl
    subst hk
    clear HK hc hL
    go_enter Tryd.func20, Tryd.ntmps20
    go_wp2
    go_ret
    exact ⟨rfl, rfl⟩
  · by_cases t2 : (n : Int) ≤ i
    · have hk : K = true := by rw [HK.out, hL, decide_eq_true t2]; simp
      subst hk
      clear HK hc hL
      go_enter Tryd.func20, Tryd.ntmps20
      go_wp2
      go_ret
      exact ⟨rfl, rfl⟩
    · obtain ⟨j, rfl⟩ : ∃ j : Nat, i = j := ⟨i.toNat, by omega⟩
      have hj : j < n := by omega
      have cj := hc j hj
      have hk : K = (L.getD j 0 == 32) := by rw [HK.out, hL, decide_eq_false t1, decide_eq_false t2]; simp
      subst hk
      clear HK hc hL
      generalize L.getD j 0 = x at cj
      go_enter Tryd.func20, Tryd.ntmps20
      go_wp2
      go_ret
      exact ⟨rfl, rfl⟩
end Go.Proofs.Qxb6606346aDoor
