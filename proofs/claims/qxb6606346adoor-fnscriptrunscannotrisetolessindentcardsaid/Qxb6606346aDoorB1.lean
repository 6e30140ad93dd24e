import Derived.Test.Qxb6606346aDoorA7
import Derived.Deep.RegionWith
set_option linter.unusedVariables false
set_option linter.unusedSimpArgs false
namespace Go.Proofs.Qxb6606346aDoor
open Go.RowKit
theorem take_ind : ∀ (l : List UInt8) (n : Nat), n ≤ l.length → (∀ k, k < n → l[k]? = some 32) → (n = l.length ∨ ∃ x, l[n]? = some x ∧ x ≠ 32) → (l.takeWhile (· == 32)).length = n
  | [], n, h, _, _ => by simp at h; subst h; rfl
  | x :: l, 0, _, _, h => by
    rcases h with h | ⟨y, h1, h2⟩
    · simp at h
    · simp at h1
      subst h1
      have hb : (x == 32) = false := beq_eq_false_iff_ne.2 h2
      simp [List.takeWhile, hb]
  | x :: l, n + 1, h, hk, hs => by
    have h0 := hk 0 (by omega)
    simp at h0
    subst h0
    have := take_ind l n (by simpa using h) (fun k hk2 => by have := hk (k + 1) (by omega); simpa using this) (by
      rcases hs with hs | ⟨y, h1, h2⟩
      · left; simpa using hs
      · right; exact ⟨y, by simpa using h1, h2⟩)
    simp [List.takeWhile, this]
/-- tdIndent -/
theorem tdIndent_any (s : ByteArray) (w : World) (hs : s.size ≤ 9223372036854775807) : Calls Tryd.prog 15 #[.string s] w fun e w' => e = .returned (.int .i64 (ind s)) ∧ w' = w := by
  go_enter Tryd.func15, Tryd.ntmps15
  go_wp2
  go_loop [3] (fun a3 => ∃ n : Nat, n ≤ s.size ∧ a3 = .int .i64 n ∧ Hid (∀ k, k < n → s.data.toList[k]? = some 32)) (fun a3 => s.size - (intOf a3).toNat)
  case atStart => exact ⟨0, Nat.zero_le _, rfl, fun k hk => by omega⟩
  case round =>
    obtain ⟨n, hn, rfl, HK⟩ := hrel
    by_cases h1 : n < s.size
    · have h1i : (n : Int) < s.size := by omega
      obtain ⟨u, hu⟩ : ∃ u, s[n]'h1 = u := ⟨_, rfl⟩
      have HU : Hid (s.data.toList[n]? = some u) := by rw [← hu]; show _ = _; rw [List.getElem?_eq_getElem (by rw [Array.length_toList]; exact h1)]; rfl
      by_cases h2 : u = 32
      · have b2 : ((u.toNat : Int) == 32) = true := by rw [h2]; rfl
        have HK2 : Hid (∀ k, k < n + 1 → s.data.toList[k]? = some 32) := fun k hk => by
          by_cases e : k = n
          · subst e; rw [HU.out, h2]
          · exact HK.out k (by omega)
        clear h2
        go_wp2
        go_round
        case rel => exact ⟨n + 1, by omega, by go_num, HK2⟩
        case measure => simp [intOf]; omega
      · have b2 : ((u.toNat : Int) == 32) = false := by
          rw [beq_eq_false_iff_ne]
          intro q
          apply h2
          apply UInt8.toNat_inj.1
          have : u.toNat = 32 := by omega
          rw [this]; rfl
        have HN : Hid (ind s = n) := take_ind _ n (by rw [← Lib.size_eq]; omega) HK.out (.inr ⟨u, HU.out, h2⟩)
        clear h2
        go_wp2
        go_ret
        rw [HN.out]
        exact ⟨rfl, rfl⟩
    · have h1i : ¬ (n : Int) < s.size := by omega
      have HN : Hid (ind s = n) := take_ind _ n (by rw [← Lib.size_eq]; omega) HK.out (.inl (by rw [← Lib.size_eq]; omega))
      go_wp2
      go_ret
      rw [HN.out]
      exact ⟨rfl, rfl⟩
def RiOut (w : World) (e : Ending) (w' : World) : Prop := e = .returned (.bool true) ∧ ∃ q, w' = w.drewN q
set_option maxHeartbeats 8000000 in
set_option maxRecDepth 100000 in
/-- tdRisesNoLower -/
theorem rises_any (fs ts : List ByteArray) (B : Nat) (fv tv : Value) (g n : Nat) (L : List Int) (w : World) (hn : n ≤ 1048576) (hL : L.length = n) (hO : Ob w g L) (hfv : Lv w B fv fs) (htv : Lv w B tv ts) (hfs : fs.length ≤ 65536) (hts : ts.length ≤ 65536) (hE : Ed fs ts 0 0 L fs.length ts.length) (hS : Sets fs ts L n) (hsz : ∀ s ∈ fs ++ ts, s.size ≤ 9223372036854775807) :
    Calls Tryd.prog 13 #[fv, tv, .slice (some ⟨g, 0, none⟩) n n] w fun e w' => RiOut w e w' := by
  have HO : Hid (Ob w g L) := hO
  have HL : Hid (L.length = n) := hL
  have HE : Hid (Ed fs ts 0 0 L fs.length ts.length) := hE
  have HSE : Hid (Sets fs ts L n) := hS
  have HSZ : Hid (∀ s ∈ fs ++ ts, s.size ≤ 9223372036854775807) := hsz
  have HFV : Hid (Lv w B fv fs) := hfv
  have HTV : Hid (Lv w B tv ts) := htv
  clear hO hL hE hfv htv hS hsz
  go_enter Tryd.func13, Tryd.ntmps13
  go_wp2
  go_loopg [7, 8, 9] n (fun gh a7 a8 a9 wr => ∃ (p i j : Nat), a7 = .int .i64 i ∧ a8 = .int .i64 j ∧ a9 = .int .i64 p ∧ p ≤ n ∧ i ≤ 65536 ∧ j ≤ 65536 ∧ gh = n - p ∧ Hid (Ed fs ts 0 0 (L.take p) i j ∧ Ed fs ts i j (L.drop p) fs.length ts.length) ∧ Hid (p = 0 ∨ L.getD (p - 1) 0 = 32 ∨ p = n ∨ L.getD p 0 = 32) ∧ Hid (∃ q, wr = w.drewN q))
  case atStart => exact ⟨0, 0, 0, rfl, rfl, rfl, Nat.zero_le _, by omega, by omega, rfl, ⟨.nil 0 0, HE.out⟩, .inl rfl, 0, rfl⟩
  case round =>
    obtain ⟨p, i, j, rfl, rfl, rfl, hp, hi6, hj6, rfl, HEE, HBD, HW⟩ := hrel
    obtain ⟨wF, rfl⟩ : ∃ x, x = wr := ⟨_, rfl⟩
    have HOF : Hid (Ob wF g L) := by obtain ⟨q, hq⟩ := HW.out; rw [hq]; exact HO.out
    by_cases hpn : p < n
    · have hpi : (p : Int) < n := by omega
      have cp := HOF.out.c p (by rw [HL.out]; exact hpn)
      obtain ⟨op, HOP⟩ : ∃ op, Hid (L.getD p 0 = op) := ⟨_, rfl⟩
      rw [HOP.out] at cp
      have hen := ed_next (by rw [HL.out]; exact hpn) HEE.out.1 HEE.out.2
      by_cases h32 : op = 32
      · subst h32
        have HE2 : Hid (i < 65536 ∧ j < 65536 ∧ Ed fs ts 0 0 (L.take (p + 1)) (i + 1) (j + 1) ∧ Ed fs ts (i + 1) (j + 1) (L.drop (p + 1)) fs.length ts.length) := by
          have h := HOP.out
          rcases hen with q | q | q
          · exact ⟨by omega, by omega, q.2.2.2.2.1, q.2.2.2.2.2⟩
          · omega
          · omega
        have hi7 := HE2.out.1
        have hj7 := HE2.out.2.1
        clear hen
        as_aux_lemma =>
          go_wp2
          go_roundg (n - (p + 1))
          case measure => omega
          case rel => exact ⟨p + 1, i + 1, j + 1, by go_num, by go_num, by go_num, by omega, by omega, by omega, rfl, HE2.out.2.2, .inr (.inl (by rw [Nat.add_sub_cancel]; exact HOP.out)), HW⟩
      · have HO2 : Hid (op = 45 ∨ op = 43) := by
          have h := HOP.out
          rcases hen with q | q | q
          · omega
          · exact .inl (by omega)
          · exact .inr (by omega)
        have b32 : (op == 32) = false := beq_eq_false_iff_ne.2 h32
        have HPB : Hid (p = 0 ∨ L.getD (p - 1) 0 = 32) := by
          rcases HBD.out with h | h | h | h
          · exact .inl h
          · exact .inr h
          · omega
          · rw [HOP.out] at h; exact absurd h h32
        clear hen
        as_aux_lemma =>
          go_wp2
          go_loopg [10, 11] (n - p) (fun gh a10 a11 wr => ∃ (q : Nat) (pu : Bool), a10 = .int .i64 q ∧ a11 = .bool pu ∧ p ≤ q ∧ q ≤ n ∧ gh = n - q ∧ Hid (∀ t, p ≤ t → t < q → L.getD t 0 ≠ 32) ∧ Hid (pu = true → ∀ t, p ≤ t → t < q → L.getD t 0 = op) ∧ Hid (∃ q, wr = w.drewN q))
          case atStart => exact ⟨p, true, rfl, rfl, Nat.le_refl _, by omega, rfl, fun t h1 h2 => by omega, fun _ t h1 h2 => by omega, HW⟩
          case round =>
            obtain ⟨q, pu, rfl, rfl, hpq, hqn, rfl, HNK, HPU, HW⟩ := hrel
            clear HOF cp
            obtain ⟨wG, rfl⟩ : ∃ x, x = wr := ⟨_, rfl⟩
            have HOG : Hid (Ob wG g L) := by obtain ⟨q, hq⟩ := HW.out; rw [hq]; exact HO.out
            have cp := HOG.out.c p (by rw [HL.out]; exact hpn)
            rw [HOP.out] at cp
            by_cases hq : q < n ∧ L.getD q 0 ≠ 32
            · have hqi : (q : Int) < n := by omega
              have hq1 := hq.1
              have cq := HOG.out.c q (by rw [HL.out]; exact hq.1)
              obtain ⟨oq, HOQ⟩ : ∃ oq, Hid (L.getD q 0 = oq) := ⟨_, rfl⟩
              rw [HOQ.out] at cq
              have b3 : (oq != 32) = true := by simp only [bne_iff_ne]; rw [← HOQ.out]; exact hq.2
              have HNK2 : Hid (∀ t, p ≤ t → t < q + 1 → L.getD t 0 ≠ 32) := fun t h1 h2 => by
                by_cases e : t = q
                · subst e; exact hq.2
                · exact HNK.out t h1 (by omega)
              clear hq
              by_cases hoq : oq = op
              · subst hoq
                have b4 : (oq != oq) = false := by simp
                have HPU2 : Hid (pu = true → ∀ t, p ≤ t → t < q + 1 → L.getD t 0 = oq) := fun h t h1 h2 => by
                  by_cases e : t = q
                  · subst e; exact HOQ.out
                  · exact HPU.out h t h1 (by omega)
                as_aux_lemma =>
                  go_wp2
                  go_quiet (fail)
                  go_wp2
                  go_roundg (n - (q + 1))
                  case measure => omega
                  case rel => exact ⟨q + 1, pu, by go_num, rfl, by omega, by omega, rfl, HNK2, HPU2, by obtain ⟨q1, h1⟩ := HW.out; exact ⟨q1 + nq, by rw [h1, World.drewN_drewN]⟩⟩
              · have b4 : (oq != op) = true := by simp only [bne_iff_ne]; exact hoq
                have HPU2 : Hid (false = true → ∀ t, p ≤ t → t < q + 1 → L.getD t 0 = op) := fun h => by cases h
                as_aux_lemma =>
                  go_wp2
                  go_quiet (fail)
                  go_wp2
                  go_roundg (n - (q + 1))
                  case measure => omega
                  case rel => exact ⟨q + 1, false, by go_num, rfl, by omega, by omega, rfl, HNK2, HPU2, by obtain ⟨q1, h1⟩ := HW.out; exact ⟨q1 + nq, by rw [h1, World.drewN_drewN]⟩⟩
            · have HQE : Hid (q = n ∨ L.getD q 0 = 32) := by
                show _ ∨ _
                by_cases e : q = n
                · exact .inl e
                · exact .inr (Classical.byContradiction fun h => hq ⟨by omega, h⟩)
              clear hq
              have hpq2 : p < q := by
                rcases Nat.eq_or_lt_of_le hpq with e | e
                · exfalso
                  subst e
                  rcases HQE.out with h | h
                  · omega
                  · rw [HOP.out] at h; exact h32 h
                · exact e
              go_upto_region 10 with fail
              go_cut [43] (fun s43 wy => s43 = .bool false ∧ wy = wG)
              case first =>
                rcases HQE.out with h | h
                · have hqi : ¬ (q : Int) < n := by omega
                  clear h
                  as_aux_lemma =>
                    go_wp2
                    go_meet
                    exact ⟨rfl, rfl⟩
                · by_cases h9 : q < n
                  · have hqi : (q : Int) < n := by omega
                    have cq := HOG.out.c q (by rw [HL.out]; exact h9)
                    rw [h] at cq
                    clear h
                    as_aux_lemma =>
                      go_wp2
                      go_meet
                      exact ⟨rfl, rfl⟩
                  · have hqi : ¬ (q : Int) < n := by omega
                    clear h
                    as_aux_lemma =>
                      go_wp2
                      go_meet
                      exact ⟨rfl, rfl⟩
              case rest =>
                as_aux_lemma =>
                  obtain ⟨rfl, hw⟩ := hcut
                  have hw := hw.symm
                  subst hw
                  go_upto_if 55 with fail
                  go_cut [] (fun wy => Hid (∃ q, wy = w.drewN q))
                  case first =>
                    as_aux_lemma =>
                      cases pu with
                      | false =>
                        go_wp2
                        go_meet
                        exact HW
                      | true =>
                        obtain ⟨a, HA⟩ : ∃ a : Nat, Hid ((if op = 45 then i else j) = a) := ⟨_, rfl⟩
                        obtain ⟨ls, HLS⟩ : ∃ ls, Hid ((if op = 45 then fs else ts) = ls) := ⟨_, rfl⟩
                        obtain ⟨lv, HLV⟩ : ∃ lv, Hid ((if op = 45 then fv else tv) = lv) := ⟨_, rfl⟩
                        have ha6 : a ≤ 65536 := by rw [← HA.out]; split <;> omega
                        have hls6 : ls.length ≤ 65536 := by rw [← HLS.out]; split <;> omega
                        have HLVW : Hid (Lv w B lv ls) := by
                          have h1 := HFV.out
                          have h2 := HTV.out
                          rw [← HLV.out, ← HLS.out]
                          show Lv _ _ _ _
                          split
                          · exact h1
                          · exact h2
                        have HLSZ : Hid (∀ k, (ls.getD k ByteArray.empty).size ≤ 9223372036854775807) := by
                          intro k
                          by_cases hk : k < ls.length
                          · rw [List.getD_eq_getElem?_getD, List.getElem?_eq_getElem hk]
                            apply HSZ.out
                            have hm : ls[k] ∈ ls := List.getElem_mem hk
                            rw [List.mem_append]
                            have h3 : ls = fs ∨ ls = ts := by
                              rw [← HLS.out]
                              split
                              · exact .inl rfl
                              · exact .inr rfl
                            rcases h3 with h3 | h3
                            · left; show ls[k] ∈ fs; rw [← h3]; exact hm
                            · right; show ls[k] ∈ ts; rw [← h3]; exact hm
                          · rw [List.getD_eq_getElem?_getD, List.getElem?_eq_none (by omega)]
                            decide
                        obtain ⟨m, hqp⟩ : ∃ m : Nat, (q : Int) - p = m := ⟨q - p, by omega⟩
                        have hm0 : 0 < m := by omega
                        have HQM : Hid (q = p + m) := by show _ = _; omega
                        have HRU : Hid (∀ t, p ≤ t → t < q → L.getD t 0 = op) := HPU.out rfl
                        have hal : a + m ≤ ls.length := by
                          have hqm := HQM.out
                          have h := ed_fwd (c := 0) (n := m) HO2.out (by rw [HL.out]; omega) HEE.out.2 (fun t ht => HRU.out (p + t) (by omega) (by omega)) (fun t ht => by omega)
                          rw [HA.out, HLS.out] at h
                          omega
                        have HBK : Hid (∀ c, c ≤ p → (∀ t, t < c → L.getD (p - 1 - t) 0 = 32) → c ≤ a) := fun c hc hk => by
                          have := ed_back (by rw [HL.out]; omega) HEE.out.1 hc hk
                          rw [← HA.out]
                          split <;> omega
                        have HLOW : Hid (Low L ls p m a) := by
                          have hqm := HQM.out
                          have h := HSE.out p m op i j h32 hm0 (by omega) (by rw [HL.out]; omega) HPB.out (fun t ht => HRU.out (p + t) (by omega) (by omega)) (by rw [HL.out, ← hqm]; exact HQE.out) HEE.out.1
                          rw [HA.out, HLS.out] at h
                          exact h
                        clear HPU
                        go_upto_if 62 with fail
                        go_cut [12, 13] (fun s12 s13 wy => s12 = lv ∧ s13 = .int .i64 a ∧ wy = wG)
                        case first =>
                          rcases HO2.out with h | h
                          · have b45 : (op == 45) = true := beq_iff_eq.2 h
                            have E1 := HLV
                            have E2 := HA
                            rw [if_pos h] at E1 E2
                            clear h
                            as_aux_lemma =>
                              go_wp2
                              go_meet
                              exact ⟨E1.out, by rw [← E2.out], rfl⟩
                          · have b45 : (op == 45) = false := beq_eq_false_iff_ne.2 (by omega)
                            have E1 := HLV
                            have E2 := HA
                            rw [if_neg (by omega)] at E1 E2
                            clear h
                            as_aux_lemma =>
                              go_wp2
                              go_meet
                              exact ⟨E1.out, by rw [← E2.out], rfl⟩
                        case rest =>
                          as_aux_lemma =>
                            obtain ⟨h8, rfl, hw⟩ := hcut
                            have h8 := h8.symm
                            subst h8
                            have hw := hw.symm
                            subst hw
                            clear cp
                            go_wp2
                            go_loopg [15] (p + 1) (fun gh a15 wr => ∃ (y : Nat), a15 = .int .i64 (y + 1 : Nat) ∧ y ≤ p ∧ gh = p + 1 - y ∧ Hid (∀ x, 1 ≤ x → x ≤ y → Up L ls p m a x) ∧ Hid (∃ q, wr = w.drewN q))
                            case atStart => exact ⟨0, rfl, Nat.zero_le _, rfl, fun x h1 h2 => by omega, HW⟩
                            case round =>
                              obtain ⟨y0, hy15, hy, rfl, HUP, HWY⟩ := hrel
                              clear HW HOG
                              obtain ⟨y, hy1⟩ : ∃ y, y = y0 + 1 := ⟨_, rfl⟩
                              rw [← hy1] at hy15
                              subst hy15
                              obtain ⟨wU, rfl⟩ : ∃ x, x = wr := ⟨_, rfl⟩
                              have HOU : Hid (Ob wU g L) := by obtain ⟨q, hq⟩ := HWY.out; rw [hq]; exact HO.out
                              have HLU : Hid (Lv wU B lv ls) := by
                                obtain ⟨q, hq⟩ := HWY.out
                                rw [hq]
                                rcases HLVW.out with h | ⟨gl, h1, h2, h3⟩
                                · exact .inl h
                                · exact .inr ⟨gl, h1, h2, h3⟩
                              have HUPI : Hid (∀ x, 1 ≤ x → x < y → Up L ls p m a x) := fun x h1 h2 => HUP.out x h1 (by omega)
                              have hy0 : 1 ≤ y := by omega
                              have hyp : y ≤ p + 1 := by omega
                              have HY1 : Hid (y = y0 + 1) := hy1
                              clear hy1
                              obtain ⟨b, HBS⟩ : ∃ b : Bool, Hid ((b = true ∧ Up L ls p m a y) ∨ (b = false ∧ ¬ Up L ls p m a y)) := by
                                by_cases h : Up L ls p m a y
                                · exact ⟨true, .inl ⟨rfl, h⟩⟩
                                · exact ⟨false, .inr ⟨rfl, h⟩⟩
                              go_upto_region 22 with fail
                              go_cut [114] (fun s114 wy => s114 = .bool b ∧ Hid (∃ q, wy = wU.drewN q))
                              case first =>
                                by_cases t1 : y ≤ p
                                · obtain ⟨i1, hi1⟩ : ∃ i1 : Nat, (p : Int) - y = i1 := ⟨p - y, by omega⟩
                                  have d1 : decide ((0 : Int) ≤ i1) = true := decide_eq_true (by omega)
                                  have hi1n : i1 < n := by omega
                                  have c1 := HOU.out.c i1 (by rw [HL.out]; exact hi1n)
                                  obtain ⟨o1, HO1⟩ : ∃ o1, Hid (L.getD i1 0 = o1) := ⟨_, rfl⟩
                                  rw [HO1.out] at c1
                                  by_cases k1 : o1 = 32
                                  · subst k1
                                    have hk1 : L.getD (p - y) 0 = 32 := by rw [show p - y = i1 by omega]; exact HO1.out
                                    have hya : y ≤ a := HBK.out y t1 (fun t ht => by
                                      by_cases e : t = y - 1
                                      · subst e; rw [show p - 1 - (y - 1) = p - y by omega]; exact hk1
                                      · have := (HUPI.out (t + 1) (by omega) (by omega)).2.2.1
                                        rw [show p - (t + 1) = p - 1 - t by omega] at this
                                        exact this)
                                    obtain ⟨j1, hj1⟩ : ∃ j1 : Nat, (a : Int) - y = j1 := ⟨a - y, by omega⟩
                                    obtain ⟨j2, hj2⟩ : ∃ j2 : Nat, (j1 : Int) + m = j2 := ⟨j1 + m, by omega⟩
                                    have hj1l : j1 < ls.length := by omega
                                    have hj2l : j2 < ls.length := by omega
                                    obtain ⟨gl, hgl, -, HLB⟩ := HLU.out.some (by omega)
                                    have s1 := HLB.c j1 hj1l
                                    have s2 := HLB.c j2 hj2l
                                    have HKK : Hid (Up L ls p m a y ↔ ((p = y ∨ L.getD (p - y - 1) 0 = 32) ∧ ls.getD j1 ByteArray.empty = ls.getD j2 ByteArray.empty)) := by
                                      show _ ↔ _
                                      unfold Up
                                      rw [show a - y = j1 by omega, show j1 + m = j2 by omega]
                                      exact ⟨fun h => ⟨h.2.2.2.1, h.2.2.2.2⟩, fun h => ⟨t1, hya, hk1, h.1, h.2⟩⟩
                                    clear HLB hk1
                                    subst hgl
                                    by_cases t2 : p = y
                                    · have d2 : decide ((i1 : Int) - 1 < 0) = true := decide_eq_true (by omega)
                                      rcases HBS.out with ⟨rfl, h⟩ | ⟨rfl, h⟩
                                      · have e := (HKK.out.1 h).2
                                        rw [← e] at s2
                                        generalize ls.getD j1 ByteArray.empty = x1 at s1 s2
                                        have d3 : (x1.toList == x1.toList) = true := beq_self_eq_true _
                                        clear h e HKK t2
                                        as_aux_lemma =>
                                          go_quiet (fail)
                                          go_wp2
                                          go_meet
                                          exact ⟨rfl, _, rfl⟩
                                      · have d3 := str_ne2 (fun e => h (HKK.out.2 ⟨.inl t2, e⟩))
                                        generalize ls.getD j1 ByteArray.empty = x1 at s1 d3
                                        generalize ls.getD j2 ByteArray.empty = x2 at s2 d3
                                        clear h HKK t2
                                        as_aux_lemma =>
                                          go_quiet (fail)
                                          go_wp2
                                          go_meet
                                          exact ⟨rfl, _, rfl⟩
                                    · have d2 : decide ((i1 : Int) - 1 < 0) = false := decide_eq_false (by omega)
                                      obtain ⟨i2, hi2⟩ : ∃ i2 : Nat, (i1 : Int) - 1 = i2 := ⟨i1 - 1, by omega⟩
                                      have d2b : decide ((i2 : Int) < 0) = false := decide_eq_false (by omega)
                                      have hi2n : i2 < n := by omega
                                      have c2 := HOU.out.c i2 (by rw [HL.out]; exact hi2n)
                                      obtain ⟨o2, HO2'⟩ : ∃ o2, Hid (L.getD i2 0 = o2) := ⟨_, rfl⟩
                                      rw [HO2'.out] at c2
                                      by_cases k2 : o2 = 32
                                      · subst k2
                                        have hk2 : L.getD (p - y - 1) 0 = 32 := by rw [show p - y - 1 = i2 by omega]; exact HO2'.out
                                        rcases HBS.out with ⟨rfl, h⟩ | ⟨rfl, h⟩
                                        · have e := (HKK.out.1 h).2
                                          rw [← e] at s2
                                          generalize ls.getD j1 ByteArray.empty = x1 at s1 s2
                                          have d3 : (x1.toList == x1.toList) = true := beq_self_eq_true _
                                          clear h e HKK t2 hk2
                                          as_aux_lemma =>
                                            go_quiet (fail)
                                            go_wp2
                                            go_meet
                                            exact ⟨rfl, _, rfl⟩
                                        · have d3 := str_ne2 (fun e => h (HKK.out.2 ⟨.inr hk2, e⟩))
                                          generalize ls.getD j1 ByteArray.empty = x1 at s1 d3
                                          generalize ls.getD j2 ByteArray.empty = x2 at s2 d3
                                          clear h HKK t2 hk2
                                          as_aux_lemma =>
                                            go_quiet (fail)
                                            go_wp2
                                            go_meet
                                            exact ⟨rfl, _, rfl⟩
                                      · have b2 : (o2 == 32) = false := beq_eq_false_iff_ne.2 k2
                                        rcases HBS.out with ⟨rfl, h⟩ | ⟨rfl, h⟩
                                        · exfalso
                                          rcases (HKK.out.1 h).1 with h2 | h2
                                          · exact t2 h2
                                          · rw [show p - y - 1 = i2 by omega, HO2'.out] at h2; exact k2 h2
                                        · clear h HKK t2 k2 s1 s2
                                          as_aux_lemma =>
                                            go_quiet (fail)
                                            go_wp2
                                            go_meet
                                            exact ⟨rfl, _, rfl⟩
                                  · have b1 : (o1 == 32) = false := beq_eq_false_iff_ne.2 k1
                                    rcases HBS.out with ⟨rfl, h⟩ | ⟨rfl, h⟩
                                    · exfalso
                                      have h3 := h.2.2.1
                                      rw [show p - y = i1 by omega, HO1.out] at h3
                                      exact k1 h3
                                    · clear h k1
                                      as_aux_lemma =>
                                        go_quiet (fail)
                                        go_wp2
                                        go_meet
                                        exact ⟨rfl, _, rfl⟩
                                · have d1 : decide ((0 : Int) ≤ (p : Int) - y) = false := decide_eq_false (by omega)
                                  rcases HBS.out with ⟨rfl, h⟩ | ⟨rfl, h⟩
                                  · exact absurd h.1 t1
                                  · clear h
                                    as_aux_lemma =>
                                      go_quiet (fail)
                                      go_wp2
                                      go_meet
                                      exact ⟨rfl, _, rfl⟩
                              case rest =>
                                as_aux_lemma =>
                                  obtain ⟨rfl, HQ⟩ := hcut
                                  obtain ⟨wV, rfl⟩ : ∃ x, x = wc := ⟨_, rfl⟩
                                  have HWV : Hid (∃ q, wV = w.drewN q) := by
                                    obtain ⟨q1, h1⟩ := HQ.out
                                    obtain ⟨q2, h2⟩ := HWY.out
                                    exact ⟨q2 + q1, by rw [h1, h2, World.drewN_drewN]⟩
                                  clear HQ HWY HOU HLU
                                  cases b with
                                  | false =>
                                    as_aux_lemma =>
                                      go_wp2
                                      go_meet
                                      exact HWV
                                  | true =>
                                    have HC : Hid (Up L ls p m a y) := by
                                      rcases HBS.out with ⟨-, h⟩ | ⟨h, -⟩
                                      · exact h
                                      · cases h
                                    clear HBS
                                    have hyp2 := HC.out.1
                                    have hya := HC.out.2.1
                                    have HUP2 : Hid (∀ x, 1 ≤ x → x ≤ y → Up L ls p m a x) := fun x h1 h2 => by
                                      by_cases e : x = y
                                      · subst e; exact HC.out
                                      · exact HUPI.out x h1 (by omega)
                                    have HLE : Hid (ind (ls.getD a ByteArray.empty) ≤ ind (ls.getD (a - y) ByteArray.empty)) := HLOW.out y hy0 HUP2.out
                                    obtain ⟨j1, hj1⟩ : ∃ j1 : Nat, (a : Int) - y = j1 := ⟨a - y, by omega⟩
                                    have hj1l : j1 < ls.length := by omega
                                    have hall : a < ls.length := by omega
                                    obtain ⟨gl, hgl, -, HLB⟩ := (show Lv wV B lv ls by
                                      obtain ⟨q, hq⟩ := HWV.out
                                      rw [hq]
                                      rcases HLVW.out with h | ⟨gl, h1, h2, h3⟩
                                      · exact .inl h
                                      · exact .inr ⟨gl, h1, h2, h3⟩).some (by omega)
                                    have s1 := HLB.c j1 hj1l
                                    have s2 := HLB.c a hall
                                    have HI1 : Hid (∀ k : Nat, Calls Tryd.prog 15 #[.string (ls.getD j1 ByteArray.empty)] (wV.drewN k) fun e w' => e = .returned (.int .i64 (ind (ls.getD j1 ByteArray.empty))) ∧ w' = wV.drewN k) := fun k => tdIndent_any _ (wV.drewN k) (HLSZ.out j1)
                                    have HI2 : Hid (∀ k : Nat, Calls Tryd.prog 15 #[.string (ls.getD a ByteArray.empty)] (wV.drewN k) fun e w' => e = .returned (.int .i64 (ind (ls.getD a ByteArray.empty))) ∧ w' = wV.drewN k) := fun k => tdIndent_any _ (wV.drewN k) (HLSZ.out a)
                                    have w5 : IntKind.i64.wrap (j1 : Int) = j1 := IntWalk.i64_in _ ⟨by omega, by omega⟩
                                    have hle := HLE.out
                                    rw [show a - y = j1 by omega] at hle
                                    have dc : ¬ (ind (ls.getD j1 ByteArray.empty) : Int) < (ind (ls.getD a ByteArray.empty) : Int) := by omega
                                    clear HLB hle HLE
                                    subst hgl
                                    generalize ind (ls.getD j1 ByteArray.empty) = n1 at HI1 dc
                                    generalize ind (ls.getD a ByteArray.empty) = n2 at HI2 dc
                                    generalize ls.getD j1 ByteArray.empty = x1 at s1 HI1
                                    generalize ls.getD a ByteArray.empty = x2 at s2 HI2
                                    as_aux_lemma =>
                                      go_wp2
                                      go_quiet (first | (go_at_call_of 15 (Value.string x1); exact Calls.quiet_of_same (HI1.out _)) | (go_at_call_of 15 (Value.string x2); exact Calls.quiet_of_same (HI2.out _)))
                                      go_wp2
                                      go_roundg (p + 1 - y)
                                      case measure => have := HY1.out; omega
                                      case rel => exact ⟨y, by go_num, by omega, rfl, HUP2, by obtain ⟨q1, h1⟩ := HWV.out; exact ⟨q1 + nq, by rw [h1, World.drewN_drewN]⟩⟩
                  case rest =>
                    as_aux_lemma =>
                      have HWC := hcut
                      obtain ⟨wH, rfl⟩ : ∃ x, x = wc := ⟨_, rfl⟩
                      clear hcut cp HOG
                      go_wp2
                      go_loopg [7, 8, 16] (q - p) (fun gh a7 a8 a16 wr => ∃ (x i j : Nat), a7 = .int .i64 i ∧ a8 = .int .i64 j ∧ a16 = .int .i64 x ∧ p ≤ x ∧ x ≤ q ∧ i ≤ 65536 ∧ j ≤ 65536 ∧ gh = q - x ∧ Hid (Ed fs ts 0 0 (L.take x) i j ∧ Ed fs ts i j (L.drop x) fs.length ts.length) ∧ wr = wH)
                      case atStart => exact ⟨p, i, j, rfl, rfl, rfl, Nat.le_refl _, by omega, hi6, hj6, rfl, HEE, rfl⟩
                      case round =>
                        obtain ⟨x, i2, j2, rfl, rfl, rfl, hx1, hx2, hi7, hj7, rfl, HE2, hw⟩ := hrel
                        have hw := hw.symm
                        subst hw
                        have HOH : Hid (Ob wH g L) := by obtain ⟨q, hq⟩ := HWC.out; rw [hq]; exact HO.out
                        by_cases hx : x < q
                        · have hxi : (x : Int) < q := by omega
                          have hxn : x < n := by omega
                          have cx := HOH.out.c x (by rw [HL.out]; exact hxn)
                          have hen := ed_next (by rw [HL.out]; exact hxn) HE2.out.1 HE2.out.2
                          have hnk := HNK.out x hx1 hx
                          generalize L.getD x 0 = o3 at cx hen hnk
                          rcases hen with h | h | h
                          · exact absurd h.1 hnk
                          · have b4 : (o3 == 45) = true := beq_iff_eq.2 h.1
                            have HE3 : Hid (Ed fs ts 0 0 (L.take (x + 1)) (i2 + 1) j2 ∧ Ed fs ts (i2 + 1) j2 (L.drop (x + 1)) fs.length ts.length) := ⟨h.2.2.1, h.2.2.2⟩
                            have hi8 := h.2.1
                            clear h hnk
                            as_aux_lemma =>
                              go_wp2
                              go_roundg (q - (x + 1))
                              case measure => omega
                              case rel => exact ⟨x + 1, i2 + 1, j2, by go_num, by go_num, by go_num, by omega, by omega, by omega, by omega, rfl, HE3, rfl⟩
                          · have b4 : (o3 == 45) = false := by rw [beq_eq_false_iff_ne, h.1]; decide
                            have HE3 : Hid (Ed fs ts 0 0 (L.take (x + 1)) i2 (j2 + 1) ∧ Ed fs ts i2 (j2 + 1) (L.drop (x + 1)) fs.length ts.length) := ⟨h.2.2.1, h.2.2.2⟩
                            have hj8 := h.2.1
                            clear h hnk
                            as_aux_lemma =>
                              go_wp2
                              go_roundg (q - (x + 1))
                              case measure => omega
                              case rel => exact ⟨x + 1, i2, j2 + 1, by go_num, by go_num, by go_num, by omega, by omega, by omega, by omega, rfl, HE3, rfl⟩
                        · have hxi : ¬ (x : Int) < q := by omega
                          have hxq : x = q := by omega
                          have HB2 : Hid (q = 0 ∨ L.getD (q - 1) 0 = 32 ∨ q = n ∨ L.getD q 0 = 32) := .inr (.inr HQE.out)
                          subst hxq
                          as_aux_lemma =>
                            go_wp2
                            go_roundg (n - x)
                            case measure => omega
                            case rel => exact ⟨x, i2, j2, rfl, rfl, rfl, by omega, by omega, by omega, rfl, HE2, HB2, HWC⟩
    · have hpi : ¬ (p : Int) < n := by omega
      as_aux_lemma =>
        go_wp2
        go_ret
        exact ⟨rfl, HW.out⟩
end Go.Proofs.Qxb6606346aDoor
