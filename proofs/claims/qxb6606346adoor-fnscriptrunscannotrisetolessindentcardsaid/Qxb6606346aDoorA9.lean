import Derived.Test.Qxb6606346aDoorA8
set_option linter.unusedVariables false
set_option linter.unusedSimpArgs false
namespace Go.Proofs.Qxb6606346aDoor
open Go.RowKit
def ByOut (fs ts : List ByteArray) (w : World) (e : Ending) (w' : World) : Prop := ((e = .returned (.bool true) ∧ ∀ s ∈ fs ++ ts, s.size ≤ 1048576) ∨ e = .returned (.bool false)) ∧ w' = w
/-- ZZScript -/
theorem zzScript_any (fs ts : List ByteArray) (af at_ : Option Addr) (cf ct : Nat) (w : World) (hfs : fs.length ≤ 65536) (hts : ts.length ≤ 65536) (hfv : Lv w w.heap.size (.slice af fs.length cf) fs) (htv : Lv w w.heap.size (.slice at_ ts.length ct) ts) (hsz : ∀ s ∈ fs ++ ts, s.size ≤ 9223372036854775807) :
    Calls Tryd.prog 9 #[.slice af fs.length cf, .slice at_ ts.length ct] w fun e w' => ScOut fs ts w e w' := by
  have HS : Hid (Calls Tryd.prog 14 #[.slice af fs.length cf, .slice at_ ts.length ct] w fun e w' => ScOut fs ts w e w') := script_any fs ts af at_ cf ct w hfs hts hfv htv hsz
  clear hfv htv hsz
  go_enter Tryd.func9, Tryd.ntmps9
  go_wp2_with fail
  refine HS.out.mono ?_
  rintro e w1 h1
  obtain ⟨g, cap, L, he, hr⟩ := h1
  subst he
  have HR : Hid (ScOut fs ts w (.returned (.slice (some ⟨g, 0, none⟩) L.length cap)) w1) := ⟨g, cap, L, rfl, hr⟩
  clear hr
  go_wp2_with fail
  go_ret
  exact HR.out
set_option maxHeartbeats 4000000 in
theorem bytes5_any (pf pt : Option Addr) (n m cf ct : Nat) (fs ts : List ByteArray) (w : World) (hn : n ≤ 9223372036854775807) (hm : m ≤ 9223372036854775807) (hF : StrsIn w pf n fs) (hT : StrsIn w pt m ts) (hfs : fs.length = n) (hts : ts.length = m) :
    Calls Tryd.prog 5 #[.slice pf n cf, .slice pt m ct] w fun e w' => ByOut fs ts w e w' := by
  have HF : Hid (StrsIn w pf n fs) := hF
  have HT : Hid (StrsIn w pt m ts) := hT
  have HLF : Hid (fs.length = n) := hfs
  have HLT : Hid (ts.length = m) := hts
  clear hF hT hfs hts
  by_cases a1 : (1048576 : Int) < n
  · go_enter Tryd.func5, Tryd.ntmps5
    go_wp2
    go_ret
    exact ⟨.inr rfl, rfl⟩
  go_enter Tryd.func5, Tryd.ntmps5
  go_wp2
  go_loop [5, 6] (fun a5 a6 => ∃ (j : Nat) (v : Int), j ≤ n ∧ a6 = .int .i64 j ∧ a5 = .int .i64 v ∧ 0 ≤ v ∧ v ≤ 1048576 ∧ Hid (∀ k, k < j → (fs.getD k ByteArray.empty).size ≤ 1048576)) (fun _ a6 => n - (intOf a6).toNat)
  case atStart => exact ⟨0, n, Nat.zero_le _, rfl, by go_num, by omega, by omega, fun k hk => by omega⟩
  case round =>
    obtain ⟨j, v, hj, rfl, rfl, hv0, hv1, HA⟩ := hrel
    by_cases hjn : j < n
    · have hji : (j : Int) < n := by omega
      obtain ⟨b, o, hp, hc⟩ := HF.out (by omega)
      have cj := hc j hjn
      subst hp
      clear hc
      obtain ⟨x, HX⟩ : ∃ x, Hid (fs.getD j ByteArray.empty = x) := ⟨_, rfl⟩
      rw [HX.out] at cj
      by_cases t1 : (1048576 : Int) < x.size
      · go_wp2
        go_ret
        exact ⟨.inr rfl, rfl⟩
      · by_cases t2 : (1048576 : Int) < v + x.size
        · go_wp2
          go_ret
          exact ⟨.inr rfl, rfl⟩
        · have HA2 : Hid (∀ k, k < j + 1 → (fs.getD k ByteArray.empty).size ≤ 1048576) := fun k hk => by
            by_cases e : k = j
            · subst e; rw [HX.out]; omega
            · exact HA.out k (by omega)
          go_wp2
          go_round
          case rel => exact ⟨j + 1, v + x.size, by omega, by go_num, by go_num, by omega, by omega, HA2⟩
          case measure => simp [intOf]; omega
    · have hji : ¬ (j : Int) < n := by omega
      have HAF : Hid (∀ k, k < n → (fs.getD k ByteArray.empty).size ≤ 1048576) := fun k hk => HA.out k (by omega)
      by_cases a2 : (1048576 : Int) < m
      · go_wp2
        go_ret
        exact ⟨.inr rfl, rfl⟩
      by_cases a3 : (1048576 : Int) < v + m
      · go_wp2
        go_ret
        exact ⟨.inr rfl, rfl⟩
      go_wp2
      go_loop [5, 7] (fun a5 a7 => ∃ (j : Nat) (v : Int), j ≤ m ∧ a7 = .int .i64 j ∧ a5 = .int .i64 v ∧ 0 ≤ v ∧ v ≤ 1048576 ∧ Hid (∀ k, k < j → (ts.getD k ByteArray.empty).size ≤ 1048576)) (fun _ a7 => m - (intOf a7).toNat)
      case atStart => exact ⟨0, v + m, Nat.zero_le _, rfl, by go_num, by omega, by omega, fun k hk => by omega⟩
      case round =>
        obtain ⟨j2, v2, hj2, rfl, rfl, hv20, hv21, HA2⟩ := hrel
        by_cases hjm : j2 < m
        · have hji2 : (j2 : Int) < m := by omega
          obtain ⟨b, o, hp, hc⟩ := HT.out (by omega)
          have cj := hc j2 hjm
          subst hp
          clear hc
          obtain ⟨x, HX⟩ : ∃ x, Hid (ts.getD j2 ByteArray.empty = x) := ⟨_, rfl⟩
          rw [HX.out] at cj
          by_cases t1 : (1048576 : Int) < x.size
          · go_wp2
            go_ret
            exact ⟨.inr rfl, rfl⟩
          · by_cases t2 : (1048576 : Int) < v2 + x.size
            · go_wp2
              go_ret
              exact ⟨.inr rfl, rfl⟩
            · have HA3 : Hid (∀ k, k < j2 + 1 → (ts.getD k ByteArray.empty).size ≤ 1048576) := fun k hk => by
                by_cases e : k = j2
                · subst e; rw [HX.out]; omega
                · exact HA2.out k (by omega)
              go_wp2
              go_round
              case rel => exact ⟨j2 + 1, v2 + x.size, by omega, by go_num, by go_num, by omega, by omega, HA3⟩
              case measure => simp [intOf]; omega
        · have hji2 : ¬ (j2 : Int) < m := by omega
          have HFIN : Hid (∀ s ∈ fs ++ ts, s.size ≤ 1048576) := by
            intro s hs
            rcases List.mem_append.1 hs with h | h
            · obtain ⟨k, hk, rfl⟩ := List.mem_iff_getElem.1 h
              have := HAF.out k (by rw [← HLF.out]; exact hk)
              rw [List.getD_eq_getElem?_getD, List.getElem?_eq_getElem hk] at this
              exact this
            · obtain ⟨k, hk, rfl⟩ := List.mem_iff_getElem.1 h
              have := HA2.out k (by have := HLT.out; omega)
              rw [List.getD_eq_getElem?_getD, List.getElem?_eq_getElem hk] at this
              exact this
          go_wp2
          go_ret
          exact ⟨.inl ⟨rfl, HFIN.out⟩, rfl⟩
set_option maxHeartbeats 4000000 in
set_option maxRecDepth 100000 in
theorem law3_any (pf pt : Option Addr) (n m cf ct : Nat) (fs ts : List ByteArray) (w : World) (hn : n ≤ 9223372036854775807) (hm : m ≤ 9223372036854775807) (hF : StrsIn w pf n fs) (hT : StrsIn w pt m ts) (hfs : fs.length = n) (hts : ts.length = m) (hpf : pf = none → n = 0 ∧ cf = 0) (hpt : pt = none → m = 0 ∧ ct = 0) :
    Calls Tryd.prog 3 #[.slice pf n cf, .slice pt m ct] w fun e w' => e = .returned (.bool true) ∧ Below w.heap.size w w' := by
  have HBY : Hid (Calls Tryd.prog 5 #[.slice pf n cf, .slice pt m ct] w fun e w' => ByOut fs ts w e w') := bytes5_any pf pt n m cf ct fs ts w hn hm hF hT hfs hts
  have HF : Hid (StrsIn w pf n fs) := hF
  have HT : Hid (StrsIn w pt m ts) := hT
  have HLF : Hid (fs.length = n) := hfs
  have HLT : Hid (ts.length = m) := hts
  have HPF : Hid (pf = none → n = 0 ∧ cf = 0) := hpf
  have HPT : Hid (pt = none → m = 0 ∧ ct = 0) := hpt
  clear hF hT hfs hts hpf hpt
  go_enter Tryd.func3, Tryd.ntmps3
  go_wp2_with fail
  refine HBY.out.mono ?_
  rintro e w0 ⟨he | he, hw⟩
  rotate_left
  · obtain rfl := hw.symm
    subst he
    go_wp2_with fail
    go_ret
    exact ⟨rfl, Below.refl _ _⟩
  obtain rfl := hw.symm
  obtain ⟨rfl, hsz⟩ := he
  have HSZ : Hid (∀ s ∈ fs ++ ts, s.size ≤ 1048576) := hsz
  clear hsz HBY
  by_cases a1 : (65536 : Int) < n
  · go_wp2_with fail
    go_ret
    exact ⟨rfl, Below.refl _ _⟩
  by_cases a2 : (65536 : Int) < m
  · go_wp2_with fail
    go_ret
    exact ⟨rfl, Below.refl _ _⟩
  have HT1 : Hid (Calls Tryd.prog 6 #[.slice pf n cf] w fun e w' => (∃ v : Int, 0 ≤ v ∧ v ≤ 4000000 ∧ e = .returned (.int .i64 v)) ∧ w' = w) := textBytes_any pf n cf fs w (by omega) HF.out
  have HT2 : Hid (Calls Tryd.prog 6 #[.slice pt m ct] w fun e w' => (∃ v : Int, 0 ≤ v ∧ v ≤ 4000000 ∧ e = .returned (.int .i64 v)) ∧ w' = w) := textBytes_any pt m ct ts w (by omega) HT.out
  have HC1 : Hid (Calls Tryd.prog 7 #[.slice pf n cf] w fun e w' => ClOut fs w e w') := clone_any pf n cf fs w (by omega) HLF.out HPF.out HF.out
  have HC2 : Hid (∀ w1, Below w.heap.size w w1 → Calls Tryd.prog 7 #[.slice pt m ct] w1 fun e w' => ClOut ts w1 e w') := fun w1 hb => clone_any pt m ct ts w1 (by omega) HLT.out HPT.out (fun h0 => by
    obtain ⟨b, o, hp, hc⟩ := HT.out h0
    exact ⟨b, o, hp, fun i hi => (hb.cell (p := ⟨b, o + i, none⟩) (World.block_lt_of_cell? w _ (hc i hi))).trans (hc i hi)⟩)
  go_wp2_with fail
  refine HT1.out.mono ?_
  rintro e w1 ⟨⟨v1, h10, h11, rfl⟩, hw⟩
  obtain rfl := hw.symm
  go_wp2_with fail
  refine HT2.out.mono ?_
  rintro e w1 ⟨⟨v2, h20, h21, rfl⟩, hw⟩
  obtain rfl := hw.symm
  by_cases a3 : (1048576 : Int) < v1 + v2
  · go_wp2_with fail
    go_ret
    exact ⟨rfl, Below.refl _ _⟩
  clear HT1 HT2
  go_wp2_with fail
  refine HC1.out.mono ?_
  rintro e w1 ⟨fv, rfl, hlv1, ⟨af, nf, cf1, hv1⟩, hb1⟩
  have HB1 : Hid (Below w.heap.size w w1) := hb1
  have HL1 : Hid (Lv w1 w1.heap.size fv fs) := hlv1
  have HV1 : Hid (fv = .slice af nf cf1) := hv1
  clear hb1 hlv1 hv1 HC1
  go_wp2_with fail
  refine (HC2.out w1 HB1.out).mono ?_
  rintro e w2 ⟨tv, rfl, hlv2, ⟨at_, nt, ct1, hv2⟩, hb2⟩
  have HB2 : Hid (Below w.heap.size w w2) := HB1.out.trans (hb2.mono HB1.out.size)
  have HL1' : Hid (Lv w2 w2.heap.size fv fs) := by
    rcases HL1.out with h | ⟨g, h1, h2, h3⟩
    · exact .inl h
    · exact .inr ⟨g, h1, Nat.lt_of_lt_of_le h2 hb2.size, (hb2.block g h2).trans h3⟩
  have HL2 : Hid (Lv w2 w2.heap.size tv ts) := hlv2
  have HV2 : Hid (tv = .slice at_ nt ct1) := hv2
  clear hb2 hlv2 hv2 HC2 HL1 HB1
  have HSC : Hid (Calls Tryd.prog 9 #[fv, tv] w2 fun e w' => ScOut fs ts w2 e w') := by
    have e1 : ∃ a c, fv = .slice a fs.length c := by
      rcases HL1'.out with ⟨h, hf⟩ | ⟨g, h, _⟩
      · exact ⟨none, 0, by rw [h, hf]; rfl⟩
      · exact ⟨_, _, h⟩
    have e2 : ∃ a c, tv = .slice a ts.length c := by
      rcases HL2.out with ⟨h, hf⟩ | ⟨g, h, _⟩
      · exact ⟨none, 0, by rw [h, hf]; rfl⟩
      · exact ⟨_, _, h⟩
    obtain ⟨a1', c1', h1⟩ := e1
    obtain ⟨a2', c2', h2⟩ := e2
    have q1 := HL1'.out
    have q2 := HL2.out
    rw [h1] at q1 ⊢
    rw [h2] at q2 ⊢
    exact zzScript_any fs ts a1' a2' c1' c2' w2 (by have := HLF.out; omega) (by have := HLT.out; omega) q1 q2 (fun s hs => by have := HSZ.out s hs; omega)
  go_wp2_with fail
  refine HSC.out.mono ?_
  rintro e w3 ⟨g, cap, L, rfl, hc, hL, ⟨i9, j9, hSI⟩, hb3⟩
  have HB3 : Hid (Below w2.heap.size w2 w3) := hb3
  have HC : Hid (∀ k, k < L.length → w3.cell? ⟨g, k, none⟩ = some (.int .u8 (L.getD k 0))) := hc
  have HSI : Hid (SI fs ts L L.length i9 j9) := hSI
  obtain ⟨N, HN⟩ : ∃ N, Hid (L.length = N) := ⟨_, rfl⟩
  rw [HN.out] at hL HC
  clear hb3 hc hSI HSC
  rw [HN.out]
  have HOB : Hid (Calls Tryd.prog 8 #[.slice (some ⟨g, 0, none⟩) N cap] w3 fun e w' => e = .returned (.slice (some ⟨w3.heap.size, 0, none⟩) N N) ∧ Ob w' w3.heap.size L ∧ Below w3.heap.size w3 w' ∧ w3.heap.size < w'.heap.size) := opBytes_any g N cap L w3 (by omega) HN.out HC.out
  go_wp2_with fail
  refine HOB.out.mono ?_
  rintro e w4 ⟨rfl, hob, hb4, hs4⟩
  obtain ⟨G, HG⟩ : ∃ G, Hid (w3.heap.size = G) := ⟨_, rfl⟩
  rw [HG.out] at hob
  rw [HG.out]
  have HO : Hid (Ob w4 G L) := hob
  have HB24 : Hid (Below w2.heap.size w2 w4) := HB3.out.trans (hb4.mono HB3.out.size)
  have HB4 : Hid (Below w.heap.size w w4) := HB2.out.trans (HB24.out.mono HB2.out.size)
  clear hob hb4 hs4 HOB
  have HLF4 : Hid (Lv w4 w2.heap.size fv fs) := HL1'.out.below HB24.out
  have HLT4 : Hid (Lv w4 w2.heap.size tv ts) := HL2.out.below HB24.out
  have HED : Hid (Ed fs ts 0 0 L fs.length ts.length) := by
    have h1 := HSI.out.e1
    have h2 := HSI.out.e2
    rw [List.take_length] at h1
    rw [List.drop_length] at h2
    cases h2
    exact h1
  have HVA : Hid (Calls Tryd.prog 10 #[fv, tv, .slice (some ⟨G, 0, none⟩) N N] w4 fun e w' => e = .returned (.bool true) ∧ ∃ q, w' = w4.drewN q) := valid_any fs ts _ fv tv G N L w4 (by omega) HN.out HO.out HLF4.out HLT4.out (by have := HLF.out; omega) (by have := HLT.out; omega) HED.out
  have HCA : Hid (∀ q, Calls Tryd.prog 11 #[.slice (some ⟨G, 0, none⟩) N N] (w4.drewN q) fun e w' => e = .returned (.bool true) ∧ w' = w4.drewN q) := fun q => canon_any G N L (w4.drewN q) (by omega) HN.out HO.out HSI.out.c HED.out.ops
  go_wp2_with fail
  refine HVA.out.mono ?_
  rintro e w5 ⟨rfl, q, hw5⟩
  subst hw5
  go_wp2_with fail
  refine (HCA.out q).mono ?_
  rintro e w6 ⟨rfl, hw6⟩
  obtain rfl := hw6
  go_wp2_with fail
  go_ret
  exact ⟨rfl, Below.drewN HB4.out q⟩
end Go.Proofs.Qxb6606346aDoor
