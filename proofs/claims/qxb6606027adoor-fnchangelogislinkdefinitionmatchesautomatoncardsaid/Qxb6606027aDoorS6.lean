import Derived.Test.Qxb6606027aDoorS5
namespace Go.Proofs.Qxb6606027aDoor
open Go.RowKit

theorem getD_drop (xs : List Int) (i j : Nat) : (xs.drop i).getD j 0 = xs.getD (i + j) 0 := by
  simp [List.getD_eq_getElem?_getD, List.getElem?_drop]
/-- DecodeRune at the bytes from i on -/
theorem dec_at (b o n c i : Nat) (xs : List Int) (W : World) (hx : xs.length = n) (hi : i < n) (hb : ∀ i, 0 ≤ xs.getD i 0 ∧ xs.getD i 0 < 256)
    (hc : ∀ j, j < n → W.cell? ⟨b, o + j, none⟩ = some (.int .u8 (xs.getD j 0))) (hT : Lib.Utf8Tabs 1 2 W) (h128 : 128 ≤ xs.getD i 0) :
    ∃ R K : Nat, (128 ≤ R ∧ R ≤ 1114111 ∧ 1 ≤ K ∧ i + K ≤ n ∧ K ≤ 4 ∧ (∀ j, j < K → 128 ≤ xs.getD (i + j) 0) ∧ (R ≠ 65533 → 2 ≤ K ∧ (Utf8.encode (R : Int)).size = K)) ∧
      Calls Tryd.prog 42 #[.slice (some ⟨b, o + i, none⟩) (n - i) c] W fun e w' => e = .returned (.tuple #[.int .i32 R, .int .i64 K]) ∧ Below W.heap.size W w' := by
  have hl : (xs.drop i).length = n - i := by simp [hx]
  have hsz : (bsOf (xs.drop i)).size = n - i := by rw [bsOf_size, hl]
  have hbd : ∀ j, 0 ≤ (xs.drop i).getD j 0 ∧ (xs.drop i).getD j 0 < 256 := fun j => by rw [getD_drop]; exact hb _
  have hk := Any7.utf8_DecodeRune Tryd.laysDec (bsOf (xs.drop i)) b (o + i) c W hT (fun j hj => by
    rw [hsz] at hj
    rw [Nat.add_assoc, hc (i + j) (by omega), bsOf_get _ j (by omega) hbd, getD_drop])
  rw [hsz] at hk
  obtain ⟨R, K, hRK⟩ : ∃ R K, Lib.decodeGo (bsOf (xs.drop i)) = (R, K) := ⟨_, _, rfl⟩
  rw [hRK] at hk
  refine ⟨R, K, ?_, hk⟩
  obtain ⟨f1, f2, f3, f4, f5, f6, f7⟩ := dec_facts (xs.drop i) R K hRK (by omega) hbd (by rw [getD_drop]; exact h128)
  exact ⟨f1, f2, f3, by omega, f5, fun j hj => by rw [← getD_drop]; exact f6 j hj, f7⟩

theorem tabs_below {g h : Nat} {w w' : World} (hT : Lib.Utf8Tabs g h w) (hb : Below w.heap.size w w') : Lib.Utf8Tabs g h w' :=
  ⟨fun c hc => (hb.cell (World.block_lt_of_cell? _ _ (hT.1 c hc))).trans (hT.1 c hc),
   fun i hi => ⟨(hb.cell (World.block_lt_of_cell? _ _ (hT.2 i hi).1)).trans (hT.2 i hi).1, (hb.cell (World.block_lt_of_cell? _ _ (hT.2 i hi).2)).trans (hT.2 i hi).2⟩⟩

theorem two_ne {ch : ByteArray} {ca cb : UInt8} (h : Two ch ca cb) (R : Nat) (h1 : 128 ≤ R) (hs : (Utf8.encode (R : Int)).size = 2) : (ch.toList == (Utf8.encode (R : Int)).toList) = false := by
  have hlt : R < 2048 := by
    by_cases h2 : R < 2048
    · exact h2
    · exfalso
      by_cases hv : Utf8.valid (R : Int) = true
      · unfold Utf8.encode at hs
        simp only [hv, if_true, Int.toNat_natCast] at hs
        rw [if_neg (by omega), if_neg (by omega)] at hs
        split at hs <;> cases hs
      · unfold Utf8.encode at hs
        simp only [hv] at hs
        cases hs
  obtain ⟨_, y, z, hd, hy⟩ := encode_two R h1 hlt
  have ha := h.a
  rw [Lib.toList_data, Lib.toList_data, h.l, hd]
  apply beq_eq_false_iff_ne.2
  intro e
  have : ca = y := by simpa using congrArg List.head? e
  rw [this] at ha
  omega

set_option maxHeartbeats 8000000 in
set_option maxRecDepth 1000000 in
theorem ia_short (ch : ByteArray) (ca cb : UInt8) (b o n c : Nat) (xs : List Int) (m : Int) (w : World) (hT : Two ch ca cb) (h2 : 2 ≤ n) (h8 : n ≤ 8) (h : Sl w (some ⟨b, o, none⟩) n c xs)
    (hU : Lib.Utf8Tabs 1 2 w) (hm : w.cell? ⟨0, 0, none⟩ = some (.int .i64 m)) :
    Calls Tryd.prog 27 #[.slice (some ⟨b, o, none⟩) n c, .string ch] w fun e w' => e = .returned (.int .i64 (ia xs ca.toNat cb.toNat)) ∧ Below w.heap.size w w' := by
  have hsz2 := hT.size
  have HS : Hid (ch.size = 2) := hsz2
  have HX : Hid (xs.length = n) := h.len
  have hnc := h.cap
  have htop := h.top
  have HI : Hid (∀ i, 0 ≤ xs.getD i 0 ∧ xs.getD i 0 < 256) := h.inB
  have HD : Hid (∀ i, i < n → w.cell? ⟨b, o + i, none⟩ = some (.int .u8 (xs.getD i 0))) := fun i hi => by
    obtain ⟨b', o', e, hc⟩ := h.at (by omega)
    cases e
    exact hc i hi
  have HH : Hid (∀ x : Int, 0 ≤ x → x < 256 → ((0 ≤ Lib.indexByte ch.data.toList x.toNat.toUInt8) ↔ (x = ca.toNat ∨ x = cb.toNat))) := ix_two hT
  have HT : Hid (Two ch ca cb) := hT
  have HU : Hid (Lib.Utf8Tabs 1 2 w) := hU
  have HM : Hid (w.cell? ⟨0, 0, none⟩ = some (.int .i64 m)) := hm
  have hemp := hT.emp
  have hn1 : ((ch.size : Int) == 1) = false := beq_eq_false_iff_ne.2 (by omega)
  have hm1 : ((n : Int) == 1) = false := beq_eq_false_iff_ne.2 (by omega)
  have h8z : decide ((8 : Int) < (n : Int)) = false := decide_eq_false (by omega)
  obtain ⟨A, HA⟩ : ∃ A, Hid (ia xs ca.toNat cb.toNat = A) := ⟨_, rfl⟩
  rw [HA.out]
  clear h hT hU hm hsz2
  go_enter Tryd.func27, Tryd.ntmps27
  go_wp2_with fail
  refine (should_any _ _).mono ?_
  rintro e w1 ⟨rfl, hw⟩
  obtain rfl := hw.symm
  rw [h8z]
  go_wp2
  go_loopg [11, 12] (n + 1) (fun g s t wx => ∃ (i : Nat) (wd : Int), i + g = n + 1 ∧ i ≤ n ∧ s = .int .i64 wd ∧ t = .int .i64 i ∧ Hid (Below w.heap.size w wx) ∧ Hid (NoPQ xs ca.toNat cb.toNat i))
  case atStart => exact ⟨0, 0, by omega, by omega, rfl, rfl, Below.refl _ _, NoPQ.zero _ _ _⟩
  case round =>
    obtain ⟨i, wd, hig, hin, rfl, rfl, HB, HN⟩ := hrel
    by_cases hlt : i < n
    · have hli : (i : Int) < (n : Int) := by omega
      obtain ⟨x, HXI⟩ : ∃ x, Hid (xs.getD i 0 = x) := ⟨_, rfl⟩
      have hci : wr.cell? ⟨b, o + i, none⟩ = some (.int .u8 x) := by
        have h := HD.out i hlt
        rw [HXI.out] at h
        exact (HB.out.cell (World.block_lt_of_cell? _ _ h)).trans h
      have hx0 : 0 ≤ x := by have := (HI.out i).1; rw [HXI.out] at this; exact this
      have hx1 : x < 256 := by have := (HI.out i).2; rw [HXI.out] at this; exact this
      by_cases hasc : x < 128
      · have hr := Lib.run_indexByteString (P := Tryd.prog) ch x
        have hh := HH.out x hx0 hx1
        obtain ⟨I, HI2⟩ : ∃ I, Hid (Lib.indexByte ch.data.toList x.toNat.toUInt8 = I) := ⟨_, rfl⟩
        rw [HI2.out] at hr hh
        have Hh : Hid ((0 ≤ I) ↔ (x = ca.toNat ∨ x = cb.toNat)) := hh
        clear hh
        by_cases hI : 0 ≤ I
        · have HAi : Hid (A = (i : Int)) := by show _ = _; rw [← HA.out]; exact ia_hit HN.out (by rw [HX.out]; exact hlt) (by rw [HXI.out]; exact Hh.out.1 hI)
          go_wp2
          rw [run_callFunc_extern Tryd.func37 (by kernel_rfl) (by kernel_rfl) (by kernel_rfl) (e := Extern.BytealgIndexByte.indexByte) (by kernel_rfl), hr]
          simp only [Result.andThen]
          rw [Oper.upon_value]
          go_wp2
          go_ret
          exact ⟨by rw [HAi.out]; rfl, HB.out⟩
        · have HNo : Hid (NoPQ xs ca.toNat cb.toNat (i + 1)) := HN.out.add (K := 1) (fun j hj => by
            obtain rfl : j = 0 := by omega
            rw [Nat.add_zero, HXI.out]
            have h3 : ¬ (x = ca.toNat ∨ x = cb.toNat) := fun e => hI (Hh.out.2 e)
            exact ⟨fun e => h3 (.inl e), fun e => h3 (.inr e)⟩)
          go_wp2
          rw [run_callFunc_extern Tryd.func37 (by kernel_rfl) (by kernel_rfl) (by kernel_rfl) (e := Extern.BytealgIndexByte.indexByte) (by kernel_rfl), hr]
          simp only [Result.andThen]
          rw [Oper.upon_value]
          go_wp2
          go_roundg (n - i)
          case measure => omega
          case rel => exact ⟨i + 1, 1, by omega, by omega, rfl, by go_num, HB, HNo⟩
      · have hslice : ¬ c = i := by omega
        have hDW : ∀ j, j < n → wr.cell? ⟨b, o + j, none⟩ = some (.int .u8 (xs.getD j 0)) := fun j hj => (HB.out.cell (World.block_lt_of_cell? _ _ (HD.out j hj))).trans (HD.out j hj)
        obtain ⟨R, K, ⟨f1, f2, f3, f4, f5, f6, f7⟩, hdec⟩ := dec_at b o n (c - i) i xs wr HX.out hlt HI.out hDW (tabs_below HU.out HB.out) (by rw [HXI.out]; omega)
        have HNo : Hid (NoPQ xs ca.toNat cb.toNat (i + K)) := HN.out.add (fun j hj => by
          have h1 := HT.out.a
          have h2 := HT.out.b
          have := f6 j hj
          omega)
        have HF7 : Hid (R ≠ 65533 → 2 ≤ K ∧ (Utf8.encode (R : Int)).size = K) := f7
        have HDec : Hid (Calls Tryd.prog 42 #[.slice (some ⟨b, o + i, none⟩) (n - i) (c - i)] wr fun e w' => e = .returned (.tuple #[.int .i32 R, .int .i64 K]) ∧ Below wr.heap.size wr w') := hdec
        clear f6 f7 hdec hDW
        go_wp2_with fail
        refine HDec.out.mono ?_
        rintro e w2 ⟨rfl, hb2⟩
        have HB2 : Hid (Below w.heap.size w w2) := HB.out.trans (hb2.mono HB.out.size)
        clear HDec hb2
        by_cases hR : R = 65533
        · have hRb : ((R : Int) == 65533) = true := beq_iff_eq.2 (by omega)
          clear hR
          go_wp2
          go_loopg [15] 3 (fun g _ wx => ∃ i2 : Nat, i2 + g = 3 ∧ i2 ≤ 2 ∧ wx = w2.iter ch i2)
          case atStart => exact ⟨0, by omega, by omega, rfl⟩
          case round =>
            obtain ⟨i2, hig2, hi2, rfl⟩ := hrel
            by_cases hj : i2 < 2
            · obtain ⟨r, hr, hnx⟩ := nx_two HT.out w2 i2 hj
              have hne : ((R : Int) == (r : Int)) = false := beq_eq_false_iff_ne.2 (by omega)
              go_wp2
              go_roundg (2 - i2)
              case measure => omega
              case rel => exact ⟨i2 + 1, by omega, by omega, rfl⟩
            · obtain rfl : i2 = 2 := by omega
              have hnx := nx_end HT.out w2
              go_wp2
              go_roundg (n + 1 - (i + K))
              case measure => omega
              case rel => exact ⟨i + K, K, by omega, by omega, rfl, by go_num, HB2.out.alloc HB2.out.size _, HNo⟩
        · have hRb : ((R : Int) == 65533) = false := beq_eq_false_iff_ne.2 (by omega)
          have hK2 : 2 ≤ K := (HF7.out hR).1
          have HR : Hid (R ≠ 65533) := hR
          clear hR
          by_cases hK : K = 2
          · have hKn : ((ch.size : Int) == (K : Int)) = true := beq_iff_eq.2 (by rw [HS.out]; omega)
            go_wp2
            · rename_i heq
              exact absurd heq (by rw [two_ne HT.out R f1 (by rw [(HF7.out HR.out).2, hK])]; exact Bool.false_ne_true)
            · go_roundg (n + 1 - (i + K))
              case measure => omega
              case rel => exact ⟨i + K, K, by omega, by omega, by rw [hK]; rfl, by rw [hK]; first | rfl | go_num, HB2, HNo⟩
          · have hKn : ((ch.size : Int) == (K : Int)) = false := beq_eq_false_iff_ne.2 (by rw [HS.out]; omega)
            have hmc : w2.cell? ⟨0, 0, none⟩ = some (.int .i64 m) := (HB2.out.cell (World.block_lt_of_cell? _ _ HM.out)).trans HM.out
            by_cases hmk : (K : Int) ≤ m
            · go_wp2
              have hix := Lib.run_indexString (P := Tryd.prog) ch (Utf8.encode (R : Int)) w2 0 m (by kernel_rfl) hmc (by rw [(HF7.out HR.out).2]; exact hK2) (by rw [(HF7.out HR.out).2]; exact hmk) (by rw [HS.out]; omega)
              have hneg : ¬ (0 : Int) ≤ Lib.index ch.data.toList (Utf8.encode (R : Int)).data.toList := fun h0 => by
                have := Lib.index_room _ _ h0
                rw [← Lib.size_eq, ← Lib.size_eq, HS.out, (HF7.out HR.out).2] at this
                omega
              generalize Lib.index ch.data.toList (Utf8.encode (R : Int)).data.toList = J at hix hneg
              rw [run_callFunc_extern Tryd.func43 (by kernel_rfl) (by kernel_rfl) (by kernel_rfl) (e := Extern.BytealgIndex.index) (by kernel_rfl), hix]
              simp only [Result.andThen]
              rw [Oper.upon_value]
              generalize Utf8.encode (R : Int) = E
              clear hix
              go_wp2
              go_roundg (n + 1 - (i + K))
              case measure => omega
              case rel => exact ⟨i + K, K, by omega, by omega, rfl, by first | rfl | go_num, HB2, HNo⟩
            · 
              go_wp2
              go_loopg [15] 3 (fun g _ wx => ∃ i2 : Nat, i2 + g = 3 ∧ i2 ≤ 2 ∧ wx = w2.iter ch i2)
              case atStart => exact ⟨0, by omega, by omega, rfl⟩
              case round =>
                obtain ⟨i2, hig2, hi2, rfl⟩ := hrel
                by_cases hj : i2 < 2
                · obtain ⟨r, hr, hnx⟩ := nx_two HT.out w2 i2 hj
                  have hne : ((R : Int) == (r : Int)) = false := beq_eq_false_iff_ne.2 (by omega)
                  go_wp2
                  go_roundg (2 - i2)
                  case measure => omega
                  case rel => exact ⟨i2 + 1, by omega, by omega, rfl⟩
                · obtain rfl : i2 = 2 := by omega
                  have hnx := nx_end HT.out w2
                  go_wp2
                  go_roundg (n + 1 - (i + K))
                  case measure => omega
                  case rel => exact ⟨i + K, K, by omega, by omega, rfl, by go_num, HB2.out.alloc HB2.out.size _, HNo⟩
    · have HAi : Hid (A = -1) := by show _ = _; rw [← HA.out]; exact ia_none (by rw [HX.out, show n = i from by omega]; exact HN.out)
      go_wp2
      go_ret
      exact ⟨by rw [HAi.out]; rfl, HB.out⟩
end Go.Proofs.Qxb6606027aDoor
