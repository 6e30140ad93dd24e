import Derived.Test.Qxb6606027aDoorS4
namespace Go.Proofs.Qxb6606027aDoor
open Go.RowKit

theorem zero49 : (Tryd.prog.info? 49).map (fun i => (i.zero, i.size)) = some (some (.agg (Array.replicate 256 (.bool false))), 256) := by kernel_rfl

theorem zc49 : Tryd.zeroCells49 = Array.replicate 256 (.bool false) := by kernel_rfl
theorem two_has {ch : ByteArray} {ca cb : UInt8} (h : Two ch ca cb) (x : Int) (h0 : 0 ≤ x) (h1 : x < 256) : ch.data.toList.contains x.toNat.toUInt8 = true ↔ (x = ca.toNat ∨ x = cb.toNat) := by
  rw [← ix_two h x h0 h1, Lib.contains_iff_indexByte]
  simp

set_option maxHeartbeats 8000000 in
set_option maxRecDepth 1000000 in
theorem ia_long (ch : ByteArray) (ca cb : UInt8) (b o n c : Nat) (xs : List Int) (w : World) (hT : Two ch ca cb) (h8 : 8 < n) (hnb : n ≤ 1048576) (h : Sl w (some ⟨b, o, none⟩) n c xs) :
    Calls Tryd.prog 27 #[.slice (some ⟨b, o, none⟩) n c, .string ch] w fun e w' => e = .returned (.int .i64 (ia xs ca.toNat cb.toNat)) ∧ Below w.heap.size w w' := by
  have hsz2 := hT.size
  have hM : Calls Tryd.prog 40 #[.string ch] w fun e w' => e = .returned (.tuple #[.agg (Lib.setCells ch.data.toList), .bool true]) ∧ w' = w.alloc (.cells (Lib.setCells ch.data.toList) 49) :=
    Any.bytes_makeASCIISet Tryd.laysMake (zero_of_info zero49).1 (zero_of_info zero49).2 ch w (by omega) (fun j y hj => by
      have h1 := hT.a
      have h2 := hT.b
      rw [hT.l] at hj
      match j, hj with
      | 0, hj => have : ca = y := by simpa using hj
                 rw [← this]; exact h1
      | 1, hj => have : cb = y := by simpa using hj
                 rw [← this]; exact h2
      | j + 2, hj => simp at hj)
  have hsc : (storeCells ⟨w.heap.size + 1, 0, none⟩ (Lib.setCells ch.data.toList).toList 0).run Tryd.prog ((w.alloc (.cells (Lib.setCells ch.data.toList) 49)).alloc (.cells (Array.replicate 256 (.bool false)) 49)) = .ok () ((w.alloc (.cells (Lib.setCells ch.data.toList) 49)).alloc (.cells (Lib.setCells ch.data.toList) 49)) := by
    have := run_storeCells_new (P := Tryd.prog) (w.alloc (.cells (Lib.setCells ch.data.toList) 49)) 49 (Array.replicate 256 (.bool false)) (Lib.setCells ch.data.toList) (by rw [Lib.setCells_size]; exact (zero_of_info zero49).2) (by rw [Lib.setCells_size, Array.size_replicate]) (Lib.setCells_one _)
    simpa using this
  have hset := Lib.setCells_size ch.data.toList
  have HC : Hid (∀ x : UInt8, ((w.alloc (.cells (Lib.setCells ch.data.toList) 49)).alloc (.cells (Lib.setCells ch.data.toList) 49)).cell? ⟨w.heap.size + 1, x.toNat, none⟩ = some (.bool (ch.data.toList.contains x))) := fun x => by
    rw [World.cell?_alloc_at _ _ _ _ (by simp), Lib.setCells_at]
  obtain ⟨W2, HW2⟩ : ∃ W2, ((w.alloc (.cells (Lib.setCells ch.data.toList) 49)).alloc (.cells (Lib.setCells ch.data.toList) 49)) = W2 := ⟨_, rfl⟩
  have HB : Hid (Below w.heap.size w W2) := by rw [← HW2]; exact ((Below.refl _ _).alloc (Nat.le_refl _) _).alloc (by simp) _
  have HX : Hid (xs.length = n) := h.len
  have HI : Hid (∀ i, 0 ≤ xs.getD i 0 ∧ xs.getD i 0 < 256) := h.inB
  have HD : Hid (∀ i, i < n → W2.cell? ⟨b, o + i, none⟩ = some (.int .u8 (xs.getD i 0))) := fun i hi => by
    obtain ⟨b', o', e, hc⟩ := h.at (by omega)
    cases e
    exact (HB.out.cell (World.block_lt_of_cell? _ _ (hc i hi))).trans (hc i hi)
  have HH : Hid (∀ x : Int, 0 ≤ x → x < 256 → (ch.data.toList.contains x.toNat.toUInt8 = true ↔ (x = ca.toNat ∨ x = cb.toNat))) := two_has hT
  have hemp := hT.emp
  have hn1 : ((ch.size : Int) == 1) = false := beq_eq_false_iff_ne.2 (by omega)
  have hm1 : ((n : Int) == 1) = false := beq_eq_false_iff_ne.2 (by omega)
  have h8z : decide ((8 : Int) < (n : Int)) = true := decide_eq_true (by omega)
  rw [HW2] at HC
  rw [HW2] at hsc
  have HM : Hid (Calls Tryd.prog 40 #[.string ch] w fun e w' => e = .returned (.tuple #[.agg (Lib.setCells ch.data.toList), .bool true]) ∧ w' = w.alloc (.cells (Lib.setCells ch.data.toList) 49)) := hM
  clear h hT hM hsz2
  obtain ⟨A, HA⟩ : ∃ A, Hid (ia xs ca.toNat cb.toNat = A) := ⟨_, rfl⟩
  rw [HA.out]
  go_enter Tryd.func27, Tryd.ntmps27
  go_wp2_with fail
  refine (should_any _ _).mono ?_
  rintro e w1 ⟨rfl, hw⟩
  obtain rfl := hw.symm
  rw [h8z]
  go_wp2_with fail
  refine HM.out.mono ?_
  rintro e w1 ⟨rfl, hw⟩
  rw [hw]
  clear hw HM
  go_wp2
  rw [zc49]
  simp only [hsc, Result.andThen]
  rw [Oper.upon_skip]
  clear hsc HW2 hset
  go_wp2
  go_loop [62] (fun s => ∃ i : Nat, i ≤ n ∧ s = .int .i64 i ∧ Hid (NoPQ xs ca.toNat cb.toNat i)) (fun i => n - (intOf i).toNat)
  case atStart => exact ⟨0, by omega, rfl, NoPQ.zero _ _ _⟩
  case round =>
    obtain ⟨i, hi, rfl, HN⟩ := hrel
    by_cases hlt : i < n
    · have hli : (i : Int) < (n : Int) := by omega
      obtain ⟨x, HXI⟩ : ∃ x, Hid (xs.getD i 0 = x) := ⟨_, rfl⟩
      have hci := HD.out i hlt
      rw [HXI.out] at hci
      have hx0 : 0 ≤ x := by have := (HI.out i).1; rw [HXI.out] at this; exact this
      have hx1 : x < 256 := by have := (HI.out i).2; rw [HXI.out] at this; exact this
      have ht : ((x.toNat.toUInt8.toNat : Nat) : Int) = x := by simp; omega
      have hh := HH.out x hx0 hx1
      have hcell := HC.out x.toNat.toUInt8
      have hcon : Calls Tryd.prog 41 #[.pointer (some ⟨w.heap.size + 1, 0, none⟩), .int .u8 x] W2 fun e w' => e = .returned (.bool (ch.data.toList.contains x.toNat.toUInt8)) ∧ w' = W2 := by
        have := Any.bytes_asciiSet_contains Tryd.laysHas (w.heap.size + 1) x.toNat.toUInt8 _ W2 hcell
        rw [ht] at this
        exact this
      cases hin : ch.data.toList.contains x.toNat.toUInt8 with
      | false =>
        rw [hin] at hcon
        have HNo : Hid (NoPQ xs ca.toNat cb.toNat (i + 1)) := HN.out.add (K := 1) (fun j hj => by
          obtain rfl : j = 0 := by omega
          rw [Nat.add_zero, HXI.out]
          have h3 : ¬ (x = ca.toNat ∨ x = cb.toNat) := fun e => by rw [hh.2 e] at hin; cases hin
          exact ⟨fun e => h3 (.inl e), fun e => h3 (.inr e)⟩)
        have HCon : Hid (Calls Tryd.prog 41 #[.pointer (some ⟨w.heap.size + 1, 0, none⟩), .int .u8 x] W2 fun e w' => e = .returned (.bool false) ∧ w' = W2) := hcon
        clear hcon hcell hh ht hin
        go_wp2_with fail
        refine HCon.out.mono ?_
        rintro e w3 ⟨rfl, hw⟩
        obtain rfl := hw.symm
        go_wp2
        go_round
        case rel => exact ⟨i + 1, by omega, by go_num, HNo⟩
        case measure => simp [intOf]; omega
      | true =>
        rw [hin] at hcon
        have HAi : Hid (A = (i : Int)) := by show _ = _; rw [← HA.out]; exact ia_hit HN.out (by rw [HX.out]; exact hlt) (by rw [HXI.out]; exact hh.1 hin)
        have HCon : Hid (Calls Tryd.prog 41 #[.pointer (some ⟨w.heap.size + 1, 0, none⟩), .int .u8 x] W2 fun e w' => e = .returned (.bool true) ∧ w' = W2) := hcon
        clear hcon hcell hh ht hin
        go_wp2_with fail
        refine HCon.out.mono ?_
        rintro e w3 ⟨rfl, hw⟩
        obtain rfl := hw.symm
        go_wp2
        go_ret
        exact ⟨by rw [HAi.out]; rfl, HB.out⟩
    · have HAi : Hid (A = -1) := by show _ = _; rw [← HA.out]; exact ia_none (by rw [HX.out, show n = i from by omega]; exact HN.out)
      go_wp2
      go_ret
      exact ⟨by rw [HAi.out]; rfl, HB.out⟩
end Go.Proofs.Qxb6606027aDoor
