import Derived.Test.Qxb6606027aDoorP2
import Derived.Deep.OwnRows
namespace Go.Proofs.Qxb6606027aDoor
open Go.RowKit
set_option linter.unusedVariables false
theorem Tryd.info5 : (Tryd.prog.info? 5).map (fun i => (i.zero, i.size, i.bytes)) = some (some (.int .u8 0), 1, 1) := by kernel_rfl

theorem fill_step {α : Type} (f : Int → α) (z : α) (xs : List Int) (n k : Nat) (hx : xs.length = n) (hk : k < n) :
    ((xs.take k).map f ++ List.replicate (n - k) z).set k (f (xs.getD k 0)) = (xs.take (k + 1)).map f ++ List.replicate (n - (k + 1)) z := by
  apply List.ext_getElem?
  intro j
  have hl : ((xs.take k).map f).length = k := by simp; omega
  rw [List.getElem?_set]
  by_cases e : k = j
  · subst e
    rw [if_pos rfl, if_pos (by simp; omega)]
    rw [List.getElem?_append_left (by simp; omega)]
    simp [show k < xs.length by omega]
  · rw [if_neg e]
    by_cases h : j < k
    · rw [List.getElem?_append_left (by omega), List.getElem?_append_left (by simp; omega)]
      simp [h, show j < k + 1 by omega]
    · rw [List.getElem?_append_right (by omega), List.getElem?_append_right (by simp; omega)]
      simp only [List.getElem?_replicate, hl]
      have hl2 : ((xs.take (k + 1)).map f).length = k + 1 := by simp; omega
      rw [hl2]
      by_cases h2 : j < n
      · rw [if_pos (by omega), if_pos (by omega)]
      · rw [if_neg (by omega), if_neg (by omega)]

theorem clone_nil (w : World) :
    Calls Tryd.prog 8 #[.slice none 0 0] w fun e w' => e = .returned (.slice none 0 0) ∧ w' = w := by
  have q22 : ∀ (w : World) (a : Option Addr) (n c n' c' : Nat), (binOp .eql 22 (.slice a n c) (.slice none n' c')).run Tryd.prog w = .ok (.bool a.isNone) w := fun w a n c n' c' => Lib.run_eql_slice_nil w _ _ a n c n' c' Tryd.underlying22
  go_enter Tryd.func8, Tryd.ntmps8
  go_wp2
  go_ret
  exact ⟨rfl, rfl⟩

set_option maxHeartbeats 400000 in
theorem clone_some (a : Addr) (n c : Nat) (xs : List Int) (w : World) (hn : n ≤ 1048576) (hx : xs.length = n) (hc : ∀ i, i < n → w.cell? (a.add i) = some (.int .u8 (xs.getD i 0))) :
    Calls Tryd.prog 8 #[.slice (some a) n c] w fun e w' => e = .returned (.slice (some ⟨w.heap.size, 0, none⟩) n n) ∧ w'.ownsRow w.heap.size 5 1 (.slice (some ⟨w.heap.size, 0, none⟩) n n) n (xs.map (Value.int .u8)) ∧ Below w.heap.size w w' := by
  have q22 : ∀ (w : World) (a : Option Addr) (n c n' c' : Nat), (binOp .eql 22 (.slice a n c) (.slice none n' c')).run Tryd.prog w = .ok (.bool a.isNone) w := fun w a n c n' c' => Lib.run_eql_slice_nil w _ _ a n c n' c' Tryd.underlying22
  obtain ⟨i5, hi, hz0, hz1, hz2⟩ := info_parts Tryd.info5
  go_enter Tryd.func8, Tryd.ntmps8
  go_wp2_with (refine wpList_make_full _ rfl (.tmp 8) (.tmp 8) 22 rfl w.heap.size 5 i5 (.int .u8 0) 1 Tryd.underlying22 hi hz0 hz1 .i64 .i64 _ _ n rfl rfl rfl rfl (by rw [hz2]; omega) (by unfold maxLen; omega) (Nat.le_refl _) ?_; intro w1 hown hgrow)
  go_loopw [4] (fun i wr => ∃ k : Nat, k ≤ n ∧ i = .int .i64 k ∧ wr.ownsRow w.heap.size 5 1 (.slice (some ⟨w.heap.size, 0, none⟩) n n) n ((xs.take k).map (Value.int .u8) ++ List.replicate (n - k) (.int .u8 0)) ∧ Below w.heap.size w wr) (fun i _ => n - (intOf i).toNat)
  case atStart => exact ⟨0, by omega, rfl, by simpa [Value.cells, toList_madeCells_one] using hown, (Below.refl _ _).grown hgrow (Nat.le_refl _) (by simp)⟩
  case round =>
    obtain ⟨k, hk, rfl, ho, hb⟩ := hrel
    by_cases hlt : k < n
    · have hbw : (a.add k).block < w.heap.size := World.block_lt_of_cell? w _ (hc k hlt)
      have hcx : wr.cell? (a.add k) = some (.int .u8 (xs.getD k 0)) := (hb.cell (by exact hbw)).trans (hc k hlt)
      obtain ⟨u, hcd⟩ : ∃ u, wr.cell? ⟨w.heap.size, k, none⟩ = some u := ⟨_, (ho.cellAt k (by omega)).trans (List.getElem?_eq_getElem (by simp; omega))⟩
      have hfd := ho.frozenAt k
      have R := (ho.stored k (.int .u8 (xs.getD k 0))).1
      rw [fill_step _ _ xs n k hx hlt] at R
      have hb2 := hb.setCell (p := ⟨w.heap.size, k, none⟩) (Nat.le_refl _) (.int .u8 (xs.getD k 0))
      have HR : Hid _ := And.intro R hb2
      clear R hb2 ho hb
      go_wp2
      go_roundw
      case rel =>
        rw [List.getD_eq_getElem?_getD, List.getElem?_eq_getElem (by omega)] at HR
        exact ⟨k + 1, by omega, by go_num, HR.out.1, HR.out.2⟩
      case measure => simp [intOf]; omega
    · obtain rfl : k = n := by omega
      go_wp2
      go_ret
      rw [List.take_of_length_le (by omega)] at ho
      exact ⟨rfl, by simpa using ho, hb⟩

set_option maxHeartbeats 400000 in
theorem zzLink (p : Option Addr) (n c : Nat) (xs : List Int) (m : Int) (w : World) (hnb : n ≤ 1048576) (h : Sl w p n c xs) (hU : Lib.Utf8Tabs 1 2 w) (hm : w.cell? ⟨0, 0, none⟩ = some (.int .i64 m)) :
    Calls Tryd.prog 9 #[.slice p n c] w fun e w' => e = .returned (.bool (au xs 0 0)) ∧ Below w.heap.size w w' := by
  have HL : Hid (Calls Tryd.prog 19 #[.slice p n c] w fun e w' => e = .returned (.bool (pl xs)) ∧ Below w.heap.size w w') := isLink_any p n c xs m w hnb h hU hm
  rw [pl_au] at HL
  clear h hU hm
  generalize au xs 0 0 = A at HL ⊢
  go_enter Tryd.func9, Tryd.ntmps9
  go_wp2_with fail
  refine HL.out.mono ?_
  rintro e w' ⟨rfl, hw⟩
  go_wp2
  go_ret
  exact ⟨rfl, hw⟩

set_option maxHeartbeats 1000000 in
theorem law_at (p : Option Addr) (n c : Nat) (q : Option Addr) (k d : Nat) (xs : List Int) (m : Int) (w w1 : World) (hnb : n ≤ 1048576) (hkb : k ≤ 1048576)
    (HCl : Hid (Calls Tryd.prog 8 #[.slice p n c] w fun e w' => e = .returned (.slice q k d) ∧ Sl w' q k d xs ∧ Below w.heap.size w w')) (hU : Lib.Utf8Tabs 1 2 w) (hm : w.cell? ⟨0, 0, none⟩ = some (.int .i64 m)) :
    Calls Tryd.prog 3 #[.slice p n c] w fun e w' => e = .returned (.bool true) ∧ Below w.heap.size w w' := by
  have HB : Hid (Calls Tryd.prog 7 #[.slice p n c] w fun e w' => e = .returned (.bool true) ∧ w' = w) := by
    have := bound_any p n c w (by omega)
    rw [decide_eq_true hnb] at this
    exact this
  have hni : ¬ (1048576 : Int) < (n : Int) := by omega
  have HU : Hid (Lib.Utf8Tabs 1 2 w) := hU
  have HM : Hid (w.cell? ⟨0, 0, none⟩ = some (.int .i64 m)) := hm
  clear hU hm
  go_enter Tryd.func3, Tryd.ntmps3
  go_wp2_with fail
  refine HB.out.mono ?_
  rintro e w' ⟨rfl, hw⟩
  obtain rfl := hw.symm
  go_wp2_with fail
  refine HCl.out.mono ?_
  rintro e w2 ⟨rfl, hs, hb⟩
  have HS : Hid (Sl w2 q k d xs) := hs
  have HB2 : Hid (Below w.heap.size w w2) := hb
  clear hs hb
  have HZ : Hid (Calls Tryd.prog 9 #[.slice q k d] w2 fun e w' => e = .returned (.bool (au xs 0 0)) ∧ Below w2.heap.size w2 w') := zzLink q k d xs m w2 hkb HS.out (tabs_below HU.out HB2.out) ((HB2.out.cell (World.block_lt_of_cell? _ _ HM.out)).trans HM.out)
  have HAu : Hid (∀ W, Below w2.heap.size w2 W → Calls Tryd.prog 10 #[.slice q k d] W fun e w' => e = .returned (.bool (au xs 0 0)) ∧ w' = W) := fun W hb => auto_any q k d xs W hkb (HS.out.below hb)
  generalize au xs 0 0 = A at HZ HAu
  go_wp2_with fail
  refine HZ.out.mono ?_
  rintro e w3 ⟨rfl, hb3⟩
  have HB3 : Hid (Below w2.heap.size w2 w3) := hb3
  clear hb3
  go_wp2_with fail
  refine (HAu.out w3 HB3.out).mono ?_
  rintro e w' ⟨rfl, hw⟩
  obtain rfl := hw.symm
  go_wp2
  go_ret
  exact ⟨by simp, HB2.out.trans (HB3.out.mono HB2.out.size)⟩
set_option maxHeartbeats 400000 in
theorem law_big (p : Option Addr) (n c : Nat) (w : World) (hn : 1048576 < n) (hn2 : n ≤ 9223372036854775807) :
    Calls Tryd.prog 3 #[.slice p n c] w fun e w' => e = .returned (.bool true) ∧ Below w.heap.size w w' := by
  have HB : Hid (Calls Tryd.prog 7 #[.slice p n c] w fun e w' => e = .returned (.bool false) ∧ w' = w) := by
    have := bound_any p n c w hn2
    rw [decide_eq_false (by omega)] at this
    exact this
  go_enter Tryd.func3, Tryd.ntmps3
  go_wp2_with fail
  refine HB.out.mono ?_
  rintro e w' ⟨rfl, hw⟩
  obtain rfl := hw.symm
  go_wp2
  go_ret
  exact ⟨rfl, Below.refl _ _⟩
theorem law_any (p : Option Addr) (n c : Nat) (xs : List Int) (m : Int) (w : World) (hx : xs.length = n) (hnc : n ≤ c) (hp : p = none → c = 0) (hr : ∀ x ∈ xs, 0 ≤ x ∧ x < 256) (hB : Lib.BytesIn w p n xs) (hn2 : n ≤ 9223372036854775807) (hU : Lib.Utf8Tabs 1 2 w) (hm : w.cell? ⟨0, 0, none⟩ = some (.int .i64 m)) :
    Calls Tryd.prog 3 #[.slice p n c] w fun e w' => e = .returned (.bool true) ∧ Below w.heap.size w w' := by
  by_cases hn : 1048576 < n
  · exact law_big p n c w hn hn2
  cases p with
  | none =>
    obtain rfl := hp rfl
    obtain rfl : n = 0 := by omega
    obtain rfl : xs = [] := List.eq_nil_of_length_eq_zero hx
    exact law_at none 0 0 none 0 0 [] m w w (by omega) (by omega) ((clone_nil w).mono fun e w' ⟨he, hw⟩ => ⟨he, ⟨rfl, by omega, by omega, by simp, fun _ => rfl, by simp, Lib.BytesIn.nil _ _ _⟩, hw ▸ Below.refl _ _⟩) hU hm
  | some a =>
    refine law_at (some a) n c (some ⟨w.heap.size, 0, none⟩) n n xs m w w (by omega) (by omega) ((clone_some a n c xs w (by omega) hx (fun i hi => ?_)).mono fun e w' ⟨he, ho, hb⟩ => ⟨he, ?_, hb⟩) hU hm
    · obtain ⟨b, o, e, hc⟩ := hB (by omega)
      obtain rfl := Option.some.inj e
      rw [Go.WideShapes.add_plain]
      exact hc i hi
    · refine ⟨hx, Nat.le_refl _, by omega, hr, by simp, fun a e => ⟨w.heap.size, 0, by cases e; rfl⟩, fun _ => ⟨w.heap.size, 0, rfl, fun i hi => ?_⟩⟩
      have h := ho.cellAt i (by omega)
      rw [List.getElem?_map, List.getElem?_eq_getElem (by omega)] at h
      rw [List.getD_eq_getElem?_getD, List.getElem?_eq_getElem (by omega)]
      rw [Nat.zero_add]
      simpa using h
end Go.Proofs.Qxb6606027aDoor
