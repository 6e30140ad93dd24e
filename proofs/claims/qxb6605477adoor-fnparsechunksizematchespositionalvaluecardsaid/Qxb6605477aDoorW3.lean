import Derived.Test.Qxb6605477aDoorW2
import Derived.Test.Qxb6605477aDoorShelf
import Derived.Lib.SlBytesConst
namespace Go.Proofs.Qxb6605477aDoor
open Go.RowKit
theorem hv_09 (y : Int) (h1 : 48 ≤ y) (h2 : y ≤ 57) : hv y = y - 48 := by unfold hv; rw [if_pos ⟨h1, h2⟩]
theorem hv_af (y : Int) (h1 : 97 ≤ y) (h2 : y ≤ 102) : hv y = y - 97 + 10 := by unfold hv; rw [if_neg (by omega), if_pos ⟨h1, h2⟩]; omega
theorem hv_AF (y : Int) (h1 : 65 ≤ y) (h2 : y ≤ 70) : hv y = y - 65 + 10 := by unfold hv; rw [if_neg (by omega), if_neg (by omega), if_pos ⟨h1, h2⟩]; omega
theorem hv_out (y : Int) (h1 : y < 48 ∨ 57 < y) (h2 : y < 97 ∨ 102 < y) (h3 : y < 65 ∨ 70 < y) : hv y = -1 := by unfold hv; rw [if_neg (by omega), if_neg (by omega), if_neg (by omega)]
theorem hv_in (y : Int) (h : (48 ≤ y ∧ y ≤ 57) ∨ (97 ≤ y ∧ y ≤ 102) ∨ (65 ≤ y ∧ y ≤ 70)) : 0 ≤ hv y ∧ hv y ≤ 15 := by
  rcases h with ⟨h1, h2⟩ | ⟨h1, h2⟩ | ⟨h1, h2⟩
  · rw [hv_09 y h1 h2]; omega
  · rw [hv_af y h1 h2]; omega
  · rw [hv_AF y h1 h2]; omega

set_option maxHeartbeats 2000000 in
theorem parse_of (a : Addr) (n c E T : Nat) (v1 v2 : Value) (xs : List Int) (w : World) (hn : n ≤ 1048576) (hEn : E ≤ n) (hTE : T ≤ E)
    (hc : ∀ i, i < n → w.cell? (a.add i) = some (.int .u8 (xs.getD i 0)))
    (hcut : Calls Tryd.prog 14 #[.slice (some a) n c, .slice (some ⟨w.heap.size, 0, none⟩) 1 1] (w.alloc (.cells #[.int .u8 59] 5 (1, 2))) fun e w' => e = .returned (.tuple #[.slice (some a) E c, v1, v2]) ∧ Below w.heap.size w w')
    (htrim : ∀ w1, Below w.heap.size w w1 → Calls Tryd.prog 15 #[.slice (some a) E c, .string ⟨#[32, 9]⟩] w1 fun e w' => e = .returned (.slice (some a) T c) ∧ Below w.heap.size w w') :
    Calls Tryd.prog 13 #[.slice (some a) n c] w fun e w' => AnsE xs T e ∧ Below w.heap.size w w' := by
  have kc := fun (w : World) (C : Array Value) (n c : Nat) => Lib.run_convert_bytes_const (P := Tryd.prog) w 22 5 C n c Tryd.underlying22 Tryd.underlying5
  have HC : Hid (∀ i, i < n → w.cell? (a.add i) = some (.int .u8 (xs.getD i 0))) := hc
  have HT : Hid (∀ w1, Below w.heap.size w w1 → Calls Tryd.prog 15 #[.slice (some a) E c, .string ⟨#[32, 9]⟩] w1 fun e w' => e = .returned (.slice (some a) T c) ∧ Below w.heap.size w w') := htrim
  have HCUT : Hid (Calls Tryd.prog 14 #[.slice (some a) n c, .slice (some ⟨w.heap.size, 0, none⟩) 1 1] (w.alloc (.cells #[.int .u8 59] 5 (1, 2))) fun e w' => e = .returned (.tuple #[.slice (some a) E c, v1, v2]) ∧ Below w.heap.size w w') := hcut
  clear hc htrim hcut
  go_enter Tryd.func13, Tryd.ntmps13
  go_wp2_with fail
  refine HCUT.out.mono ?_
  rintro e w1 ⟨rfl, hb1⟩
  go_wp2_with fail
  refine (HT.out _ hb1).mono ?_
  rintro e w2 ⟨rfl, hb2⟩
  by_cases hT0 : T = 0
  · subst hT0
    go_wp2_with fail
    go_ret2
    exact ⟨AnsE.mk (Ans.empty xs), hb2⟩
  · have hT0' : ((T : Int) == 0) = false := beq_eq_false_iff_ne.2 (by omega)
    go_wp2_with fail
    go_loop [7, 26] (fun s i => ∃ (k : Nat) (S : Int), k ≤ T ∧ i = .int .i64 k ∧ s = .int .i64 S ∧ Hid (S = vl xs 0 k ∧ AllHex xs k) ∧ 0 ≤ S ∧ S < 9223372036854775808) (fun _ i => T - (intOf i).toNat)
    case atStart => exact ⟨0, 0, by omega, rfl, rfl, ⟨rfl, fun i h => absurd h (by omega)⟩, by omega, by omega⟩
    case round =>
      obtain ⟨k, S, hk, rfl, rfl, HS, hS0, hS1⟩ := hrel
      by_cases hkT : k < T
      · obtain ⟨y, HY⟩ : ∃ y, Hid (xs.getD k 0 = y) := ⟨_, rfl⟩
        have hck := HC.out k (by omega)
        rw [HY.out] at hck
        have hck2 : w2.cell? (a.add k) = some (.int .u8 y) := (hb2.cell (World.block_lt_of_cell? _ _ hck)).trans hck
        have hkT' : (k : Int) < T := by omega
        go_wp2_with fail
        all_goals first
          | (have hov : 576460752303423487 < S := by assumption
             go_ret2
             exact ⟨AnsE.mk (Ans.over hkT (by rw [← HS.out.1]; exact hov)), hb2⟩)
          | (have hneg : hv y = -1 := hv_out y (by omega) (by omega) (by omega)
             go_ret2
             exact ⟨AnsE.mk (Ans.bad hkT (by rw [HY.out, hneg]; omega)), hb2⟩)
          | (have hle : S ≤ 576460752303423487 := by assumption
             have hd : 0 ≤ hv y ∧ hv y ≤ 15 := hv_in y (by omega)
             go_round
             case rel =>
               refine ⟨k + 1, 16 * S + hv y, by omega, by go_num, ?_, ⟨?_, ?_⟩, by omega, by omega⟩
               · first
                   | rw [← hv_09 y (by omega) (by omega), or_low S (hv y) hS0 hle hd.1 hd.2]
                   | rw [← hv_af y (by omega) (by omega), or_low S (hv y) hS0 hle hd.1 hd.2]
                   | rw [← hv_AF y (by omega) (by omega), or_low S (hv y) hS0 hle hd.1 hd.2]
               · rw [vl, ← HS.out.1, Nat.zero_add, HY.out]
               · exact HS.out.2.next (by rw [HY.out]; exact hd.1)
             case measure => simp [intOf]; omega)
      · have : k = T := by omega
        subst this
        go_wp2_with fail
        go_ret2
        refine ⟨AnsE.mk (r := S) (b := true) ?_, hb2⟩
        have h1 := Ans.good (xs := xs) (T := k) (by omega) HS.out.2 (by rw [← HS.out.1]; exact hS1)
        rw [← HS.out.1] at h1
        exact h1

theorem exists_cut (xs : List Int) : ∃ E, IsCut xs E := by
  have h : ∀ m, m ≤ xs.length → (∃ E, E ≤ m ∧ IsCut xs E) ∨ (∀ i, i < m → xs.getD i 0 ≠ 59) := by
    intro m
    induction m with
    | zero => intro _; exact .inr (fun i h => absurd h (by omega))
    | succ m ih =>
      intro hm
      rcases ih (by omega) with ⟨E, hE, h⟩ | h
      · exact .inl ⟨E, by omega, h⟩
      · by_cases e : xs.getD m 0 = 59
        · exact .inl ⟨m, by omega, by omega, h, fun _ => e⟩
        · refine .inr fun i hi => ?_
          by_cases e2 : i = m
          · rw [e2]; exact e
          · exact h i (by omega)
  rcases h xs.length (Nat.le_refl _) with ⟨E, _, h⟩ | h
  · exact ⟨E, h⟩
  · exact ⟨xs.length, Nat.le_refl _, h, fun h => absurd h (by omega)⟩
theorem exists_trim (xs : List Int) (E : Nat) : ∃ T, IsTrim xs E T := by
  induction E with
  | zero => exact ⟨0, Nat.le_refl _, fun i _ h => absurd h (by omega), fun h => absurd h (by omega)⟩
  | succ E ih =>
    by_cases e : xs.getD E 0 = 32 ∨ xs.getD E 0 = 9
    · obtain ⟨T, h1, h2, h3⟩ := ih
      refine ⟨T, by omega, fun i hi hi2 => ?_, h3⟩
      by_cases e2 : i = E
      · rw [e2]; exact e
      · exact h2 i hi (by omega)
    · exact ⟨E + 1, Nat.le_refl _, fun i h1 h2 => absurd h2 (by omega), fun _ => by simp only [Nat.add_sub_cancel]; omega⟩

theorem bytes_at (xs : List Int) (i : Nat) (hi : i < xs.length) : (Lib.bytesOf xs)[i]? = some (UInt8.ofNat (xs.getD i 0).toNat) := by
  simp [Lib.bytesOf, hi]
theorem byte_eq (x : Int) (h0 : 0 ≤ x) (h1 : x < 256) (c : Nat) (hc : c < 256) : UInt8.ofNat x.toNat = UInt8.ofNat c ↔ x = c := by
  constructor
  · intro h
    have := congrArg UInt8.toNat h
    simp at this
    omega
  · rintro rfl
    simp
theorem getD_range (xs : List Int) (hr : ∀ x ∈ xs, 0 ≤ x ∧ x < 256) (i : Nat) (hi : i < xs.length) : 0 ≤ xs.getD i 0 ∧ xs.getD i 0 < 256 := by
  rw [List.getD_eq_getElem?_getD, List.getElem?_eq_getElem hi]
  exact hr _ (List.getElem_mem hi)

theorem index_cut {xs : List Int} {E : Nat} (hr : ∀ x ∈ xs, 0 ≤ x ∧ x < 256) (h : IsCut xs E) : Lib.indexByte (Lib.bytesOf xs) 59 = if E < xs.length then (E : Int) else -1 := by
  obtain ⟨h1, h2, h3⟩ := h
  have hge := Lib.indexByte_ge (Lib.bytesOf xs) 59
  have hl := Lib.bytesOf_length xs
  by_cases hi : Lib.indexByte (Lib.bytesOf xs) 59 = -1
  · have hn := Lib.indexByte_none hi
    rw [hi, if_neg]
    intro hE
    apply hn E
    rw [bytes_at xs E hE, h3 hE]
    rfl
  · obtain ⟨o, ho⟩ : ∃ o : Nat, Lib.indexByte (Lib.bytesOf xs) 59 = o := ⟨(Lib.indexByte (Lib.bytesOf xs) 59).toNat, by omega⟩
    obtain ⟨ha, hb⟩ := Lib.indexByte_some ho
    have hol : o < xs.length := by
      have := (List.getElem?_eq_some_iff.1 ha).1
      omega
    have hxo : xs.getD o 0 = 59 := by
      rw [bytes_at xs o hol] at ha
      have hg := getD_range xs hr o hol
      exact (byte_eq _ hg.1 hg.2 59 (by omega)).1 (Option.some.inj ha)
    have hoE : E ≤ o := by
      rcases Nat.lt_or_ge o E with h | h
      · exact absurd hxo (h2 o h)
      · exact h
    have hEl : E < xs.length := by omega
    have hEo : E = o := by
      rcases Nat.lt_or_ge E o with h | h
      · have := hb E h
        rw [bytes_at xs E hEl, h3 hEl] at this
        exact absurd rfl this
      · omega
    rw [ho, if_pos hEl, hEo]

theorem trim_len {xs : List Int} {E T : Nat} (hE : E ≤ xs.length) (hr : ∀ x ∈ xs, 0 ≤ x ∧ x < 256) (h : IsTrim xs E T) : (Lib.trimRightS (Lib.bytesOf (xs.take E)) [32, 9]).length = T := by
  obtain ⟨h1, h2, h3⟩ := h
  have hl : (Lib.bytesOf (xs.take E)).length = E := by rw [Lib.bytesOf_length]; simp; omega
  have hat : ∀ i, i < E → (Lib.bytesOf (xs.take E))[i]? = some (UInt8.ofNat (xs.getD i 0).toNat) := by
    intro i hi
    rw [bytes_at _ i (by simp; omega)]
    simp [hi]
  rw [Lib.trimRightS_take _ _ T (by omega) ?_ ?_]
  · simp; omega
  · intro j b hj hb
    have hjE : j < E := by have := (List.getElem?_eq_some_iff.1 hb).1; omega
    rw [hat j hjE] at hb
    obtain rfl := Option.some.inj hb
    rcases h2 j hj hjE with e | e <;> rw [e] <;> decide
  · intro b hT hb
    rw [hat (T - 1) (by omega)] at hb
    obtain rfl := Option.some.inj hb
    have hg := getD_range xs hr (T - 1) (by omega)
    obtain ⟨e1, e2⟩ := h3 hT
    have n1 : ¬ UInt8.ofNat (xs.getD (T - 1) 0).toNat = 32 := fun h => e1 ((byte_eq _ hg.1 hg.2 32 (by omega)).1 h)
    have n2 : ¬ UInt8.ofNat (xs.getD (T - 1) 0).toNat = 9 := fun h => e2 ((byte_eq _ hg.1 hg.2 9 (by omega)).1 h)
    simpa using And.intro n1 n2

theorem blanks_ascii : ∀ (j : Nat) b, (⟨#[32, 9]⟩ : ByteArray).data.toList[j]? = some b → b.toNat < 128 := by
  intro j b h
  match j, h with
  | 0, h => simp at h; subst h; decide
  | 1, h => simp at h; subst h; decide
  | j + 2, h => simp at h
theorem parse_any (a : Addr) (n c E T : Nat) (xs : List Int) (w : World) (hn : n ≤ 1048576) (hnc : n ≤ c) (hcb : c ≤ 1048576) (hx : xs.length = n) (hr : ∀ x ∈ xs, 0 ≤ x ∧ x < 256)
    (hE : IsCut xs E) (hT : IsTrim xs E T)
    (hc : ∀ i, i < n → w.cell? (a.add i) = some (.int .u8 (xs.getD i 0))) :
    Calls Tryd.prog 13 #[.slice (some a) n c] w fun e w' => AnsE xs T e ∧ Below w.heap.size w w' := by
  have hi := index_cut hr hE
  have hEn : E ≤ n := by rw [← hx]; exact hE.1
  obtain ⟨v1, v2, hv⟩ : ∃ v1 v2, Lib.cutV (some a) n c 1 (Lib.indexByte (Lib.bytesOf xs) 59) = .tuple #[.slice (some a) E c, v1, v2] := by
    rw [hi]
    unfold Lib.cutV
    by_cases h : E < xs.length
    · rw [if_pos h, if_pos (by omega)]
      exact ⟨_, _, rfl⟩
    · rw [if_neg h, if_neg (by omega)]
      have : n = E := by omega
      rw [this]
      exact ⟨_, _, rfl⟩
  have hcell : ∀ w1, Below w.heap.size w w1 → ∀ i, i < n → w1.cell? (a.add i) = some (.int .u8 (xs.getD i 0)) := fun w1 hb i hi => (hb.cell (World.block_lt_of_cell? _ _ (hc i hi))).trans (hc i hi)
  have hb1 : Below w.heap.size w (w.alloc (.cells #[.int .u8 59] 5 (1, 2))) := (Below.refl _ w).alloc (Nat.le_refl _) _
  refine parse_of a n c E T v1 v2 xs w hn hEn hT.1 hc ?_ ?_
  · have hidx := Any.bytes_Index_one_at Tryd.laysCut.index a n c w.heap.size 0 1 xs 59 (w.alloc (.cells #[.int .u8 59] 5 (1, 2))) hx (hcell _ hb1) (by simpa using World.cell?_alloc_mark w #[.int .u8 59] 5 (1, 2) 0)
    have hcut := Any.bytes_Cut_of Tryd.laysCut (some a) (some ⟨w.heap.size, 0, none⟩) n c 1 1 (Lib.indexByte (Lib.bytesOf xs) 59) (w.alloc (.cells #[.int .u8 59] 5 (1, 2))) hnc (Lib.indexByte_ge _ _) (by intro h0; rw [hi] at h0 ⊢; by_cases h : E < xs.length <;> simp [h] at h0 ⊢; omega) (by omega)
      (hidx.mono fun e w' ⟨he, hw⟩ => ⟨he, 0, hw⟩)
    rw [hv] at hcut
    exact hcut.mono fun e w' ⟨he, q, hw⟩ => ⟨he, by rw [hw]; exact below_drewN hb1 q⟩
  · intro w1 hb
    have ht := Any.bytes_TrimRight_laid Tryd.laysTrim (by kernel_rfl) (some a) E c (xs.take E) ⟨#[32, 9]⟩ w1 (by simp; omega) (by omega) (by omega) (Lib.BytesIn.of_cells (fun i hi => by rw [hcell w1 hb i (by omega)]; simp [hi])) (fun x hx' => hr x (List.mem_of_mem_take hx')) (by decide) blanks_ascii
    change Calls Tryd.prog 15 _ _ (fun e w' => e = .returned (.slice (some a) (Lib.trimRightS (Lib.bytesOf (xs.take E)) [32, 9]).length c) ∧ Below w1.heap.size w1 w') at ht
    rw [trim_len hE.1 hr hT] at ht
    exact ht.mono fun e w' ⟨he, hb'⟩ => ⟨he, hb.trans (hb'.mono hb.size)⟩

set_option maxHeartbeats 400000 in
theorem model_nil (w : World) : Calls Tryd.prog 7 #[.slice none 0 0] w fun e w' => e = .returned (.tuple #[.int .i64 0, .bool false]) ∧ w' = w := by
  go_enter Tryd.func7, Tryd.ntmps7
  go_wp2
  refine wp_loop_rounds 1 ?_
  rw [rounds_succ]
  go_wp2
  refine wp_loop_rounds 1 ?_
  rw [rounds_succ]
  go_wp2
  go_ret2
  exact ⟨rfl, rfl⟩

set_option maxHeartbeats 400000 in
theorem parse_nil (w : World) : Calls Tryd.prog 13 #[.slice none 0 0] w fun e w' => e = .returned (.tuple #[.int .i64 0, .bool false]) ∧ Below w.heap.size w w' := by
  have kc := fun (w : World) (C : Array Value) (n c : Nat) => Lib.run_convert_bytes_const (P := Tryd.prog) w 22 5 C n c Tryd.underlying22 Tryd.underlying5
  have hb1 : Below w.heap.size w (w.alloc (.cells #[.int .u8 59] 5 (1, 2))) := (Below.refl _ w).alloc (Nat.le_refl _) _
  have hidx := Any.bytes_Index_one_nil Tryd.laysCut.index w.heap.size 0 1 59 (w.alloc (.cells #[.int .u8 59] 5 (1, 2))) (by simpa using World.cell?_alloc_mark w #[.int .u8 59] 5 (1, 2) 0)
  have hcut := Any.bytes_Cut_of Tryd.laysCut none (some ⟨w.heap.size, 0, none⟩) 0 0 1 1 (-1) (w.alloc (.cells #[.int .u8 59] 5 (1, 2))) (by omega) (by omega) (by omega) (by omega)
    (hidx.mono fun e w' ⟨he, hw⟩ => ⟨he, 0, hw⟩)
  change Calls Tryd.prog 14 _ _ (fun e w' => e = .returned (.tuple #[.slice none 0 0, .slice none 0 0, .bool false]) ∧ ∃ q, w' = (w.alloc (.cells #[.int .u8 59] 5 (1, 2))).drewN q) at hcut
  have htrim : ∀ w1, Calls Tryd.prog 15 #[.slice none 0 0, .string ⟨#[32, 9]⟩] w1 fun e w' => e = .returned (.slice none 0 0) ∧ Below w1.heap.size w1 w' := fun w1 =>
    Any.bytes_TrimRight_laid Tryd.laysTrim (by kernel_rfl) none 0 0 [] ⟨#[32, 9]⟩ w1 rfl (by omega) (by omega) (Lib.BytesIn.nil _ _ _) (fun x hx' => absurd hx' (by simp)) (by decide) blanks_ascii
  have HB : Hid (Below w.heap.size w (w.alloc (.cells #[.int .u8 59] 5 (1, 2)))) := hb1
  clear hb1 hidx
  go_enter Tryd.func13, Tryd.ntmps13
  go_wp2_with fail
  refine hcut.mono ?_
  rintro e w1 ⟨rfl, q, hw1⟩
  have hb2 : Below w.heap.size w w1 := by rw [hw1]; exact below_drewN HB.out q
  clear hw1
  go_wp2_with fail
  refine (htrim _).mono ?_
  rintro e w2 ⟨rfl, hb3⟩
  have hb4 : Below w.heap.size w w2 := hb2.trans (hb3.mono hb2.size)
  go_wp2_with fail
  go_ret2
  exact ⟨rfl, hb4⟩
end Go.Proofs.Qxb6605477aDoor
