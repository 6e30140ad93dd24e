import Derived.Test.Qxb6605662aDoorR5
import Derived.Test.Qxb6605662aDoorShelf
import Derived.Laws.CopyOwn
import Derived.Deep.OwnRows
import Derived.Lib.AppendStr
import Derived.Lib.AppendZeros
namespace Go.Proofs.Qxb6605662aDoor
open Go.RowKit

theorem Tryd.info5 : (Tryd.prog.info? 5).map (fun i => (i.zero, i.size, i.bytes)) = some (some (.int .u8 0), 1, 1) := by kernel_rfl
theorem Tryd.size5 : (Tryd.prog.info? 5).map (·.size) = some 1 := by kernel_rfl

theorem clone_nil (w : World) :
    Calls Tryd.prog 7 #[.slice none 0 0] w fun e w' => e = .returned (.slice none 0 0) ∧ w' = w := by
  have q22 : ∀ (w : World) (a : Option Addr) (n c n' c' : Nat), (binOp .eql 22 (.slice a n c) (.slice none n' c')).run Tryd.prog w = .ok (.bool a.isNone) w := fun w a n c n' c' => Lib.run_eql_slice_nil w _ _ a n c n' c' Tryd.underlying22
  go_enter Tryd.func7, Tryd.ntmps7
  go_wp2
  go_ret
  exact ⟨rfl, rfl⟩

set_option maxHeartbeats 400000 in
theorem clone_some (a : Addr) (n c : Nat) (xs : List Int) (w : World) (hn : n ≤ 1048576) (hx : xs.length = n) (hc : ∀ i, i < n → w.cell? (a.add i) = some (.int .u8 (xs.getD i 0))) :
    Calls Tryd.prog 7 #[.slice (some a) n c] w fun e w' => e = .returned (.slice (some ⟨w.heap.size, 0, none⟩) n n) ∧ w'.ownsRow w.heap.size 5 1 (.slice (some ⟨w.heap.size, 0, none⟩) n n) n (xs.map (Value.int .u8)) ∧ Below w.heap.size w w' := by
  have q22 : ∀ (w : World) (a : Option Addr) (n c n' c' : Nat), (binOp .eql 22 (.slice a n c) (.slice none n' c')).run Tryd.prog w = .ok (.bool a.isNone) w := fun w a n c n' c' => Lib.run_eql_slice_nil w _ _ a n c n' c' Tryd.underlying22
  obtain ⟨i5, hi, hz0, hz1, hz2⟩ := info_parts Tryd.info5
  have HS : Hid (∀ j v, (xs.map (Value.int .u8))[j]? = some v → (w.alloc (.cells (madeCells #[.int .u8 0] n) 5)).cell? (a.add j) = some v) := by
    intro j v hj
    have hjn : j < n := by
      have := (List.getElem?_eq_some_iff.1 hj).1
      simp at this; omega
    have h := hc j hjn
    rw [List.getElem?_map, List.getElem?_eq_getElem (by omega)] at hj
    rw [List.getD_eq_getElem?_getD, List.getElem?_eq_getElem (by omega)] at h
    simp at hj h
    rw [← hj, ← h]
    exact ((Below.refl w.heap.size w).alloc (Nat.le_refl _) _).cell (World.block_lt_of_cell? _ _ h)
  obtain ⟨W2, hrun, HO, HB⟩ : ∃ W2, (Builtin.copy_ #[22, 22] 3 #[.slice (some ⟨w.heap.size, 0, none⟩) n n, .slice (some a) n c]).run Tryd.prog (w.alloc (.cells (madeCells #[.int .u8 0] n) 5)) = .ok (goInt n) W2 ∧
      Hid (W2.ownsRow w.heap.size 5 1 (.slice (some ⟨w.heap.size, 0, none⟩) n n) n (xs.map (Value.int .u8))) ∧ Hid (Below w.heap.size w W2) := by
    have hl : (xs.map (Value.int .u8)).length = n := by rw [List.length_map, hx]
    have hr := run_copy_row (P := Tryd.prog) (w.alloc (.cells (madeCells #[.int .u8 0] n) 5)) 22 22 3 5 w.heap.size 0 n n a n c (madeCells #[.int .u8 0] n) 5 (xs.map (Value.int .u8)) Tryd.underlying22 Tryd.size5 (heap_alloc_new w _) (by rw [hl]; simp) HS.out (by rw [hl, size_madeCells]; omega) (by intro v hv; simp only [List.mem_map] at hv; obtain ⟨z, _, rfl⟩ := hv; rfl)
    rw [hl] at hr
    refine ⟨_, hr, ⟨by rw [hl]; omega, .inr ⟨w.heap.size, n, _, rfl, Nat.le_refl _, setRow_heap _ _ _ _ 5 _ (heap_alloc_new w _), Nat.le_refl _, by unfold maxLen; omega, ?_, ?_⟩⟩, ?_⟩
    · simp [hl, size_madeCells]
    · simp [hx]
    · exact ((Below.refl w.heap.size w).alloc (Nat.le_refl _) _).grown (row := some w.heap.size) ⟨rfl, rfl, rfl, by simp, fun k _ hk => setRow_other _ _ k _ (fun e => hk (by simp [e]))⟩ (by simp) (by intro k hk; cases hk; exact Nat.le_refl _)
  clear hc hx HS
  go_enter Tryd.func7, Tryd.ntmps7
  go_wp2_with (refine wpList_make_row _ rfl (.tmp 7) (.tmp 7) 22 rfl 5 i5 (.int .u8 0) Tryd.underlying22 hi hz0 hz1 rfl .i64 .i64 n rfl rfl (by rw [hz2]; omega) (by omega) ?_)
  go_ret
  exact ⟨rfl, HO.out, HB.out⟩

/-! ### zzDecLen -/
theorem ret_int {k : IntKind} {a b : Int} (h : a = b) : Ending.returned (.int k a) = .returned (.int k b) := by rw [h]
theorem pow10_le {k m : Nat} (h : k ≤ m) : (10 : Int) ^ k ≤ 10 ^ m := by exact_mod_cast Nat.pow_le_pow_right (n := 10) (by omega) h
theorem nDigits_of {v k : Nat} (h1 : k = 0 ∨ 10 ^ k ≤ v) (h2 : v < 10 ^ (k + 1)) : Lib.nDigits v = k + 1 := by
  rcases h1 with rfl | h1
  · exact Lib.nDigits_small (by simpa using h2)
  · exact Lib.nDigits_unique k v h1 h2
theorem nDigits_le : ∀ (k u : Nat), u < 10 ^ (k + 1) → Lib.nDigits u ≤ k + 1
  | 0, u, h => by rw [Lib.nDigits_small (by simpa using h)]; exact Nat.le_refl _
  | k + 1, u, h => by
    by_cases hu : u < 10
    · rw [Lib.nDigits_small hu]; omega
    · rw [Nat.pow_succ] at h
      have := nDigits_le k (u / 10) (by omega)
      rw [Lib.nDigits_big hu]; omega
set_option maxHeartbeats 1000000 in
theorem decLen_any (v : Nat) (w : World) (hv : v < 18446744073709551616) :
    Calls Tryd.prog 20 #[.int .u64 v] w fun e w' => e = .returned (.int .i64 (Lib.nDigits v)) ∧ w' = w := by
  go_enter Tryd.func20, Tryd.ntmps20
  go_wp2
  go_loop [3, 4] (fun n p => ∃ (k : Nat) (P : Int), k ≤ 19 ∧ n = .int .i64 ((k : Int) + 1) ∧ p = .int .u64 P ∧ Hid (k ≤ 18 → P = 10 ^ (k + 1)) ∧ Hid (k = 0 ∨ 10 ^ k ≤ v) ∧ 0 ≤ P ∧ P ≤ 18446744073709551615) (fun n _ => 20 - (intOf n).toNat)
  case atStart => exact ⟨0, 10, by omega, rfl, rfl, fun _ => rfl, .inl rfl, by omega, by omega⟩
  case round =>
    obtain ⟨k, P, hk, rfl, rfl, HP, HK, hP0, hP1⟩ := hrel
    by_cases hk19 : k = 19
    · subst hk19
      have HF : Hid (Lib.nDigits v = 20) := nDigits_of HK.out (by
        have : (10 : Nat) ^ (19 + 1) = 100000000000000000000 := by decide
        omega)
      go_wp2
      go_ret
      exact ⟨ret_int (by rw [HF.out]; rfl), rfl⟩
    · by_cases hge : P ≤ (v : Int)
      · have HK2 : Hid (k + 1 = 0 ∨ 10 ^ (k + 1) ≤ v) := .inr (by have h := HP.out (by omega); rw [h] at hge; exact_mod_cast hge)
        by_cases hk18 : k = 18
        · subst hk18
          have hPe := HP.out (by omega)
          have hP10 : Hid (P = 10000000000000000000) := by show _ = _; rw [hPe]; decide
          clear hPe
          have hwr : ∃ Q, IntKind.u64.wrap (P * 10) = Q ∧ 0 ≤ Q ∧ Q ≤ 18446744073709551615 := ⟨_, rfl, by rw [IntKind.wrap_u64]; omega, by rw [IntKind.wrap_u64]; omega⟩
          obtain ⟨Q, hQ, hQ0, hQ1⟩ := hwr
          go_wp2
          go_round
          case rel => exact ⟨19, Q, by omega, by go_num, rfl, fun h => absurd h (by omega), HK2, hQ0, hQ1⟩
          case measure => simp [intOf]
        · have HPN : Hid (P * 10 = 10 ^ (k + 2)) := by show _ = _; rw [HP.out (by omega)]; exact (Int.pow_succ 10 (k + 1)).symm
          have hPb : P * 10 ≤ 18446744073709551615 := by
            rw [HPN.out]
            have h := pow10_le (k := k + 2) (m := 19) (by omega)
            have h19 : (10 : Int) ^ 19 = 10000000000000000000 := by decide
            omega
          have hk2 : (k : Int) + 1 < 20 := by omega
          go_wp2
          go_round
          case rel => exact ⟨k + 1, P * 10, by omega, by go_num, rfl, fun _ => HPN.out, HK2, by omega, hPb⟩
          case measure => simp [intOf]; omega
      · have HF : Hid (Lib.nDigits v = k + 1) := nDigits_of HK.out (by have h := HP.out (by omega); rw [h] at hge; exact_mod_cast Int.not_le.1 hge)
        have hk2 : (k : Int) + 1 < 20 := by omega
        go_wp2
        go_ret
        exact ⟨ret_int (by rw [HF.out]; omega), rfl⟩

/-! ### AppendHeld -/
def powName : String := (Rows.fnAppendHeldReadBackByJsonfastRow.laid.getD 2 ("", .nil)).1
def preB : ByteArray := ⟨#[123, 34, 105, 100, 34, 58]⟩
def postB : ByteArray := ⟨#[44, 34, 104, 101, 108, 100, 34, 58, 116, 114, 117, 101, 125, 10]⟩
/-- an append that must grow: a new row; nothing old has turned -/
theorem append_fresh (g n : Nat) (xs : List Value) (w : World) (ty : TypeId) (s : ByteArray) (hl : xs.length = n) (hc : ∀ j u, xs[j]? = some u → w.cell? ((⟨g, 0, none⟩ : Addr).add j) = some u) (hs : 0 < s.size) (hn : n + s.size ≤ 2147483648) :
    ∃ v' w', (Builtin.append_ #[22, 9] ty #[.slice (some ⟨g, 0, none⟩) n n, .string s]).run Tryd.prog w = .ok v' w' ∧ w'.ownsRow w.heap.size 5 1 v' (n + s.size) (xs ++ Lib.strCells s) ∧ Below w.heap.size w w' := by
  obtain ⟨i5, hi, hz0, hz1, hz2⟩ := info_parts Tryd.info5
  have hr := Lib.run_append_grow_string (P := Tryd.prog) w 22 9 ty 5 i5 (.int .u8 0) Tryd.underlying22 Tryd.underlying9 hi hz0 ⟨g, 0, none⟩ n n xs (by rw [hl, hz1]; omega) hc s (by omega) (by omega) (by rw [hz2]; exact growslice_fits (by omega) (by omega))
  have hge := grownCap_ge w (n + s.size) n 5
  have hcm : grownCap w (n + s.size) n 5 ≤ maxLen := grownCap_le_maxLen w (n + s.size) n 5 (by unfold maxLen; omega)
  have hlen : (xs ++ Lib.strCells s).length = (n + s.size) * 1 := by rw [List.length_append, hl, Lib.strCells_length, Nat.mul_one]
  refine ⟨_, _, hr, ⟨hlen, .inr ⟨w.heap.size, _, _, rfl, Nat.le_refl _, heap_alloc_new w.drew _, hge, hcm, ?_, ?_⟩⟩, (Below.refl _ _).drew.alloc (Nat.le_refl _) _⟩
  · have hz1 : (Value.int IntKind.u8 0).cells.size = 1 := rfl
    simp only [Array.size_append, List.size_toArray, size_zeroCells, hz1, hl, Lib.strCells_length]
    omega
  · simp only [Array.toList_append, List.append_assoc]
    rw [← List.append_assoc, ← hlen]
    exact List.take_left

/-- the tail of AppendHeld: the number and what follows it, onto a row of the call's own -/
def HeldOut (B n u : Nat) (xs : List Value) (w : World) (e : Ending) (w' : World) : Prop :=
  ∃ v', e = .returned v' ∧ w'.ownsRow B 5 1 v' (n + 6 + Lib.nDigits u + 14) (xs ++ Lib.strCells preB ++ Lib.byteCells (Lib.decDigits u) ++ Lib.strCells postB) ∧ Below B w w'

set_option maxHeartbeats 1000000 in
theorem held_any (sv : Value) (n u : Nat) (xs : List Value) (w : World) (hu : u < 18446744073709551616) (hn : n ≤ 1048576)
    (happ : ∃ v1 w1, (Builtin.append_ #[22, 9] 22 #[sv, .string preB]).run Tryd.prog w = .ok v1 w1 ∧ w1.ownsRow w.heap.size 5 1 v1 (n + 6) (xs ++ Lib.strCells preB) ∧ Below w.heap.size w w1)
    (htab : ∀ w1, Below w.heap.size w w1 → Lib.TabIs Tryd.prog w1 powName .u64 Lib.pow10Tab) :
    Calls Tryd.prog 19 #[sv, .int .u64 u] w fun e w' => HeldOut w.heap.size n u xs w e w' := by
  obtain ⟨v1, w1, hr1, ho1, hb1⟩ := happ
  obtain ⟨i5, hi, hz0, hz1, hz2⟩ := info_parts Tryd.info5
  have hcon := Any.internal_strconv_AppendUint_10 Tryd.laysU w.heap.size (n + 6) u hu v1 (xs ++ Lib.strCells preB) w1 ho1 hb1.size (by omega) (htab w1 hb1)
  have HCON : Hid (Calls Tryd.prog 45 #[v1, .int .u64 u, .int .i64 10] w1 fun e w' => ∃ v', e = .returned v' ∧ w'.ownsRow w.heap.size 5 1 v' (n + 6 + (Lib.decDigits u).length) (xs ++ Lib.strCells preB ++ Lib.byteCells (Lib.decDigits u)) ∧ Below w.heap.size w1 w' ∧ Lib.OthersKept 5 none w1 w') := hcon
  have HB1 : Hid (Below w.heap.size w w1) := hb1
  have HL : Hid ((Lib.decDigits u).length = Lib.nDigits u) := Lib.decDigits_length u
  have hl20 : (Lib.decDigits u).length ≤ 20 := by
    rw [HL.out]
    refine nDigits_le 19 u ?_
    have : (10 : Nat) ^ (19 + 1) = 100000000000000000000 := by decide
    omega
  have HPS : Hid (postB.size = 14) := rfl
  clear hcon htab ho1 hb1
  go_enter Tryd.func19, Tryd.ntmps19
  go_wp2_with (first
    | (at_builtin; refine Lib.wpList_append_run _ rfl (.tmp 5) (.const (.string preB)) 22 9 rfl sv (.string preB) rfl rfl v1 w1 hr1 ?_)
    | (go_at_call 45; refine HCON.out.mono ?_; rintro e w2 ⟨v2, rfl, ho2, hb2, _⟩; have HO2 : Hid (w2.ownsRow w.heap.size 5 1 v2 (n + 6 + (Lib.decDigits u).length) (xs ++ Lib.strCells preB ++ Lib.byteCells (Lib.decDigits u))) := ho2; have HB2 : Hid (Below w.heap.size w1 w2) := hb2; clear ho2 hb2)
    | (at_builtin; refine Lib.wpList_append_own_string _ rfl (.tmp 8) (.const (.string postB)) 22 9 rfl w.heap.size 5 i5 Tryd.underlying22 Tryd.underlying9 hi hz0 hz1 hz2 v2 _ _ rfl HO2.out postB rfl (by rw [HPS.out]; unfold maxLen; omega) (by rw [HPS.out]; omega) (Nat.le_trans HB1.out.size HB2.out.size) ?_; intro v3 w3 ho3 hg3 _)
    | go_in)
  go_ret
  rw [HL.out, HPS.out] at ho3
  exact ⟨v3, rfl, ho3, (HB1.out.trans HB2.out).grown hg3 (Nat.le_trans HB1.out.size HB2.out.size) (fun k hk => (HO2.out.lt k hk).1)⟩
end Go.Proofs.Qxb6605662aDoor
