import Derived.Test.Qxb6605662aDoorE9
set_option linter.unusedVariables false
set_option linter.unusedSimpArgs false
namespace Go.Proofs.Qxb6605662aDoor
open Go.RowKit
set_option maxHeartbeats 1000000 in
theorem cloneU_zero (a : Addr) (c : Nat) (w : World) :
    Calls Tryd.prog 16 #[.slice (some a) 0 c] w fun e w' => e = .returned (.slice (some ⟨w.heap.size, 0, none⟩) 0 0) ∧ Below w.heap.size w w' := by
  have q26 : ∀ (w : World) (a : Option Addr) (n c n' c' : Nat), (binOp .eql 26 (.slice a n c) (.slice none n' c')).run Tryd.prog w = .ok (.bool a.isNone) w := fun w a n c n' c' => Lib.run_eql_slice_nil w _ _ a n c n' c' Tryd.underlying26
  obtain ⟨i25, hi, hz0, hz1, hz2⟩ := info_parts Tryd.info25
  go_enter Tryd.func16, Tryd.ntmps16
  go_wp2_with (refine wpList_make_row _ rfl (.tmp 8) (.tmp 8) 26 rfl 25 i25 (.int .u64 0) Tryd.underlying26 hi hz0 hz1 rfl .i64 .i64 0 rfl rfl (by rw [hz2]; omega) (by omega) ?_)
  go_rounds 1
  go_ret
  exact ⟨rfl, (Below.refl _ _).alloc (Nat.le_refl _) _⟩
/-- a list of numbers, wherever it lies -/
def NumsIn (w : World) (p : Option Addr) (n : Nat) (us : List Int) : Prop := 0 < n → ∃ b o, p = some ⟨b, o, none⟩ ∧ ∀ i, i < n → w.cell? ⟨b, o + i, none⟩ = some (.int .u64 (us.getD i 0))
theorem cloneU_any (p : Option Addr) (n c : Nat) (us : List Int) (w : World) (hn : n ≤ 32768) (hx : us.length = n) (hp : p = none → n = 0 ∧ c = 0) (hB : NumsIn w p n us) : ∀ w1, Below w.heap.size w w1 → Calls Tryd.prog 16 #[.slice p n c] w1 fun e w' => CuOut n us w1 e w' := by
  intro w1 hb
  cases p with
  | none =>
    obtain ⟨rfl, rfl⟩ := hp rfl
    exact (cloneU_nil w1).mono fun e w' ⟨he, hw⟩ => ⟨none, 0, he, fun i hi => by omega, by rw [hw]; exact Below.refl _ _⟩
  | some a =>
    by_cases h0 : n = 0
    · subst h0
      exact (cloneU_zero a c w1).mono fun e w' ⟨he, hw⟩ => ⟨_, 0, he, fun i hi => by omega, hw⟩
    · obtain ⟨b, o, e, hc⟩ := hB (by omega)
      obtain rfl := Option.some.inj e
      refine (cloneU_some b o n c us w1 hn hx (fun i hi => (hb.cell (p := ⟨b, o + i, none⟩) (World.block_lt_of_cell? w _ (hc i hi))).trans (hc i hi))).mono fun e w' ⟨he, hq, hbl, hsz⟩ => ⟨_, n, he, fun i hi => ⟨w1.heap.size, 0, rfl, hsz, by rw [Nat.zero_add]; exact hq i hi⟩, hbl⟩
/-- too long: the law lets it by -/
theorem rt_big (tx co ci : ByteArray) (st : Int) (lay : Int) (n c : Nat) (pu : Option Addr) (w : World) (h1 : tx.size ≤ 9223372036854775807) (h2 : co.size ≤ 9223372036854775807) (h3 : ci.size ≤ 9223372036854775807) (h4 : n ≤ 9223372036854775807)
    (hbig : 262144 < tx.size ∨ 262144 < co.size ∨ 262144 < ci.size ∨ 32768 < n) :
    Calls Tryd.prog 4 #[.string tx, .string co, .string ci, .int .u64 st, .slice pu n c, .int .u8 lay] w fun e w' => e = .returned (.bool true) ∧ Below w.heap.size w w' := by
  have hcase : (262144 : Int) < tx.size ∨ (¬ (262144 : Int) < tx.size ∧ (262144 : Int) < co.size) ∨ (¬ (262144 : Int) < tx.size ∧ ¬ (262144 : Int) < co.size ∧ (262144 : Int) < ci.size) ∨ (¬ (262144 : Int) < tx.size ∧ ¬ (262144 : Int) < co.size ∧ ¬ (262144 : Int) < ci.size ∧ (32768 : Int) < n) := by omega
  clear hbig
  rcases hcase with a1 | ⟨a1, a2⟩ | ⟨a1, a2, a3⟩ | ⟨a1, a2, a3, a4⟩
  all_goals
    go_enter Tryd.func4, Tryd.ntmps4
    go_wp2_with fail
    refine (bytes14_any tx co ci st pu n c lay w h1 h2 h3 h4).mono ?_
    rintro e w0 ⟨he, hw⟩; obtain rfl := hw.symm
    rcases he with rfl | rfl
    · go_wp2_with fail
      go_ret
      exact ⟨rfl, Below.refl _ _⟩
    · go_wp2_with fail
      go_ret
      exact ⟨rfl, Below.refl _ _⟩
theorem rt_every (tx co ci : ByteArray) (st lay : Int) (n c : Nat) (us : List Int) (pu : Option Addr) (w : World) (h1 : tx.size ≤ 9223372036854775807) (h2 : co.size ≤ 9223372036854775807) (h3 : ci.size ≤ 9223372036854775807) (h4 : n ≤ 9223372036854775807)
    (hst : 0 ≤ st ∧ st ≤ 18446744073709551615) (hlay : 0 ≤ lay ∧ lay < 256) (hx : us.length = n) (hp : pu = none → n = 0 ∧ c = 0) (hu : ∀ u ∈ us, 0 ≤ u ∧ u < 18446744073709551616) (hB : NumsIn w pu n us) (hT : Tabs w) :
    Calls Tryd.prog 4 #[.string tx, .string co, .string ci, .int .u64 st, .slice pu n c, .int .u8 lay] w fun e w' => e = .returned (.bool true) ∧ Below w.heap.size w w' := by
  by_cases hbig : 262144 < tx.size ∨ 262144 < co.size ∨ 262144 < ci.size ∨ 32768 < n
  · exact rt_big tx co ci st lay n c pu w h1 h2 h3 h4 hbig
  obtain ⟨s, rfl⟩ : ∃ s : Nat, st = s := ⟨st.toNat, by omega⟩
  obtain ⟨l, rfl⟩ : ∃ l : Nat, lay = l := ⟨lay.toNat, by omega⟩
  have hU : U64s us := fun i => by
    by_cases hi : i < us.length
    · rw [List.getD_eq_getElem?_getD, List.getElem?_eq_getElem hi]
      exact hu _ (List.getElem_mem hi)
    · rw [List.getD_eq_getElem?_getD, List.getElem?_eq_none (by omega)]
      exact ⟨Int.le_refl _, by decide⟩
  have hcl := cloneU_any pu n c us w (by omega) hx hp hB
  by_cases hb : l / 4 % 2 = 1
  · exact rt_law ⟨#[32, 10, 9, 13]⟩ tx co ci s l n c us pu w (by omega) (by omega) (by omega) (by omega) (by omega) hx (by omega) hU (.inl ⟨hb, rfl⟩) hT hcl
  · exact rt_law ⟨#[]⟩ tx co ci s l n c us pu w (by omega) (by omega) (by omega) (by omega) (by omega) hx (by omega) hU (.inr ⟨by omega, rfl⟩) hT hcl
end Go.Proofs.Qxb6605662aDoor
