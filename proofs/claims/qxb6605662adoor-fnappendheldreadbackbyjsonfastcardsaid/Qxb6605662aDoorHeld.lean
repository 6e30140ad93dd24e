import Derived.Test.Qxb6605662aDoorH3
import Derived.Test.Qxb6605662aDoorTie
import Derived.Test.Qxb6605662aDoorCards
import Derived.ProofKit
import Derived.OpenShut
import Derived.LaidMore
import Derived.Lay
import Derived.SevenTiedAt
import Derived.Stop.Joined
import Derived.Stop.LaidErr
import Derived.Lib.SlBytesRowKit
import Derived.Lib.AppendIntMem
namespace Go.Proofs.Qxb6605662aDoor
open Go.ChangeShapes Go.WideShapes Go.ChangeAt Go.RowKit

theorem own : ownKnob Tryd.prog.godebug = none := by kernel_rfl
theorem laidOut : laidOutB Tryd.prog = true := by kernel_rfl
theorem cells5 : Tryd.prog.cellsOf 5 = 1 := by kernel_rfl

theorem held_law_any (p : Option Addr) (n c : Nat) (xs : List Int) (x : Int) (w : World) (hx : xs.length = n) (hnc : n ≤ c) (hp : p = none → c = 0) (hB : Lib.BytesIn w p n xs) (hx0 : 0 ≤ x) (hx1 : x < 18446744073709551616)
    (htab : Lib.TabIs Tryd.prog w powName .u64 Lib.pow10Tab) :
    Calls Tryd.prog 5 #[.slice p n c, .int .u64 x] w fun e w' => e = .returned (.bool true) ∧ Below w.heap.size w w' := by
  by_cases hn : 1048576 < n
  · exact law_big p n c x w hn
  obtain ⟨u, rfl⟩ : ∃ u : Nat, x = u := ⟨x.toNat, by omega⟩
  have htab' := Lib.tabBelow_of_tabIs htab
  cases p with
  | none =>
    obtain rfl := hp rfl
    obtain rfl : n = 0 := by omega
    exact law_nil u w (by omega) htab'
  | some a =>
    refine law_some a n c u xs w (by omega) (by omega) hx ?_ htab'
    intro i hi
    obtain ⟨b, o, e, hc⟩ := hB (by omega)
    obtain rfl := Option.some.inj e
    rw [add_plain]
    exact hc i hi

theorem pow_laid {W : World} (h : laidMetH Tryd.prog Rows.fnAppendHeldReadBackByJsonfastRow.laid W) : Lib.TabIs Tryd.prog W powName .u64 Lib.pow10Tab := by
  rw [MakeChecks.laidMetH_plain _ _ _ (by kernel_rfl)] at h
  have h2 := laidMet.tail (laidMet.tail h)
  exact Lib.tabIs_of_head (name := powName) (k := .u64) (zs := Lib.pow10Tab) (g := 2) (t := 88) (e := 25) (n := 20) (by kernel_rfl) (by kernel_rfl) Tryd.underlying88 Tryd.underlying25 (by kernel_rfl) (by kernel_rfl) h2

set_option maxRecDepth 100000 in
theorem held_lifted (os : Os) (started : os.Started) (H : Type) (enc : TypeId × Value → H) :
    ReturnsInHanded {} Tryd.checked os 5 .any (fun w args => (Rows.fnAppendHeldReadBackByJsonfastSpec.pre enc Tryd.prog Tryd.f5 [] false w args ∧ laidMetH Tryd.prog Rows.fnAppendHeldReadBackByJsonfastRow.laid w) ∧ sizedMet enc Tryd.prog Tryd.f5 (OpenSpec.ofChange Rows.fnAppendHeldReadBackByJsonfastSpec) false w args)
      (Rows.fnAppendHeldReadBackByJsonfastSpec.post enc Tryd.prog Tryd.f5 false true false false) := by
  refine returnsInHanded_of_change_and (C := Tryd.checked) (X := fun w _ => laidMetH Tryd.prog Rows.fnAppendHeldReadBackByJsonfastRow.laid w) (fun _ _ _ hh h => h.of_heap hh) own started (by kernel_rfl) Tryd.func5
    (ChangeSpec.witness_shaped (enc := enc) (C := Tryd.checked) (os := os) (X := fun w _ => laidMetH Tryd.prog Rows.fnAppendHeldReadBackByJsonfastRow.laid w) false (World.laidAll Tryd.prog os Rows.fnAppendHeldReadBackByJsonfastRow.laid) #[.slice none 0 0, .int .u64 0] 8 (World.laidAll_os _ _ _)
      (World.shaped_of_ZipB (by kernel_rfl) (by kernel_rfl)) (by kernel_rfl) (by kernel_rfl) (by kernel_rfl)
      (by rw [MakeChecks.laidMetH_plain _ _ _ (by kernel_rfl)]; exact laidMet_laidAll _ (by kernel_rfl) (by kernel_rfl))) ?_
  intro W base args ds gs before hval0 hW _ _ hL _
  have hval : ∀ (j : Nat) t v, Tryd.f5.params[j]? = some t → args[j]? = some v → Value.okWide Tryd.prog W .any base t v := hval0
  have hW' := hW
  obtain ⟨p, q, hA0, hV, rfl, _, _⟩ := hW
  have hA : DataW.TrodAll enc Tryd.prog W 0 (fun _ => true) true Tryd.f5.params.toList args.toList ds p := hA0
  rw [Tryd.params5] at hA hval
  obtain ⟨v0, v1, d0, d1, p0, p1, rfl, rfl, rfl, h0, h1⟩ := trodAll_two hA
  obtain ⟨rfl, rfl⟩ := trodVars_none hV
  obtain ⟨a0, len0, cap0, rfl⟩ := okWide_slice Tryd.underlying22 (hval 0 22 v0 rfl rfl)
  obtain ⟨x, rfl, rfl, rfl, wx⟩ := open_int Tryd.underlying25 (hval 1 25 v1 rfl rfl) h1
  clear hA0 hval0
  simp only [List.append_nil] at hW'
  have hlt : ∀ x ∈ p0, x.block < W.heap.size := fun x hx => by simpa using hW'.lt x hx
  have hx : 0 ≤ x ∧ x ≤ 18446744073709551615 := by simpa [Lit.wf, IntKind.min, IntKind.max, IntKind.signed, IntKind.bits] using wx
  obtain ⟨xs, hxs, hc0, hB0, _, hr0, hp0⟩ := opened_bytes Tryd.underlying22 Tryd.underlying5 cells5 h0
  refine (held_law_any a0 len0 cap0 xs x W hxs hc0 hp0 hB0 hx.1 (by omega) (pow_laid hL)).mono fun e W' ⟨he, hnx⟩ => ?_
  subst he
  have harg := Below.trod laidOut (by kernel_rfl) (of_decide_eq_true (by kernel_rfl)) h0 hnx hlt
  have hargs := trodAll_mk2 harg (shut_int (n := x) Tryd.underlying25 wx)
  rw [List.append_nil] at hargs
  exact ⟨_, rfl, _, _, _, [], p0, [], hW', trodAll_mk1 (shut_bool Tryd.underlying4 _), hargs, rfl, hnx.frame _, fun h => by cases h⟩

theorem held_row : Rows.FnAppendHeldReadBackByJsonfastSaid :=
  OpenClaim.holds_of_wide 5 Tryd.f5 rfl rfl rfl rfl rfl rfl rfl ⟨rfl, rfl, rfl, rfl, rfl⟩ rfl rfl rfl rfl rfl (by kernel_rfl) Tryd.func5 (by kernel_rfl)
    (of_decide_eq_true (by kernel_rfl)) (by unfold Func.isWrapper; first | (rw [if_pos (by decide +kernel)]; kernel_rfl) | (rw [if_neg (by decide +kernel)]; exact ⟨rfl, rfl⟩))
    (fun os started H enc _ => held_lifted os started H enc)

theorem held_card : Rows.FnAppendHeldReadBackByJsonfastCardSaid :=
  Claim7.holds_tied_plain_at .later [] [.data, .data, .data, .data, .pinned] true (true, "3df2ce092898f71451aeb25314b57d8c98eed538bc3df776797ab22dd7f2032c") false held_row (fun _ h => by cases h) (by kernel_rfl) (fun _ h => by cases h) fnAppendHeldReadBackByJsonfast_row_tie rfl ⟨rfl, rfl⟩ (by kernel_rfl) rfl
    (fun f fn hf hfn => by
      obtain rfl : f = 5 := Option.some.inj ((show Tryd.prog.funcNamed Tryd.f5.name = some 5 by kernel_rfl).symm.trans hf) |>.symm
      obtain rfl : fn = Tryd.f5 := (Option.some.inj (Tryd.func5.symm.trans hfn)).symm
      exact ⟨by kernel_rfl, fun j t ht => by
        rw [Tryd.params5] at ht
        have hm : t ∈ [22, 25] := by simpa using Array.mem_of_getElem? ht
        have hall : ([22, 25].all fun u => !Tryd.prog.wantsStandIn u) = true := by kernel_rfl
        exact (show Tryd.prog.wantsStandIn t = false by simpa using List.all_eq_true.1 hall t hm)⟩)
    (by kernel_rfl)
end Go.Proofs.Qxb6605662aDoor
