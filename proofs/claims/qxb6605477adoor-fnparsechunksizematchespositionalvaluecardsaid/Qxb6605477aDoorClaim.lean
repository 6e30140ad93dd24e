import Derived.Test.Qxb6605477aDoorW4
import Derived.Test.Qxb6605477aDoorTie
import Derived.Test.Qxb6605477aDoorCards
import Derived.ProofKit
import Derived.OpenShut
import Derived.LaidMore
import Derived.Lay
import Derived.SevenTiedAt
import Derived.Stop.Joined
import Derived.Lib.SlBytesRowKit
namespace Go.Proofs.Qxb6605477aDoor
open Go.ChangeShapes Go.WideShapes Go.ChangeAt Go.RowKit

theorem own : ownKnob Tryd.prog.godebug = none := by kernel_rfl
theorem laidOut : laidOutB Tryd.prog = true := by kernel_rfl
theorem cells5 : Tryd.prog.cellsOf 5 = 1 := by kernel_rfl

theorem law_any (p : Option Addr) (n c : Nat) (xs : List Int) (w : World) (hx : xs.length = n) (hnc : n ≤ c) (hp : p = none → c = 0) (hr : ∀ x ∈ xs, 0 ≤ x ∧ x < 256) (hB : Lib.BytesIn w p n xs) :
    Calls Tryd.prog 3 #[.slice p n c] w fun e w' => e = .returned (.bool true) ∧ Below w.heap.size w w' := by
  by_cases hn : 1048576 < n
  · exact law_big p n c w hn
  cases p with
  | none =>
    obtain rfl := hp rfl
    obtain rfl : n = 0 := by omega
    exact law_nil w
  | some a =>
    refine law_some a n c xs w (by omega) hx hr ?_
    intro i hi
    obtain ⟨b, o, e, hc⟩ := hB (by omega)
    obtain rfl := Option.some.inj e
    rw [add_plain]
    exact hc i hi

set_option maxRecDepth 100000 in
theorem lifted (os : Os) (started : os.Started) (H : Type) (enc : TypeId × Value → H) :
    ReturnsInHanded {} Tryd.checked os 3 .any (fun w args => (Rows.fnParseChunkSizeMatchesPositionalValueSpec.pre enc Tryd.prog Tryd.f3 [] false w args ∧ laidMetH Tryd.prog Rows.fnParseChunkSizeMatchesPositionalValueRow.laid w) ∧ sizedMet enc Tryd.prog Tryd.f3 (OpenSpec.ofChange Rows.fnParseChunkSizeMatchesPositionalValueSpec) false w args)
      (Rows.fnParseChunkSizeMatchesPositionalValueSpec.post enc Tryd.prog Tryd.f3 false true false false) := by
  refine returnsInHanded_of_change_and (C := Tryd.checked) (X := fun w _ => laidMetH Tryd.prog Rows.fnParseChunkSizeMatchesPositionalValueRow.laid w) (fun _ _ _ hh h => h.of_heap hh) own started (by kernel_rfl) Tryd.func3
    (ChangeSpec.witness_shaped (enc := enc) (C := Tryd.checked) (os := os) (X := fun w _ => laidMetH Tryd.prog Rows.fnParseChunkSizeMatchesPositionalValueRow.laid w) false (World.laidAll Tryd.prog os Rows.fnParseChunkSizeMatchesPositionalValueRow.laid) #[.slice none 0 0] 8 (World.laidAll_os _ _ _)
      (World.shaped_of_ZipB (by kernel_rfl) (by kernel_rfl)) (by kernel_rfl) (by kernel_rfl) (by kernel_rfl)
      (by rw [MakeChecks.laidMetH_plain _ _ _ (by kernel_rfl)]; exact laidMet_laidAll _ (by kernel_rfl) (by kernel_rfl))) ?_
  intro W base args ds gs before hval0 hW _ _ _ _
  have hval : ∀ (j : Nat) t v, Tryd.f3.params[j]? = some t → args[j]? = some v → Value.okWide Tryd.prog W .any base t v := hval0
  have hW' := hW
  obtain ⟨p, q, hA0, hV, rfl, _, _⟩ := hW
  have hA : DataW.TrodAll enc Tryd.prog W 0 (fun _ => true) true Tryd.f3.params.toList args.toList ds p := hA0
  rw [Tryd.params3] at hA hval
  obtain ⟨v0, d0, rfl, rfl, h0⟩ := trodAll_one hA
  obtain ⟨rfl, rfl⟩ := trodVars_none hV
  obtain ⟨a0, len0, cap0, rfl⟩ := okWide_slice Tryd.underlying22 (hval 0 22 v0 rfl rfl)
  clear hA0 hval0
  simp only [List.append_nil] at hW'
  have hlt : ∀ x ∈ p, x.block < W.heap.size := fun x hx => by simpa using hW'.lt x hx
  obtain ⟨xs, hx, hc0, hB0, _, hr0, hp0⟩ := opened_bytes Tryd.underlying22 Tryd.underlying5 cells5 h0
  refine (law_any a0 len0 cap0 xs W hx hc0 hp0 hr0 hB0).mono fun e W' ⟨he, hnx⟩ => ?_
  subst he
  have harg := Below.trod laidOut (by kernel_rfl) (of_decide_eq_true (by kernel_rfl)) h0 hnx hlt
  exact ⟨_, rfl, _, _, _, [], p, [], hW', trodAll_mk1 (shut_bool Tryd.underlying4 _), trodAll_mk1 harg, rfl, hnx.frame _, fun h => by cases h⟩

theorem row_holds : Rows.FnParseChunkSizeMatchesPositionalValueSaid :=
  OpenClaim.holds_of_wide 3 Tryd.f3 rfl rfl rfl rfl rfl rfl rfl ⟨rfl, rfl, rfl, rfl, rfl⟩ rfl rfl rfl rfl rfl (by kernel_rfl) Tryd.func3 (by kernel_rfl)
    (of_decide_eq_true (by kernel_rfl)) (by unfold Func.isWrapper; first | (rw [if_pos (by decide +kernel)]; kernel_rfl) | (rw [if_neg (by decide +kernel)]; exact ⟨rfl, rfl⟩))
    (fun os started H enc _ => lifted os started H enc)

theorem card_holds : Rows.FnParseChunkSizeMatchesPositionalValueCardSaid :=
  Claim7.holds_tied_plain_at .later [] [.data, .pinned] true (true, "5d253bfcd82ecbd886def9f1848ca22528404ed110a50b993f9dc386c98ccb50") false row_holds (fun _ h => by cases h) (by kernel_rfl) (fun _ h => by cases h) fnParseChunkSizeMatchesPositionalValue_row_tie rfl ⟨rfl, rfl⟩ (by kernel_rfl) rfl
    (fun f fn hf hfn => by
      obtain rfl : f = 3 := Option.some.inj ((show Tryd.prog.funcNamed Tryd.f3.name = some 3 by kernel_rfl).symm.trans hf) |>.symm
      obtain rfl : fn = Tryd.f3 := (Option.some.inj (Tryd.func3.symm.trans hfn)).symm
      exact ⟨by kernel_rfl, fun j t ht => by
        rw [Tryd.params3] at ht
        have hm : t ∈ [22] := by simpa using Array.mem_of_getElem? ht
        have hall : ([22].all fun u => !Tryd.prog.wantsStandIn u) = true := by kernel_rfl
        exact (show Tryd.prog.wantsStandIn t = false by simpa using List.all_eq_true.1 hall t hm)⟩)
    (by kernel_rfl)
end Go.Proofs.Qxb6605477aDoor
