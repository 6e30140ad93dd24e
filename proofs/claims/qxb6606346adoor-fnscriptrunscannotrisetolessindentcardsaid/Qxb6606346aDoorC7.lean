import Derived.Test.Qxb6606346aDoorB2
import Derived.Test.Qxb6606346aDoorTie
import Derived.Test.Qxb6606346aDoorCards
import Derived.ProofKit
import Derived.OpenShut
import Derived.SliceStrings
import Derived.LaidMore
import Derived.Lay
import Derived.SevenTiedAt
import Derived.Stop.Joined
import Derived.Stop.LaidErr
import Derived.ChangeMaps5
set_option linter.unusedVariables false
set_option linter.unusedSimpArgs false
namespace Go.Proofs.Qxb6606346aDoor
open Go.ChangeShapes Go.WideShapes Go.ChangeAt Go.RowKit Go.ChangeMaps

theorem k_own : ownKnob Tryd.prog.godebug = none := by kernel_rfl
theorem k_laidOut : laidOutB Tryd.prog = true := by kernel_rfl
theorem k_cells9 : Tryd.prog.cellsOf 9 = 1 := by kernel_rfl
theorem opened_strs {H : Type} {enc : TypeId × Value → H} {W : World} {a0 : Option Addr} {len cap : Nat} {d0 : DataW H} {p : List MemPlace}
    (h0 : DataW.Trod enc Tryd.prog W 0 (fun _ => true) true 22 (.slice a0 len cap) d0 p) :
    ∃ fs : List ByteArray, fs.length = len ∧ len ≤ 9223372036854775807 ∧ StrsIn W a0 len fs ∧ (a0 = none → len = 0 ∧ cap = 0) := by
  obtain ⟨fuel, hf⟩ := h0
  rcases open_strings Tryd.underlying22 Tryd.underlying9 k_cells9 hf with ⟨hcs, hx⟩ | ⟨a, len', cap', ss, hcs, _, hl, hm, hz, hx, hcell, hsz⟩
  · simp [Value.cells] at hcs
    obtain ⟨rfl, rfl, rfl⟩ := hcs
    exact ⟨[], rfl, by omega, fun h => absurd h (Nat.lt_irrefl 0), fun _ => ⟨rfl, rfl⟩⟩
  · simp [Value.cells] at hcs
    obtain ⟨rfl, rfl, rfl⟩ := hcs
    simp only [if_true] at hz
    unfold maxLen at hm
    refine ⟨ss.take len, by simp; omega, by omega, fun hn => ?_, fun h => by cases h⟩
    have hc : ∀ i, i < len → W.cell? (a.add i) = some (.string ((ss.take len).getD i ByteArray.empty)) := fun i hi => by
      have := hcell i (by omega)
      rw [this, List.getD_eq_getElem?_getD, List.getD_eq_getElem?_getD, List.getElem?_take, if_pos hi]
    obtain ⟨b, o, s⟩ := a
    obtain rfl : s = none := by simpa [Addr.add] using World.cell?_spot (hc 0 hn)
    exact ⟨b, o, rfl, fun i hi => by rw [← add_plain]; exact hc i hi⟩

set_option maxRecDepth 100000 in
theorem r_lifted (os : Os) (started : os.Started) (H : Type) (enc : TypeId × Value → H) :
    ReturnsInHanded {} Tryd.checked os 4 .any (fun w args => (Rows.fnScriptRunsCannotRiseToLessIndentSpec.pre enc Tryd.prog Tryd.f4 [] false w args ∧ laidMetH Tryd.prog Rows.fnScriptRunsCannotRiseToLessIndentRow.laid w) ∧ sizedMet enc Tryd.prog Tryd.f4 (OpenSpec.ofChange Rows.fnScriptRunsCannotRiseToLessIndentSpec) false w args)
      (Rows.fnScriptRunsCannotRiseToLessIndentSpec.post enc Tryd.prog Tryd.f4 false true false false) := by
  refine returnsInHanded_of_change_and (C := Tryd.checked) (X := fun w _ => laidMetH Tryd.prog Rows.fnScriptRunsCannotRiseToLessIndentRow.laid w) (fun _ _ _ hh h => h.of_heap hh) k_own started (by kernel_rfl) Tryd.func4
    (ChangeSpec.witness_shaped (enc := enc) (C := Tryd.checked) (os := os) (X := fun w _ => laidMetH Tryd.prog Rows.fnScriptRunsCannotRiseToLessIndentRow.laid w) false (World.laidAll Tryd.prog os Rows.fnScriptRunsCannotRiseToLessIndentRow.laid) #[.slice none 0 0, .slice none 0 0] 8 (World.laidAll_os _ _ _)
      (World.shaped_of_ZipB (by kernel_rfl) (by kernel_rfl)) (by kernel_rfl) (by kernel_rfl) (by kernel_rfl)
      (by rw [MakeChecks.laidMetH_plain _ _ _ (by kernel_rfl)]; exact laidMet_laidAll _ (by kernel_rfl) (by kernel_rfl))) ?_
  intro W base args ds gs before hval0 hW _ _ hL _
  have hval : ∀ (j : Nat) t v, Tryd.f4.params[j]? = some t → args[j]? = some v → Value.okWide Tryd.prog W .any base t v := hval0
  have hW' := hW
  obtain ⟨p, q, hA0, hV, rfl, _, _⟩ := hW
  have hA : DataW.TrodAll enc Tryd.prog W 0 (fun _ => true) true Tryd.f4.params.toList args.toList ds p := hA0
  rw [Tryd.params4] at hA hval
  obtain ⟨v0, vs0, d0, ds0, p0, q0, ha0, rfl, rfl, t0, r0⟩ := trodAll_cons hA
  obtain ⟨v1, vs1, d1, ds1, p1, q1, rfl, rfl, rfl, t1, r1⟩ := trodAll_cons r0
  obtain ⟨rfl, rfl, rfl⟩ := trodAll_nil r1
  obtain rfl : args = #[v0, v1] := by cases args; simp_all
  obtain ⟨rfl, rfl⟩ := trodVars_none hV
  obtain ⟨a0, len0, cap0, rfl⟩ := okWide_slice Tryd.underlying22 (hval 0 22 v0 rfl rfl)
  obtain ⟨a1, len1, cap1, rfl⟩ := okWide_slice Tryd.underlying22 (hval 1 22 v1 rfl rfl)
  clear hA0 hval0
  simp only [List.append_nil, List.nil_append] at hW'
  have hlt0 : ∀ x ∈ p0, x.block < W.heap.size := fun x hx => hW'.lt x (by simp [hx])
  have hlt1 : ∀ x ∈ p1, x.block < W.heap.size := fun x hx => hW'.lt x (by simp [hx])
  obtain ⟨fs, hx0, hl0, hS0, hp0⟩ := opened_strs t0
  obtain ⟨ts, hx1, hl1, hS1, hp1⟩ := opened_strs t1
  refine (law4_any a0 a1 len0 len1 cap0 cap1 fs ts W hl0 hl1 hS0 hS1 hx0 hx1 hp0 hp1).mono fun e W' ⟨he, hnx⟩ => ?_
  subst he
  have harg0 := Below.trod k_laidOut (by kernel_rfl) (of_decide_eq_true (by kernel_rfl)) t0 hnx hlt0
  have harg1 := Below.trod k_laidOut (by kernel_rfl) (of_decide_eq_true (by kernel_rfl)) t1 hnx hlt1
  have hargs := trodAll_cons_mk harg0 (trodAll_mk1 harg1)
  exact ⟨_, rfl, _, _, _, [], p0 ++ p1, [], hW', trodAll_mk1 (shut_bool Tryd.underlying4 _), hargs, rfl, hnx.frame _, fun h => by cases h⟩

theorem r_row : Rows.FnScriptRunsCannotRiseToLessIndentSaid :=
  OpenClaim.holds_of_wide 4 Tryd.f4 rfl rfl rfl rfl rfl rfl rfl ⟨rfl, rfl, rfl, rfl, rfl⟩ rfl rfl rfl rfl rfl (by kernel_rfl) Tryd.func4 (by kernel_rfl)
    (of_decide_eq_true (by kernel_rfl)) (by unfold Func.isWrapper; first | (rw [if_pos (by decide +kernel)]; kernel_rfl) | (rw [if_neg (by decide +kernel)]; exact ⟨rfl, rfl⟩))
    (fun os started H enc _ => r_lifted os started H enc)

theorem rise_card : Rows.FnScriptRunsCannotRiseToLessIndentCardSaid :=
  Claim7.holds_tied_plain_at .later [] [.data, .pinned] true (true, "2b77b96e107eec287a6d89b251cceaf09f46bafcaf048eca1657264527ac91d5") false r_row (fun _ h => by cases h) (by kernel_rfl) (fun _ h => by cases h) fnScriptRunsCannotRiseToLessIndent_row_tie rfl ⟨rfl, rfl⟩ (by kernel_rfl) rfl
    (fun f fn hf hfn => by
      obtain rfl : f = 4 := Option.some.inj ((show Tryd.prog.funcNamed Tryd.f4.name = some 4 by kernel_rfl).symm.trans hf) |>.symm
      obtain rfl : fn = Tryd.f4 := (Option.some.inj (Tryd.func4.symm.trans hfn)).symm
      exact ⟨by kernel_rfl, fun j t ht => by
        rw [Tryd.params4] at ht
        have hm : t ∈ [22, 22] := by simpa using Array.mem_of_getElem? ht
        have hall : ([22, 22].all fun u => !Tryd.prog.wantsStandIn u) = true := by kernel_rfl
        exact (show Tryd.prog.wantsStandIn t = false by simpa using List.all_eq_true.1 hall t hm)⟩)
    (by kernel_rfl)
end Go.Proofs.Qxb6606346aDoor
