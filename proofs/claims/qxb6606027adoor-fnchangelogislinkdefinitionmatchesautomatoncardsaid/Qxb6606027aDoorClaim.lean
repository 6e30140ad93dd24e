import Derived.Test.Qxb6606027aDoorS9
import Derived.Test.Qxb6606027aDoorTie
import Derived.Test.Qxb6606027aDoorCards
import Derived.ProofKit
import Derived.OpenShut
import Derived.LaidMore
import Derived.Lay
import Derived.SevenTiedAt
import Derived.Stop.Joined
import Derived.Lib.SlBytesRowKit
import Derived.Lib.LaidU8
import Derived.HandedShaped
import Derived.Shelf.Vars
namespace Go.Proofs.Qxb6606027aDoor
open Go.ChangeShapes Go.WideShapes Go.ChangeAt Go.RowKit

theorem own : ownKnob Tryd.prog.godebug = none := by kernel_rfl
theorem laidOut : laidOutB Tryd.prog = true := by kernel_rfl
theorem cells5 : Tryd.prog.cellsOf 5 = 1 := by kernel_rfl
theorem cells64 : Tryd.prog.cellsOf 64 = 256 := by kernel_rfl
theorem cells66 : Tryd.prog.cellsOf 66 = 2 := by kernel_rfl
theorem first_is : Rows.laid_unicode_utf8_first = Lib.firstData := by kernel_rfl
theorem accept_is : (Rows.laid_unicode_utf8_acceptRanges : DataW Unit) = Lib.acceptData := by kernel_rfl

/-- what the two listed tables hold -/
theorem tabs_of {w : World} (h : laidMet Tryd.prog Rows.fnChangelogIsLinkDefinitionMatchesAutomatonRow.laid w) : Lib.Utf8Tabs 1 2 w := by
  have h3 := Lib.laidMet.reads h (n := "unicode/utf8.first") (d := Rows.laid_unicode_utf8_first) (List.mem_cons_of_mem _ (List.mem_singleton.2 rfl))
  have h4 := Lib.laidMet.reads h (n := "unicode/utf8.acceptRanges") (d := Rows.laid_unicode_utf8_acceptRanges) (List.mem_cons_self ..)
  rw [first_is] at h3
  rw [accept_is] at h4
  refine ⟨fun c hc => ?_, fun i hi => ?_⟩
  · obtain ⟨g, t, cs, fuel, p, hg, hty, hvar, hd⟩ := h3
    obtain rfl : 1 = g := Option.some.inj ((show Tryd.prog.globalNamed "unicode/utf8.first" = some 1 by kernel_rfl).symm.trans hg)
    obtain rfl : 64 = t := Option.some.inj ((show (Tryd.prog.globals[1]?).map (·.type) = some 64 by kernel_rfl).symm.trans hty)
    have hcs := Lib.cells_of_tab Tryd.underlying64 Tryd.underlying5 cells5 cells64 hd
    rw [World.var?_cell hg hvar c, ← Array.getElem?_toList, hcs]
    simp [Lib.firstTab, hc]
  · obtain ⟨g, t, cs, fuel, p, hg, hty, hvar, hd⟩ := h4
    obtain rfl : 2 = g := Option.some.inj ((show Tryd.prog.globalNamed "unicode/utf8.acceptRanges" = some 2 by kernel_rfl).symm.trans hg)
    obtain rfl : 67 = t := Option.some.inj ((show (Tryd.prog.globals[2]?).map (·.type) = some 67 by kernel_rfl).symm.trans hty)
    obtain ⟨fuel', d, q, hdi, he⟩ := Lib.array_elem Tryd.underlying67 hd i hi
    simp only [List.getElem?_map, List.getElem?_range hi, Option.map_some, Option.some.injEq] at hdi
    subst hdi
    rw [cells66] at he
    have hcs := Lib.ints_of_struct Tryd.underlying66 (fun j f hj => by
      match j, hj with
      | 0, hj => simp at hj; subst hj; exact ⟨Tryd.underlying5, rfl, cells5⟩
      | 1, hj => simp at hj; subst hj; exact ⟨Tryd.underlying5, rfl, cells5⟩
      | j + 2, hj => simp at hj) (by rw [cells66]; rfl) he
    have e0 := congrArg (·[0]?) hcs
    have e1 := congrArg (·[1]?) hcs
    simp only [List.getElem?_take, List.getElem?_drop] at e0 e1
    constructor
    · rw [World.var?_cell hg hvar (2 * i), ← Array.getElem?_toList]
      simpa [Nat.mul_comm] using e0
    · rw [World.var?_cell hg hvar (2 * i + 1), ← Array.getElem?_toList]
      simpa [Nat.mul_comm] using e1

set_option maxHeartbeats 400000 in
theorem bound_big (p : Option Addr) (n c : Nat) (w : World) (h : 1048576 < n) : Calls Tryd.prog 7 #[.slice p n c] w fun e w' => e = .returned (.bool false) ∧ w' = w := by
  have hi : (1048576 : Int) < (n : Int) := by omega
  go_enter Tryd.func7, Tryd.ntmps7
  go_wp2
  go_ret
  exact ⟨rfl, rfl⟩
set_option maxHeartbeats 400000 in
theorem law_huge (p : Option Addr) (n c : Nat) (w : World) (hn : 1048576 < n) :
    Calls Tryd.prog 3 #[.slice p n c] w fun e w' => e = .returned (.bool true) ∧ Below w.heap.size w w' := by
  have HB : Hid (Calls Tryd.prog 7 #[.slice p n c] w fun e w' => e = .returned (.bool false) ∧ w' = w) := bound_big p n c w hn
  go_enter Tryd.func3, Tryd.ntmps3
  go_wp2_with fail
  refine HB.out.mono ?_
  rintro e w' ⟨rfl, hw⟩
  obtain rfl := hw.symm
  go_wp2
  go_ret
  exact ⟨rfl, Below.refl _ _⟩
theorem law_every (p : Option Addr) (n c : Nat) (xs : List Int) (m : Int) (w : World) (hx : xs.length = n) (hnc : n ≤ c) (hp : p = none → c = 0) (hr : ∀ x ∈ xs, 0 ≤ x ∧ x < 256) (hB : Lib.BytesIn w p n xs) (hU : Lib.Utf8Tabs 1 2 w) (hm : w.cell? ⟨0, 0, none⟩ = some (.int .i64 m)) :
    Calls Tryd.prog 3 #[.slice p n c] w fun e w' => e = .returned (.bool true) ∧ Below w.heap.size w w' := by
  by_cases hn : 1048576 < n
  · exact law_huge p n c w hn
  · exact law_any p n c xs m w hx hnc hp hr hB (by omega) hU hm
set_option maxRecDepth 100000 in
theorem contract_any (H : Type) (enc : TypeId × Value → H) (W : World) (base : Nat) (args : Array Value) (ds gs : List (DataW H)) (before : List MemPlace)
    (hval0 : ∀ (j : Nat) t v, Tryd.f3.params[j]? = some t → args[j]? = some v → Value.okWide Tryd.prog W .any base t v)
    (hW : DataW.Whole enc Tryd.prog Tryd.f3.params.toList Rows.fnChangelogIsLinkDefinitionMatchesAutomatonSpec.vars false W args.toList ds gs before)
    (hsh : W.ShapedOpen Tryd.prog) (hlaid : laidMet Tryd.prog Rows.fnChangelogIsLinkDefinitionMatchesAutomatonRow.laid W) :
    Calls Tryd.prog 3 args W fun e W' => ∃ v, e = .returned v ∧ Rows.fnChangelogIsLinkDefinitionMatchesAutomatonSpec.post enc Tryd.prog Tryd.f3 false true false false W args v W' := by
  have hT := tabs_of hlaid
  obtain ⟨m, hm⟩ := cell_of_shapedOpen_int (P := Tryd.prog) (g := 0) (t := 3) (zero := #[.int .i64 0]) hsh (of_decide_eq_true (by kernel_rfl)) (by kernel_rfl) rfl (by kernel_rfl) (by kernel_rfl) Tryd.underlying3
  have hval : ∀ (j : Nat) t v, Tryd.f3.params[j]? = some t → args[j]? = some v → Value.okWide Tryd.prog W .any base t v := hval0
  have hW' := hW
  obtain ⟨p, q, hA0, hV, rfl, _, _⟩ := hW
  have hA : DataW.TrodAll enc Tryd.prog W 0 (fun _ => true) true Tryd.f3.params.toList args.toList ds p := hA0
  rw [Tryd.params3] at hA hval
  obtain ⟨v0, d0, rfl, rfl, h0⟩ := trodAll_one hA
  obtain ⟨rfl, rfl⟩ := trodVars_none hV
  obtain ⟨a0, len0, cap0, rfl⟩ := okWide_slice Tryd.underlying22 (hval 0 22 v0 rfl rfl)
  clear hA0 hval0
  simp only [List.append_nil] at hW'
  have hlt : ∀ x ∈ p, x.block < W.heap.size := fun x hx => by simpa using hW'.lt x hx
  obtain ⟨xs, hx, hc0, hB0, _, hr0, hp0⟩ := opened_bytes Tryd.underlying22 Tryd.underlying5 cells5 h0
  refine (law_every a0 len0 cap0 xs m W hx hc0 hp0 hr0 hB0 hT hm).mono fun e W' ⟨he, hnx⟩ => ?_
  subst he
  have harg := Below.trod laidOut (by kernel_rfl) (of_decide_eq_true (by kernel_rfl)) h0 hnx hlt
  exact ⟨_, rfl, _, _, _, [], p, [], hW', trodAll_mk1 (shut_bool Tryd.underlying4 _), trodAll_mk1 harg, rfl, hnx.frame _, fun h => by cases h⟩

set_option maxRecDepth 100000 in
theorem lifted (os : Os) (started : os.Started) (H : Type) (enc : TypeId × Value → H) :
    ReturnsInHanded {} Tryd.checked os 3 .any (fun w args => (Rows.fnChangelogIsLinkDefinitionMatchesAutomatonSpec.pre enc Tryd.prog Tryd.f3 [] false w args ∧ laidMetH Tryd.prog Rows.fnChangelogIsLinkDefinitionMatchesAutomatonRow.laid w) ∧ sizedMet enc Tryd.prog Tryd.f3 (OpenSpec.ofChange Rows.fnChangelogIsLinkDefinitionMatchesAutomatonSpec) false w args)
      (Rows.fnChangelogIsLinkDefinitionMatchesAutomatonSpec.post enc Tryd.prog Tryd.f3 false true false false) := by
  refine returnsInHanded_of_calls own started (by kernel_rfl)
    (ChangeSpec.witness_shaped (enc := enc) (C := Tryd.checked) (os := os) (X := fun w _ => laidMetH Tryd.prog Rows.fnChangelogIsLinkDefinitionMatchesAutomatonRow.laid w) false (World.laidAll Tryd.prog os Rows.fnChangelogIsLinkDefinitionMatchesAutomatonRow.laid) #[.slice none 0 0] 8 (World.laidAll_os _ _ _)
      (World.shaped_of_ZipB (by kernel_rfl) (by kernel_rfl)) (by kernel_rfl) (by kernel_rfl) (by kernel_rfl)
      (by rw [MakeChecks.laidMetH_plain _ _ _ (by kernel_rfl)]; exact laidMet_laidAll _ (by kernel_rfl) (by kernel_rfl))) ?_
  intro w tape inp _ hsh _ hok hpre _
  obtain ⟨_, _, _, fn', hfn', _, _, _, _, hval0⟩ := hok
  have efn : fn' = Tryd.f3 := Option.some.inj (hfn'.symm.trans Tryd.func3)
  subst efn
  obtain ⟨⟨⟨ds, gs, before, hw, _⟩, hx⟩, _⟩ := hpre
  have hW := DataW.Whole.of_heap (w' := w.forCall tape inp) (by rfl) hw
  have hlaid : laidMetH Tryd.prog Rows.fnChangelogIsLinkDefinitionMatchesAutomatonRow.laid (w.forCall tape inp) := laidMetH.of_heap (by rfl) hx
  rw [MakeChecks.laidMetH_plain _ _ _ (by kernel_rfl)] at hlaid
  refine (contract_any H enc (w.forCall tape inp) w.heap.size inp.args ds gs before hval0 hW hsh hlaid).mono fun e W' ⟨v, he, hp⟩ => ?_
  subst he
  exact ChangeSpec.post_blind hp

theorem row_holds : Rows.FnChangelogIsLinkDefinitionMatchesAutomatonSaid :=
  OpenClaim.holds_of_wide 3 Tryd.f3 rfl rfl rfl rfl rfl rfl rfl ⟨rfl, rfl, rfl, rfl, rfl⟩ rfl rfl rfl rfl rfl (by kernel_rfl) Tryd.func3 (by kernel_rfl)
    (of_decide_eq_true (by kernel_rfl)) (by unfold Func.isWrapper; first | (rw [if_pos (by decide +kernel)]; kernel_rfl) | (rw [if_neg (by decide +kernel)]; exact ⟨rfl, rfl⟩))
    (fun os started H enc _ => lifted os started H enc)

theorem card_holds : Rows.FnChangelogIsLinkDefinitionMatchesAutomatonCardSaid :=
  Claim7.holds_tied_plain_at .later [] [.data, .pinned] true (true, "ece7863c46391824867a013f1062946fcb1ae9a47834b46ed0c61cbcb4dac751") false row_holds (fun _ h => by cases h) (by kernel_rfl) (fun _ h => by cases h) fnChangelogIsLinkDefinitionMatchesAutomaton_row_tie rfl ⟨rfl, rfl⟩ (by kernel_rfl) rfl
    (fun f fn hf hfn => by
      obtain rfl : f = 3 := Option.some.inj ((show Tryd.prog.funcNamed Tryd.f3.name = some 3 by kernel_rfl).symm.trans hf) |>.symm
      obtain rfl : fn = Tryd.f3 := (Option.some.inj (Tryd.func3.symm.trans hfn)).symm
      exact ⟨by kernel_rfl, fun j t ht => by
        rw [Tryd.params3] at ht
        have hm : t ∈ [22] := by simpa using Array.mem_of_getElem? ht
        have hall : ([22].all fun u => !Tryd.prog.wantsStandIn u) = true := by kernel_rfl
        exact (show Tryd.prog.wantsStandIn t = false by simpa using List.all_eq_true.1 hall t hm)⟩)
    (by kernel_rfl)
end Go.Proofs.Qxb6606027aDoor
