import Derived.Test.Qxb6605662aDoorM9
import Derived.Test.Qxb6605662aDoorTie
import Derived.Test.Qxb6605662aDoorCards
import Derived.ProofKit
import Derived.OpenShut
import Derived.LaidMore
import Derived.Lay
import Derived.SevenTiedAt
import Derived.Stop.Joined
import Derived.Stop.LaidErr
import Derived.Lib.SlBytesRowKit
import Derived.Lib.LaidU8
namespace Go.Proofs.Qxb6605662aDoor
open Go.ChangeShapes Go.WideShapes Go.ChangeAt Go.RowKit

theorem g_own : ownKnob Tryd.prog.godebug = none := by kernel_rfl
theorem g_laidOut : laidOutB Tryd.prog = true := by kernel_rfl
theorem g_cells5 : Tryd.prog.cellsOf 5 = 1 := by kernel_rfl
theorem g_cells82 : Tryd.prog.cellsOf 82 = 256 := by kernel_rfl
theorem g_cells84 : Tryd.prog.cellsOf 84 = 2 := by kernel_rfl
theorem g_first_is : Rows.laid_unicode_utf8_first = Lib.firstData := by kernel_rfl
theorem g_accept_is : (Rows.laid_unicode_utf8_acceptRanges : DataW Unit) = Lib.acceptData := by kernel_rfl
theorem ft_is : ∀ i, i < 256 → ((Lib.firstT i : Nat) : Int) = ft i := by
  have h : ((List.range 256).all fun i => decide (((Lib.firstT i : Nat) : Int) = ft i)) = true := by decide +kernel
  exact fun i hi => of_decide_eq_true (List.all_eq_true.1 h i (List.mem_range.2 hi))
theorem acc_is : ∀ j, j < 16 → ((Lib.accLo j : Nat) : Int) = aLo j ∧ ((Lib.accHi j : Nat) : Int) = aHi j := by
  have h : ((List.range 16).all fun j => decide (((Lib.accLo j : Nat) : Int) = aLo j ∧ ((Lib.accHi j : Nat) : Int) = aHi j)) = true := by decide +kernel
  exact fun j hj => of_decide_eq_true (List.all_eq_true.1 h j (List.mem_range.2 hj))

/-- what the two listed tables hold -/
theorem g_tabs {w : World} {l : List (String × DataW Unit)} (hl : l = [("unicode/utf8.acceptRanges", Rows.laid_unicode_utf8_acceptRanges), ("unicode/utf8.first", Rows.laid_unicode_utf8_first)]) (h : laidMet Tryd.prog l w) : Tabs w := by
  subst hl
  have h3 := Lib.laidMet.reads h (n := "unicode/utf8.first") (d := Rows.laid_unicode_utf8_first) (List.mem_cons_of_mem _ (List.mem_singleton.2 rfl))
  have h4 := Lib.laidMet.reads h (n := "unicode/utf8.acceptRanges") (d := Rows.laid_unicode_utf8_acceptRanges) (List.mem_cons_self ..)
  rw [g_first_is] at h3
  rw [g_accept_is] at h4
  have key : ∀ i, i < 16 → w.cell? ⟨1, 2 * i, none⟩ = some (.int .u8 (aLo i)) ∧ w.cell? ⟨1, 2 * i + 1, none⟩ = some (.int .u8 (aHi i)) := by
    intro i hi
    obtain ⟨g, t, cs, fuel, p, hg, hty, hvar, hd⟩ := h4
    obtain rfl : 1 = g := Option.some.inj ((show Tryd.prog.globalNamed "unicode/utf8.acceptRanges" = some 1 by kernel_rfl).symm.trans hg)
    obtain rfl : 85 = t := Option.some.inj ((show (Tryd.prog.globals[1]?).map (·.type) = some 85 by kernel_rfl).symm.trans hty)
    obtain ⟨fuel', d, q, hdi, he⟩ := Lib.array_elem Tryd.underlying85 hd i hi
    simp only [List.getElem?_map, List.getElem?_range hi, Option.map_some, Option.some.injEq] at hdi
    subst hdi
    rw [g_cells84] at he
    have hcs := Lib.ints_of_struct Tryd.underlying84 (fun j f hj => by
      match j, hj with
      | 0, hj => simp at hj; subst hj; exact ⟨Tryd.underlying5, rfl, g_cells5⟩
      | 1, hj => simp at hj; subst hj; exact ⟨Tryd.underlying5, rfl, g_cells5⟩
      | j + 2, hj => simp at hj) (by rw [g_cells84]; rfl) he
    have e0 := congrArg (·[0]?) hcs
    have e1 := congrArg (·[1]?) hcs
    simp only [List.getElem?_take, List.getElem?_drop] at e0 e1
    rw [← (acc_is i hi).1, ← (acc_is i hi).2]
    constructor
    · rw [World.var?_cell hg hvar (2 * i), ← Array.getElem?_toList]
      simpa [Nat.mul_comm] using e0
    · rw [World.var?_cell hg hvar (2 * i + 1), ← Array.getElem?_toList]
      simpa [Nat.mul_comm] using e1
  refine ⟨fun c hc => ?_, fun j hj => (key j hj).1, fun j hj => (key j hj).2⟩
  obtain ⟨g, t, cs, fuel, p, hg, hty, hvar, hd⟩ := h3
  obtain rfl : 0 = g := Option.some.inj ((show Tryd.prog.globalNamed "unicode/utf8.first" = some 0 by kernel_rfl).symm.trans hg)
  obtain rfl : 82 = t := Option.some.inj ((show (Tryd.prog.globals[0]?).map (·.type) = some 82 by kernel_rfl).symm.trans hty)
  have hcs := Lib.cells_of_tab Tryd.underlying82 Tryd.underlying5 g_cells5 g_cells82 hd
  rw [World.var?_cell hg hvar c, ← Array.getElem?_toList, hcs, ← ft_is c hc]
  simp [Lib.firstTab, hc]
theorem Tabs.two {w : World} (h : Tabs w) : 2 ≤ w.heap.size := World.block_lt_of_cell? _ _ (h.lo 0 (by omega))

theorem gram_every (p : Option Addr) (n c : Nat) (xs : List Int) (w : World) (hx : xs.length = n) (hnc : n ≤ c) (hp : p = none → c = 0) (hr : ∀ x ∈ xs, 0 ≤ x ∧ x < 256) (hB : Lib.BytesIn w p n xs) (hT : Tabs w) :
    Calls Tryd.prog 3 #[.slice p n c] w fun e w' => e = .returned (.bool true) ∧ Below w.heap.size w w' := by
  by_cases hn : 1048576 < n
  · exact gram_big p n c w hn
  have hInB : InB xs := fun i => by
    by_cases hi : i < xs.length
    · have h := hr (xs[i]'hi) (List.getElem_mem hi)
      rw [List.getD_eq_getElem?_getD, List.getElem?_eq_getElem hi]
      exact h
    · rw [List.getD_eq_getElem?_getD, List.getElem?_eq_none (by omega)]
      exact ⟨Int.le_refl _, by decide⟩
  cases p with
  | none =>
    obtain rfl := hp rfl
    obtain rfl : n = 0 := by omega
    obtain rfl : xs = [] := List.eq_nil_of_length_eq_zero hx
    refine gram_law none none 0 0 0 [] w (by omega) ((clone_nil w).mono fun e w1 ⟨he, hw⟩ => ⟨he, ?_⟩)
    subst hw
    exact ⟨Below.refl _ _, Nat.le_refl _, by omega, rfl, hInB, fun i hi => by omega, (by
      have : decR [] (some 0) = none := by decide
      rw [this]
      exact mdec_nil _), hT, hT.two⟩
  | some a =>
    refine gram_law (some a) (some ⟨w.heap.size, 0, none⟩) n c n xs w (by omega) ((clone_some a n c xs w (by omega) hx (fun i hi => by
      obtain ⟨b, o, e, hc⟩ := hB (by omega)
      obtain rfl := Option.some.inj e
      rw [add_plain]
      exact hc i hi)).mono fun e w1 ⟨he, ho, hb⟩ => ⟨he, ?_⟩)
    have hcell : ∀ i, i < n → w1.cell? ⟨w.heap.size, i, none⟩ = some (.int .u8 (xs.getD i 0)) := fun i hi => by
      rw [ho.cellAt i (by omega), List.getElem?_map, List.getElem?_eq_getElem (by omega), List.getD_eq_getElem?_getD, List.getElem?_eq_getElem (by omega)]
      rfl
    exact ⟨hb, Nat.le_refl _, by omega, hx, hInB, fun i hi => ⟨w.heap.size, rfl, hcell i hi⟩,
      mdec_any w.heap.size 0 n n xs w1 ⟨by omega, Nat.le_refl _, by omega, hx, hInB, fun i hi => ⟨w.heap.size, 0, rfl, by rw [Nat.zero_add]; exact hcell i hi⟩⟩, hT.below hb, Nat.le_trans hT.two hb.size⟩

set_option maxRecDepth 100000 in
theorem gram_lifted (os : Os) (started : os.Started) (H : Type) (enc : TypeId × Value → H) :
    ReturnsInHanded {} Tryd.checked os 3 .any (fun w args => (Rows.fnReadDecisionMatchesGrammarModelSpec.pre enc Tryd.prog Tryd.f3 [] false w args ∧ laidMetH Tryd.prog Rows.fnReadDecisionMatchesGrammarModelRow.laid w) ∧ sizedMet enc Tryd.prog Tryd.f3 (OpenSpec.ofChange Rows.fnReadDecisionMatchesGrammarModelSpec) false w args)
      (Rows.fnReadDecisionMatchesGrammarModelSpec.post enc Tryd.prog Tryd.f3 false true false false) := by
  refine returnsInHanded_of_change_and (C := Tryd.checked) (X := fun w _ => laidMetH Tryd.prog Rows.fnReadDecisionMatchesGrammarModelRow.laid w) (fun _ _ _ hh h => h.of_heap hh) g_own started (by kernel_rfl) Tryd.func3
    (ChangeSpec.witness_shaped (enc := enc) (C := Tryd.checked) (os := os) (X := fun w _ => laidMetH Tryd.prog Rows.fnReadDecisionMatchesGrammarModelRow.laid w) false (World.laidAll Tryd.prog os Rows.fnReadDecisionMatchesGrammarModelRow.laid) #[.slice none 0 0] 8 (World.laidAll_os _ _ _)
      (World.shaped_of_ZipB (by kernel_rfl) (by kernel_rfl)) (by kernel_rfl) (by kernel_rfl) (by kernel_rfl)
      (by rw [MakeChecks.laidMetH_plain _ _ _ (by kernel_rfl)]; exact laidMet_laidAll _ (by kernel_rfl) (by kernel_rfl))) ?_
  intro W base args ds gs before hval0 hW _ _ hL _
  rw [MakeChecks.laidMetH_plain _ _ _ (by kernel_rfl)] at hL
  have hT := g_tabs rfl hL
  have hval : ∀ (j : Nat) t v, Tryd.f3.params[j]? = some t → args[j]? = some v → Value.okWide Tryd.prog W .any base t v := hval0
  have hW' := hW
  obtain ⟨p, q, hA0, hV, rfl, _, _⟩ := hW
  have hA : DataW.TrodAll enc Tryd.prog W 0 (fun _ => true) true Tryd.f3.params.toList args.toList ds p := hA0
  rw [Tryd.params3] at hA hval
  obtain ⟨v0, d0, rfl, rfl, h0⟩ := trodAll_one hA
  obtain ⟨rfl, rfl⟩ := trodVars_none hV
  obtain ⟨a0, len0, cap0, rfl⟩ := okWide_slice Tryd.underlying22 (hval 0 22 v0 rfl rfl)
  clear hA0 hval0
  simp only [List.append_nil] at hW'
  have hlt : ∀ x ∈ p, x.block < W.heap.size := fun x hx => by simpa using hW'.lt x hx
  obtain ⟨xs, hx, hc0, hB0, _, hr0, hp0⟩ := opened_bytes Tryd.underlying22 Tryd.underlying5 g_cells5 h0
  refine (gram_every a0 len0 cap0 xs W hx hc0 hp0 hr0 hB0 hT).mono fun e W' ⟨he, hnx⟩ => ?_
  subst he
  have harg := Below.trod g_laidOut (by kernel_rfl) (of_decide_eq_true (by kernel_rfl)) h0 hnx hlt
  exact ⟨_, rfl, _, _, _, [], p, [], hW', trodAll_mk1 (shut_bool Tryd.underlying4 _), trodAll_mk1 harg, rfl, hnx.frame _, fun h => by cases h⟩

theorem gram_row : Rows.FnReadDecisionMatchesGrammarModelSaid :=
  OpenClaim.holds_of_wide 3 Tryd.f3 rfl rfl rfl rfl rfl rfl rfl ⟨rfl, rfl, rfl, rfl, rfl⟩ rfl rfl rfl rfl rfl (by kernel_rfl) Tryd.func3 (by kernel_rfl)
    (of_decide_eq_true (by kernel_rfl)) (by unfold Func.isWrapper; first | (rw [if_pos (by decide +kernel)]; kernel_rfl) | (rw [if_neg (by decide +kernel)]; exact ⟨rfl, rfl⟩))
    (fun os started H enc _ => gram_lifted os started H enc)

theorem gram_card : Rows.FnReadDecisionMatchesGrammarModelCardSaid :=
  Claim7.holds_tied_plain_at .later [] [.data, .pinned] true (true, "3df2ce092898f71451aeb25314b57d8c98eed538bc3df776797ab22dd7f2032c") false gram_row (fun _ h => by cases h) (by kernel_rfl) (fun _ h => by cases h) fnReadDecisionMatchesGrammarModel_row_tie rfl ⟨rfl, rfl⟩ (by kernel_rfl) rfl
    (fun f fn hf hfn => by
      obtain rfl : f = 3 := Option.some.inj ((show Tryd.prog.funcNamed Tryd.f3.name = some 3 by kernel_rfl).symm.trans hf) |>.symm
      obtain rfl : fn = Tryd.f3 := (Option.some.inj (Tryd.func3.symm.trans hfn)).symm
      exact ⟨by kernel_rfl, fun j t ht => by
        rw [Tryd.params3] at ht
        have hm : t ∈ [22] := by simpa using Array.mem_of_getElem? ht
        have hall : ([22].all fun u => !Tryd.prog.wantsStandIn u) = true := by kernel_rfl
        exact (show Tryd.prog.wantsStandIn t = false by simpa using List.all_eq_true.1 hall t hm)⟩)
    (by kernel_rfl)
end Go.Proofs.Qxb6605662aDoor
