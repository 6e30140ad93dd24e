import Derived.Test.Qxb6605662aDoorE10
import Derived.Test.Qxb6605662aDoorTie
import Derived.Test.Qxb6605662aDoorCards
import Derived.ProofKit
import Derived.OpenShut
import Derived.LaidMore
import Derived.Lay
import Derived.SevenTiedAt
import Derived.Stop.Joined
import Derived.Stop.LaidErr
import Derived.Lib.SlBytesRowKit
import Derived.Lib.LaidU8
import Derived.ChangeMaps5
namespace Go.Proofs.Qxb6605662aDoor
open Go.ChangeShapes Go.WideShapes Go.ChangeAt Go.RowKit Go.ChangeMaps

theorem rt_own : ownKnob Tryd.prog.godebug = none := by kernel_rfl
theorem rt_laidOut : laidOutB Tryd.prog = true := by kernel_rfl
theorem rt_cells5 : Tryd.prog.cellsOf 5 = 1 := by kernel_rfl
theorem rt_cells82 : Tryd.prog.cellsOf 82 = 256 := by kernel_rfl
theorem rt_cells84 : Tryd.prog.cellsOf 84 = 2 := by kernel_rfl
theorem rt_first_is : Rows.laid_unicode_utf8_first = Lib.firstData := by kernel_rfl
theorem rt_accept_is : (Rows.laid_unicode_utf8_acceptRanges : DataW Unit) = Lib.acceptData := by kernel_rfl
theorem rt_ft_is : ∀ i, i < 256 → ((Lib.firstT i : Nat) : Int) = ft i := by
  have h : ((List.range 256).all fun i => decide (((Lib.firstT i : Nat) : Int) = ft i)) = true := by decide +kernel
  exact fun i hi => of_decide_eq_true (List.all_eq_true.1 h i (List.mem_range.2 hi))
theorem rt_acc_is : ∀ j, j < 16 → ((Lib.accLo j : Nat) : Int) = aLo j ∧ ((Lib.accHi j : Nat) : Int) = aHi j := by
  have h : ((List.range 16).all fun j => decide (((Lib.accLo j : Nat) : Int) = aLo j ∧ ((Lib.accHi j : Nat) : Int) = aHi j)) = true := by decide +kernel
  exact fun j hj => of_decide_eq_true (List.all_eq_true.1 h j (List.mem_range.2 hj))

/-- what the two listed tables hold -/
theorem rt_tabs {w : World} {l : List (String × DataW Unit)} (hl : l = [("unicode/utf8.acceptRanges", Rows.laid_unicode_utf8_acceptRanges), ("unicode/utf8.first", Rows.laid_unicode_utf8_first)]) (h : laidMet Tryd.prog l w) : Tabs w := by
  subst hl
  have h3 := Lib.laidMet.reads h (n := "unicode/utf8.first") (d := Rows.laid_unicode_utf8_first) (List.mem_cons_of_mem _ (List.mem_singleton.2 rfl))
  have h4 := Lib.laidMet.reads h (n := "unicode/utf8.acceptRanges") (d := Rows.laid_unicode_utf8_acceptRanges) (List.mem_cons_self ..)
  rw [rt_first_is] at h3
  rw [rt_accept_is] at h4
  have key : ∀ i, i < 16 → w.cell? ⟨1, 2 * i, none⟩ = some (.int .u8 (aLo i)) ∧ w.cell? ⟨1, 2 * i + 1, none⟩ = some (.int .u8 (aHi i)) := by
    intro i hi
    obtain ⟨g, t, cs, fuel, p, hg, hty, hvar, hd⟩ := h4
    obtain rfl : 1 = g := Option.some.inj ((show Tryd.prog.globalNamed "unicode/utf8.acceptRanges" = some 1 by kernel_rfl).symm.trans hg)
    obtain rfl : 85 = t := Option.some.inj ((show (Tryd.prog.globals[1]?).map (·.type) = some 85 by kernel_rfl).symm.trans hty)
    obtain ⟨fuel', d, q, hdi, he⟩ := Lib.array_elem Tryd.underlying85 hd i hi
    simp only [List.getElem?_map, List.getElem?_range hi, Option.map_some, Option.some.injEq] at hdi
    subst hdi
    rw [rt_cells84] at he
    have hcs := Lib.ints_of_struct Tryd.underlying84 (fun j f hj => by
      match j, hj with
      | 0, hj => simp at hj; subst hj; exact ⟨Tryd.underlying5, rfl, rt_cells5⟩
      | 1, hj => simp at hj; subst hj; exact ⟨Tryd.underlying5, rfl, rt_cells5⟩
      | j + 2, hj => simp at hj) (by rw [rt_cells84]; rfl) he
    have e0 := congrArg (·[0]?) hcs
    have e1 := congrArg (·[1]?) hcs
    simp only [List.getElem?_take, List.getElem?_drop] at e0 e1
    rw [← (rt_acc_is i hi).1, ← (rt_acc_is i hi).2]
    constructor
    · rw [World.var?_cell hg hvar (2 * i), ← Array.getElem?_toList]
      simpa [Nat.mul_comm] using e0
    · rw [World.var?_cell hg hvar (2 * i + 1), ← Array.getElem?_toList]
      simpa [Nat.mul_comm] using e1
  refine ⟨fun c hc => ?_, fun j hj => (key j hj).1, fun j hj => (key j hj).2⟩
  obtain ⟨g, t, cs, fuel, p, hg, hty, hvar, hd⟩ := h3
  obtain rfl : 0 = g := Option.some.inj ((show Tryd.prog.globalNamed "unicode/utf8.first" = some 0 by kernel_rfl).symm.trans hg)
  obtain rfl : 82 = t := Option.some.inj ((show (Tryd.prog.globals[0]?).map (·.type) = some 82 by kernel_rfl).symm.trans hty)
  have hcs := Lib.cells_of_tab Tryd.underlying82 Tryd.underlying5 rt_cells5 rt_cells82 hd
  rw [World.var?_cell hg hvar c, ← Array.getElem?_toList, hcs, ← rt_ft_is c hc]
  simp [Lib.firstTab, hc]
theorem Tabs.rt_two {w : World} (h : Tabs w) : 2 ≤ w.heap.size := World.block_lt_of_cell? _ _ (h.lo 0 (by omega))

theorem rt_cells25 : Tryd.prog.cellsOf 25 = 1 := by kernel_rfl
theorem u64_of_wf {x : Int} (h : (Lit.int .u64 x).wf = true) : 0 ≤ x ∧ x < 18446744073709551616 := by
  have h1 : IntKind.u64.min = 0 := rfl
  have h2 : IntKind.u64.max = 18446744073709551615 := rfl
  simp only [Lit.wf, Bool.and_eq_true, decide_eq_true_eq] at h
  omega
theorem opened_u64 {H : Type} {enc : TypeId × Value → H} {W : World} {a0 : Option Addr} {len cap : Nat} {d0 : DataW H} {p : List MemPlace}
    (h0 : DataW.Trod enc Tryd.prog W 0 (fun _ => true) true 26 (.slice a0 len cap) d0 p) :
    ∃ us : List Int, us.length = len ∧ len ≤ 9223372036854775807 ∧ NumsIn W a0 len us ∧ (∀ x ∈ us, 0 ≤ x ∧ x < 18446744073709551616) ∧ (a0 = none → len = 0 ∧ cap = 0) := by
  obtain ⟨fuel, hf⟩ := h0
  rcases open_ints Tryd.underlying26 Tryd.underlying25 rt_cells25 hf with ⟨hcs, hx⟩ | ⟨a, len', cap', zs, hcs, _, hl, hm, hz, hx, hcell, hwz⟩
  · simp [Value.cells] at hcs
    obtain ⟨rfl, rfl, rfl⟩ := hcs
    exact ⟨[], rfl, by omega, fun h => absurd h (Nat.lt_irrefl 0), (fun _ h => by cases h), fun _ => ⟨rfl, rfl⟩⟩
  · simp [Value.cells] at hcs
    obtain ⟨rfl, rfl, rfl⟩ := hcs
    simp only [if_true] at hz
    unfold maxLen at hm
    refine ⟨zs.take len, by simp; omega, by omega, fun hn => ?_, (fun x hx' => u64_of_wf (hwz x (List.mem_of_mem_take hx'))), fun h => by cases h⟩
    have hc : ∀ i, i < len → W.cell? (a.add i) = some (.int .u64 ((zs.take len).getD i 0)) := fun i hi => by rw [hcell i (by omega)]; simp [List.getD, hi]
    obtain ⟨b, o, s⟩ := a
    obtain rfl : s = none := by simpa [Addr.add] using World.cell?_spot (hc 0 hn)
    exact ⟨b, o, rfl, fun i hi => by rw [← add_plain]; exact hc i hi⟩

set_option maxRecDepth 100000 in
theorem rt_lifted (os : Os) (started : os.Started) (H : Type) (enc : TypeId × Value → H) :
    ReturnsInHanded {} Tryd.checked os 4 .any (fun w args => (Rows.fnReadDecisionRoundTripSpec.pre enc Tryd.prog Tryd.f4 [] false w args ∧ laidMetH Tryd.prog Rows.fnReadDecisionRoundTripRow.laid w) ∧ sizedMet enc Tryd.prog Tryd.f4 (OpenSpec.ofChange Rows.fnReadDecisionRoundTripSpec) false w args)
      (Rows.fnReadDecisionRoundTripSpec.post enc Tryd.prog Tryd.f4 false true false false) := by
  refine returnsInHanded_of_change_and (C := Tryd.checked) (X := fun w _ => laidMetH Tryd.prog Rows.fnReadDecisionRoundTripRow.laid w) (fun _ _ _ hh h => h.of_heap hh) rt_own started (by kernel_rfl) Tryd.func4
    (ChangeSpec.witness_shaped (enc := enc) (C := Tryd.checked) (os := os) (X := fun w _ => laidMetH Tryd.prog Rows.fnReadDecisionRoundTripRow.laid w) false (World.laidAll Tryd.prog os Rows.fnReadDecisionRoundTripRow.laid) #[.string ⟨#[]⟩, .string ⟨#[]⟩, .string ⟨#[]⟩, .int .u64 0, .slice none 0 0, .int .u8 0] 8 (World.laidAll_os _ _ _)
      (World.shaped_of_ZipB (by kernel_rfl) (by kernel_rfl)) (by kernel_rfl) (by kernel_rfl) (by kernel_rfl)
      (by rw [MakeChecks.laidMetH_plain _ _ _ (by kernel_rfl)]; exact laidMet_laidAll _ (by kernel_rfl) (by kernel_rfl))) ?_
  intro W base args ds gs before hval0 hW _ _ hL _
  rw [MakeChecks.laidMetH_plain _ _ _ (by kernel_rfl)] at hL
  have hT := rt_tabs rfl hL
  have hval : ∀ (j : Nat) t v, Tryd.f4.params[j]? = some t → args[j]? = some v → Value.okWide Tryd.prog W .any base t v := hval0
  have hW' := hW
  obtain ⟨p, q, hA0, hV, rfl, _, _⟩ := hW
  have hA : DataW.TrodAll enc Tryd.prog W 0 (fun _ => true) true Tryd.f4.params.toList args.toList ds p := hA0
  rw [Tryd.params4] at hA hval
  obtain ⟨v0, vs0, d0, ds0, p0, q0, ha0, rfl, rfl, t0, r0⟩ := trodAll_cons hA
  obtain ⟨v1, vs1, d1, ds1, p1, q1, rfl, rfl, rfl, t1, r1⟩ := trodAll_cons r0
  obtain ⟨v2, vs2, d2, ds2, p2, q2, rfl, rfl, rfl, t2, r2⟩ := trodAll_cons r1
  obtain ⟨v3, vs3, d3, ds3, p3, q3, rfl, rfl, rfl, t3, r3⟩ := trodAll_cons r2
  obtain ⟨v4, vs4, d4, ds4, p4, q4, rfl, rfl, rfl, t4, r4⟩ := trodAll_cons r3
  obtain ⟨v5, vs5, d5, ds5, p5, q5, rfl, rfl, rfl, t5, r5⟩ := trodAll_cons r4
  obtain ⟨rfl, rfl, rfl⟩ := trodAll_nil r5
  obtain rfl : args = #[v0, v1, v2, v3, v4, v5] := by cases args; simp_all
  obtain ⟨rfl, rfl⟩ := trodVars_none hV
  obtain ⟨tx, rfl, rfl, rfl, hz0⟩ := open_string Tryd.underlying9 (hval 0 9 v0 rfl rfl) t0
  obtain ⟨co, rfl, rfl, rfl, hz1⟩ := open_string Tryd.underlying9 (hval 1 9 v1 rfl rfl) t1
  obtain ⟨ci, rfl, rfl, rfl, hz2⟩ := open_string Tryd.underlying9 (hval 2 9 v2 rfl rfl) t2
  obtain ⟨st, rfl, rfl, rfl, wst⟩ := open_int Tryd.underlying25 (hval 3 25 v3 rfl rfl) t3
  obtain ⟨a0, len0, cap0, rfl⟩ := okWide_slice Tryd.underlying26 (hval 4 26 v4 rfl rfl)
  obtain ⟨lay, rfl, rfl, rfl, wla⟩ := open_int Tryd.underlying5 (hval 5 5 v5 rfl rfl) t5
  clear hA0 hval0
  simp only [List.append_nil, List.nil_append] at hW'
  have hlt : ∀ x ∈ p4, x.block < W.heap.size := fun x hx => by simpa using hW'.lt x hx
  have hst := u64_of_wf wst
  have hla : 0 ≤ lay ∧ lay < 256 := by
    have h1 : IntKind.u8.min = 0 := rfl
    have h2 : IntKind.u8.max = 255 := rfl
    simp only [Lit.wf, Bool.and_eq_true, decide_eq_true_eq] at wla
    omega
  obtain ⟨us, hx, hl4, hN, hu, hp⟩ := opened_u64 t4
  unfold maxLen at hz0 hz1 hz2
  refine (rt_every tx co ci st lay len0 cap0 us a0 W hz0 hz1 hz2 hl4 ⟨hst.1, by omega⟩ hla hx hp hu hN hT).mono fun e W' ⟨he, hnx⟩ => ?_
  subst he
  have harg := Below.trod rt_laidOut (by kernel_rfl) (of_decide_eq_true (by kernel_rfl)) t4 hnx hlt
  have hargs := trodAll_cons_mk (shut_string (s := tx) Tryd.underlying9 hz0) (trodAll_cons_mk (shut_string (s := co) Tryd.underlying9 hz1) (trodAll_cons_mk (shut_string (s := ci) Tryd.underlying9 hz2) (trodAll_cons_mk (shut_int (n := st) Tryd.underlying25 wst) (trodAll_cons_mk harg (trodAll_mk1 (shut_int (n := lay) Tryd.underlying5 wla))))))
  simp only [List.nil_append, List.append_nil] at hargs
  exact ⟨_, rfl, _, _, _, [], p4, [], hW', trodAll_mk1 (shut_bool Tryd.underlying4 _), hargs, rfl, hnx.frame _, fun h => by cases h⟩

theorem rt_row : Rows.FnReadDecisionRoundTripSaid :=
  OpenClaim.holds_of_wide 4 Tryd.f4 rfl rfl rfl rfl rfl rfl rfl ⟨rfl, rfl, rfl, rfl, rfl⟩ rfl rfl rfl rfl rfl (by kernel_rfl) Tryd.func4 (by kernel_rfl)
    (of_decide_eq_true (by kernel_rfl)) (by unfold Func.isWrapper; first | (rw [if_pos (by decide +kernel)]; kernel_rfl) | (rw [if_neg (by decide +kernel)]; exact ⟨rfl, rfl⟩))
    (fun os started H enc _ => rt_lifted os started H enc)

theorem rt_card : Rows.FnReadDecisionRoundTripCardSaid :=
  Claim7.holds_tied_plain_at .later [] [.data, .pinned] true (true, "3df2ce092898f71451aeb25314b57d8c98eed538bc3df776797ab22dd7f2032c") false rt_row (fun _ h => by cases h) (by kernel_rfl) (fun _ h => by cases h) fnReadDecisionRoundTrip_row_tie rfl ⟨rfl, rfl⟩ (by kernel_rfl) rfl
    (fun f fn hf hfn => by
      obtain rfl : f = 4 := Option.some.inj ((show Tryd.prog.funcNamed Tryd.f4.name = some 4 by kernel_rfl).symm.trans hf) |>.symm
      obtain rfl : fn = Tryd.f4 := (Option.some.inj (Tryd.func4.symm.trans hfn)).symm
      exact ⟨by kernel_rfl, fun j t ht => by
        rw [Tryd.params4] at ht
        have hm : t ∈ [9, 9, 9, 25, 26, 5] := by simpa using Array.mem_of_getElem? ht
        have hall : ([9, 9, 9, 25, 26, 5].all fun u => !Tryd.prog.wantsStandIn u) = true := by kernel_rfl
        exact (show Tryd.prog.wantsStandIn t = false by simpa using List.all_eq_true.1 hall t hm)⟩)
    (by kernel_rfl)
end Go.Proofs.Qxb6605662aDoor
