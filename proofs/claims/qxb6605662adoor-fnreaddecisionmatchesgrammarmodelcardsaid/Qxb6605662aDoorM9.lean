import Derived.Test.Qxb6605662aDoorM8
import Derived.Deep.WholeRow
set_option linter.unusedVariables false
set_option linter.unusedSimpArgs false
namespace Go.Proofs.Qxb6605662aDoor
open Go.RowKit

theorem same_some' (g1 g2 o1 o2 c1 c2 : Nat) (l : List Int) (w : World) (hl : l.length ≤ 9223372036854775807)
    (h1 : ∀ i, i < l.length → w.cell? ⟨g1, o1 + i, none⟩ = some (.int .u64 (l.getD i 0))) (p2 : Option Addr) (h2 : ∀ i, i < l.length → ∃ b o, p2 = some ⟨b, o, none⟩ ∧ w.cell? ⟨b, o + i, none⟩ = some (.int .u64 (l.getD i 0))) :
    Calls Tryd.prog 13 #[.slice (some ⟨g1, o1, none⟩) l.length c1, .slice p2 l.length c2, .bool true] w fun e w' => e = .returned (.bool true) ∧ ∃ q, w' = w.drewN q := by
  have H1 : Hid (∀ i, i < l.length → w.cell? ⟨g1, o1 + i, none⟩ = some (.int .u64 (l.getD i 0))) := h1
  have H2 : Hid (∀ i, i < l.length → ∃ b o, p2 = some ⟨b, o, none⟩ ∧ w.cell? ⟨b, o + i, none⟩ = some (.int .u64 (l.getD i 0))) := h2
  obtain ⟨n, HN⟩ : ∃ n, Hid (l.length = n) := ⟨_, rfl⟩
  rw [HN.out] at H1 H2 hl
  rw [HN.out]
  clear h1 h2
  have q26 : ∀ (w : World) (a : Option Addr) (n c n' c' : Nat), (binOp .eql 26 (.slice a n c) (.slice none n' c')).run Tryd.prog w = .ok (.bool a.isNone) w := fun w a n c n' c' => Lib.run_eql_slice_nil w _ _ a n c n' c' Tryd.underlying26
  go_enter Tryd.func13, Tryd.ntmps13
  go_wp2
  go_loopw [7] (fun i wr => ∃ (j : Nat) (q : Nat), j ≤ n ∧ i = .int .i64 j ∧ Hid (wr = w.drewN q)) (fun i _ => n - (intOf i).toNat)
  case atStart => exact ⟨0, 0, Nat.zero_le _, rfl, rfl⟩
  case round =>
    obtain ⟨j, q, hj, rfl, HW⟩ := hrel
    by_cases hjn : j < n
    · have hji : (j : Int) < n := by omega
      obtain ⟨b, o, hp, hc2⟩ := H2.out j hjn
      have hc1 := H1.out j hjn
      subst hp
      obtain ⟨y, HY⟩ : ∃ y, Hid (l.getD j 0 = y) := ⟨_, rfl⟩
      rw [HY.out] at hc1 hc2
      have d1 : wr.cell? ⟨g1, o1 + j, none⟩ = some (.int .u64 y) := by rw [HW.out]; exact hc1
      have d2 : wr.cell? ⟨b, o + j, none⟩ = some (.int .u64 y) := by rw [HW.out]; exact hc2
      clear hc1 hc2
      go_wp2
      go_quiet (fail)
      go_wp2
      go_round
      case rel => exact ⟨j + 1, q + nq, by omega, by go_num, by show _ = _; rw [HW.out, World.drewN_drewN]⟩
      case measure => simp [intOf]; omega
    · have hji : ¬ (j : Int) < n := by omega
      go_wp2
      go_ret
      exact ⟨rfl, q, HW.out⟩

/-! ### the two readings of the list of numbers are one -/
theorem UnV.at {w : World} {B : Nat} {l : List Int} {v : Value} (h : UnV w B (some l) v) : ∃ g c, v = .slice (some ⟨g, 0, none⟩) l.length c ∧ (∀ i, i < l.length → w.cell? ⟨g, i, none⟩ = some (.int .u64 (l.getD i 0))) ∧ l.length ≤ 9223372036854775807 := by
  obtain ⟨⟨g, c, rfl⟩, ho⟩ := h
  refine ⟨g, c, rfl, own_cells ho, ?_⟩
  rcases ho.2 with ⟨h, _⟩ | ⟨g', cap, cur, h1, h2, h3, h4, h5, _⟩
  · cases h
  · unfold maxLen at h5
    omega
theorem same_any {w w1 w2 : World} {B1 B2 : Nat} {un : Option (List Int)} {u1 u2 : Value} (h1 : UnV w1 B1 un u1) (h2 : UnV w2 B2 un u2) (k1 : ∀ a v, w1.cell? a = some v → B1 ≤ a.block → w.cell? a = some v) (k2 : ∀ a v, w2.cell? a = some v → B2 ≤ a.block → w.cell? a = some v) (wr : World) (hw : ∃ q, wr = w.drewN q) :
    Calls Tryd.prog 13 #[u1, u2, .bool un.isSome] wr fun e w' => e = .returned (.bool true) ∧ ∃ q, w' = wr.drewN q := by
  obtain ⟨q, rfl⟩ := hw
  cases un with
  | none =>
    obtain rfl : u1 = .slice none 0 0 := h1
    exact same_none u2 _
  | some l =>
    have b1 : ∀ g c, u1 = .slice (some ⟨g, 0, none⟩) l.length c → B1 ≤ g := fun g c e => by
      have := h1.2.lt g (by rw [e]; rfl)
      exact this.1
    have b2 : ∀ g c, u2 = .slice (some ⟨g, 0, none⟩) l.length c → B2 ≤ g := fun g c e => by
      have := h2.2.lt g (by rw [e]; rfl)
      exact this.1
    obtain ⟨g1, c1, e1, d1, hl⟩ := h1.at
    obtain ⟨g2, c2, e2, d2, _⟩ := h2.at
    have b1' := b1 g1 c1 e1
    have b2' := b2 g2 c2 e2
    subst e1
    subst e2
    exact same_some' g1 g2 0 0 c1 c2 l _ hl (fun i hi => by rw [Nat.zero_add]; exact k1 _ _ (d1 i hi) b1') (some ⟨g2, 0, none⟩) (fun i hi => ⟨g2, 0, rfl, by rw [Nat.zero_add]; exact k2 _ _ (d2 i hi) b2'⟩)

/-! ### utf8.Valid serves -/
theorem vok_of {w : World} {R n c b o : Nat} {xs : List Int} (hn : n ≤ 2147483648) (hcap : n ≤ c) (hcb : c ≤ 9223372036854775807) (hx : xs.length = n) (hb : InB xs) (hD : Dat w (some ⟨b, o, none⟩) n xs R) (hT : Tabs w) (hR : 2 ≤ R) : VOK w R n c (some ⟨b, o, none⟩) xs := by
  intro w1 b' o' s q hg hp hsq hqn hasc
  simp only [Option.some.injEq, Addr.mk.injEq, and_true] at hp
  obtain ⟨rfl, rfl⟩ := hp
  have hlt : s < q := by
    rcases Nat.lt_or_ge s q with h | h
    · exact h
    · obtain rfl : s = q := by omega
      unfold sub asc at hasc
      simp at hasc
  refine valid_any b (o + s) (q - s) (c - s) (sub xs s q) w1 (by omega) (by omega) (by omega) (by omega) (sub_length xs s q hsq (by omega)) (sub_InB hb s q) (fun i hi => ?_) (hT.keep fun a v hc ha => hg.cell hc (by simp; omega))
  obtain ⟨b2, o2, hp2, _, hc⟩ := hD.grown hg (s + i) (by omega)
  simp only [Option.some.injEq, Addr.mk.injEq, and_true] at hp2
  obtain ⟨rfl, rfl⟩ := hp2
  rw [sub_at xs s q i hi, Nat.add_assoc]
  exact hc
set_option maxHeartbeats 4000000 in
set_option maxRecDepth 100000 in
theorem mdec_nil (w : World) : Calls Tryd.prog 8 #[.slice none 0 0] w fun e w' => MdOut none w e w' := by
  have hM : MD w none 0 0 [] := ⟨by omega, by omega, by omega, rfl, fun i => by simp, fun i hi => by omega⟩
  obtain ⟨M0, HM0⟩ : ∃ M0, Hid (w.heap.size = M0) := ⟨_, rfl⟩
  have hM0w : w.heap.size ≤ M0 := by rw [HM0.out]; exact Nat.le_refl _
  obtain ⟨w1, HW1⟩ : ∃ w1, Hid ((w.alloc (Obj.cells #[.bool false, .int .i64 0, .string ⟨#[]⟩, .string ⟨#[]⟩, .string ⟨#[]⟩, .int .u64 0, .slice none 0 0, .bool false] 28)).alloc (Obj.cells #[.bool false, .int .i64 0, .string ⟨#[]⟩, .string ⟨#[]⟩, .string ⟨#[]⟩, .int .u64 0, .slice none 0 0, .bool false] 28) = w1) := ⟨_, rfl⟩
  have HI : Hid (MP w M0 w1) := by
    rw [← HW1.out, ← HM0.out]
    refine ⟨?_, heap_alloc2_new w _ _, ((Below.refl _ _).alloc (Nat.le_refl _) _).alloc (by simp) _⟩
    exact (heap_alloc_old _ _ (by simp)).trans (heap_alloc_new w _)
  have hc := tok_any none 0 0 [] 0 w1 (hM.below HI.out.bl) (Nat.le_refl _)
  have HC : Hid (Calls Tryd.prog 24 #[.slice none 0 0, .int .i64 0] w1 fun x w' => x = .returned (.tuple #[.int .i64 9, .int .i64 0, .int .i64 0, .int .i64 0]) ∧ w' = w1) := hc
  clear hc hM
  go_enter Tryd.func8, Tryd.ntmps8
  go_wp2_with fail
  rw [HW1.out, HM0.out]
  refine HC.out.mono ?_
  rintro x0 w0 ⟨rfl, hw0⟩; obtain rfl := hw0.symm
  have HMH := Hid.mk' HI.out.m0.row0
  go_wp2_with (with_reducible refine wpList_store_row (by with_unfolding_all rfl) 28 _ _ (by with_unfolding_all rfl) M0 _ (by with_unfolding_all rfl) (by with_unfolding_all rfl) 28 _ HMH.out (by kernel_rfl) (by with_unfolding_all rfl) (by with_unfolding_all rfl) ?_)
  (try simp only [Exit.inBlock, Exit.then])
  refine bodyPost_ret (results_cell_row (p := 2) (ty := 28) (by kernel_rfl) _ _ M0 28 _ (0, 0) _ (by rfl) (HI.out.m0.row (.bool false) (.int .i64 0) (.string ⟨#[]⟩) (.string ⟨#[]⟩) (.string ⟨#[]⟩) (.int .u64 0) (.slice none 0 0) (.bool false)) Tryd.underlying28 rfl (by kernel_rfl)) rfl ?_
  exact ⟨below_row HI.out.bl hM0w _, rfl⟩

theorem zzg_small (p : Option Addr) (n c : Nat) (w : World) (hn : n ≤ 1048576) : Calls Tryd.prog 6 #[.slice p n c] w fun e w' => e = .returned (.bool true) ∧ w' = w := by
  go_enter Tryd.func6, Tryd.ntmps6
  go_wp2
  go_ret
  exact ⟨rfl, rfl⟩
theorem zzg_big (p : Option Addr) (n c : Nat) (w : World) (h : 1048576 < n) : Calls Tryd.prog 6 #[.slice p n c] w fun e w' => e = .returned (.bool false) ∧ w' = w := by
  have hi : (1048576 : Int) < (n : Int) := by omega
  go_enter Tryd.func6, Tryd.ntmps6
  go_wp2
  go_ret
  exact ⟨rfl, rfl⟩
theorem gram_big (p : Option Addr) (n c : Nat) (w : World) (hn : 1048576 < n) :
    Calls Tryd.prog 3 #[.slice p n c] w fun e w' => e = .returned (.bool true) ∧ Below w.heap.size w w' := by
  have HB : Hid (Calls Tryd.prog 6 #[.slice p n c] w fun e w' => e = .returned (.bool false) ∧ w' = w) := zzg_big p n c w hn
  go_enter Tryd.func3, Tryd.ntmps3
  go_wp2_with fail
  refine HB.out.mono ?_
  rintro e w' ⟨rfl, hw⟩
  obtain rfl := hw.symm
  go_wp2
  go_ret
  exact ⟨rfl, Below.refl _ _⟩
structure GC (dp : Option Addr) (n cc : Nat) (xs : List Int) (w w1 : World) : Prop where
  bl : Below w.heap.size w w1
  hcap : n ≤ cc
  hcb : cc ≤ 9223372036854775807
  hx : xs.length = n
  hb : InB xs
  cells : ∀ i, i < n → ∃ g, dp = some ⟨g, 0, none⟩ ∧ w1.cell? ⟨g, i, none⟩ = some (.int .u8 (xs.getD i 0))
  model : Calls Tryd.prog 8 #[.slice dp n cc] w1 fun e w' => MdOut (decR xs (some 0)) w1 e w'
  tabs : Tabs w1
  two : 2 ≤ w1.heap.size
set_option maxHeartbeats 4000000 in
set_option maxRecDepth 100000 in
theorem gram_law (p dp : Option Addr) (n c cc : Nat) (xs : List Int) (w : World) (hn : n ≤ 1048576)
    (hcl : Calls Tryd.prog 7 #[.slice p n c] w fun e w1 => e = .returned (.slice dp n cc) ∧ GC dp n cc xs w w1) :
    Calls Tryd.prog 3 #[.slice p n c] w fun e w' => e = .returned (.bool true) ∧ Below w.heap.size w w' := by
  have HCL : Hid (Calls Tryd.prog 7 #[.slice p n c] w fun e w1 => e = .returned (.slice dp n cc) ∧ GC dp n cc xs w w1) := hcl
  clear hcl
  go_enter Tryd.func3, Tryd.ntmps3
  go_wp2_with fail
  refine (zzg_small p n c w hn).mono ?_
  rintro e w0 ⟨rfl, hw⟩; obtain rfl := hw.symm
  go_wp2_with fail
  refine HCL.out.mono ?_
  rintro e w1 ⟨rfl, hG⟩
  have HG : Hid (GC dp n cc xs w w1) := hG
  have HMO : Hid (Calls Tryd.prog 8 #[.slice dp n cc] w1 fun e w' => MdOut (decR xs (some 0)) w1 e w') := hG.model
  clear hG HCL
  obtain ⟨RES, HRES⟩ : ∃ RES, Hid (decR xs (some 0) = RES) := ⟨_, rfl⟩
  rw [HRES.out] at HMO
  go_wp2_with fail
  refine HMO.out.mono ?_
  rintro e w2 ⟨hB2, hval⟩
  have HB2 : Hid (Below w1.heap.size w1 w2) := hB2
  clear hB2 HMO
  obtain ⟨M, HM⟩ : ∃ M, Hid (w2.heap.size = M) := ⟨_, rfl⟩
  cases RES with
  | none => as_aux_lemma =>
    obtain rfl := hval
    have HMH : Hid ((w2.alloc (Obj.cells #[.bool false, .int .i64 0, .string ⟨#[]⟩, .string ⟨#[]⟩, .string ⟨#[]⟩, .int .u64 0, .slice none 0 0, .bool false] 28)).heap[M]? = some (.cells #[.bool false, .int .i64 0, .string ⟨#[]⟩, .string ⟨#[]⟩, .string ⟨#[]⟩, .int .u64 0, .slice none 0 0, .bool false] 28 (0, 0))) := by rw [← HM.out]; exact heap_alloc_new w2 _
    go_wp2_with (with_reducible refine wpList_store_row (by with_unfolding_all rfl) 28 _ _ (by with_unfolding_all rfl) w2.heap.size _ (by with_unfolding_all rfl) (by with_unfolding_all rfl) 28 _ (by rw [HM.out]; exact HMH.out) (by kernel_rfl) (by with_unfolding_all rfl) (by with_unfolding_all rfl) ?_)
    obtain ⟨w4, HW4⟩ : ∃ w4, Hid (((w2.alloc (Obj.cells #[.bool false, .int .i64 0, .string ⟨#[]⟩, .string ⟨#[]⟩, .string ⟨#[]⟩, .int .u64 0, .slice none 0 0, .bool false] 28)).setRow w2.heap.size #[.bool false, .int .i64 0, .string ⟨#[]⟩, .string ⟨#[]⟩, .string ⟨#[]⟩, .int .u64 0, .slice none 0 0, .bool false]).alloc (Obj.cells #[.slice dp n cc, .int .i64 0, .bool false, .bool false] 32) = w4) := ⟨_, rfl⟩
    have HB4 : Hid (Below w2.heap.size w2 w4) := by
      rw [← HW4.out, World.setRow_alloc_new]
      exact ((Below.refl _ _).alloc (Nat.le_refl _) _).alloc (by simp) _
    have HM4 : Hid (w4.heap[M]? = some (.cells #[.bool false, .int .i64 0, .string ⟨#[]⟩, .string ⟨#[]⟩, .string ⟨#[]⟩, .int .u64 0, .slice none 0 0, .bool false] 28 (0, 0))) := by
      rw [← HW4.out, World.setRow_alloc_new, ← HM.out]
      exact (heap_alloc_old _ _ (by simp)).trans (heap_alloc_new w2 _)
    have HR4 : Hid (Rd w4 (M + 1) (.slice dp n cc) 0 false false) := by
      rw [← HW4.out, World.setRow_alloc_new, ← HM.out]
      exact heap_alloc2_new w2 _ _
    have HZ4 : Hid (w4.heap.size = M + 2) := by
      show w4.heap.size = M + 2
      rw [← HW4.out, World.setRow_alloc_new, ← HM.out]
      simp
    have HL : Hid (w1.heap.size ≤ M ∧ 2 ≤ M) := by
      have h1 := HB2.out.size
      have h2 := HG.out.two
      rw [HM.out] at h1
      exact ⟨h1, by omega⟩
    have HB14 : Hid (Below w1.heap.size w1 w4) := HB2.out.trans (HB4.out.mono HB2.out.size)
    have HDT : Hid (Dat w4 dp n xs (M + 1)) := fun i hi => by
      obtain ⟨g, e, hc⟩ := HG.out.cells i hi
      have hlt : g < w1.heap.size := World.block_lt_of_cell? _ _ hc
      exact ⟨g, 0, e, by have := HL.out; omega, by rw [Nat.zero_add]; exact (HB14.out.cell (p := ⟨g, i, none⟩) hlt).trans hc⟩
    have HTB : Hid (Tabs w4) := HG.out.tabs.below HB14.out
    have HEN : Hid (En w4 (M + 1) n cc dp xs) := ⟨by omega, HG.out.hcap, HG.out.hcb, HG.out.hx, HDT.out, fun W b o s q hg hp hsq hqn hasc => by
      subst hp
      exact vok_of (by omega) HG.out.hcap HG.out.hcb HG.out.hx HG.out.hb HDT.out HTB.out (by have := HL.out; omega) W b o s q hg rfl hsq hqn hasc⟩
    have hzr := zzread_any (M + 1) n cc dp xs (some 0) false w4 HEN.out (RS.mk_some (Nat.zero_le _) HR4.out)
    rw [HRES.out] at hzr
    have HZR : Hid (Calls Tryd.prog 9 #[.pointer (some ⟨M + 1, 0, none⟩)] w4 fun e w' => DecOut none (M + 1) n cc dp w4 e w') := hzr
    clear hzr HEN HDT HTB
    rw [HW4.out, HM.out]
    refine HZR.out.mono ?_
    rintro e w5 ⟨A', op', ⟨seen, tx, co, ci, st, un⟩, uv, rfl, hS5, hop, hu5, hG5, hres⟩
    obtain ⟨pa, ln, cp, huv⟩ := hu5.form
    subst huv
    have HS5 : Hid (RS w5 (M + 1) dp n cc A' op') := hS5
    have HG5 : Hid (w4.grownBy w5 (some (M + 1))) := hG5
    have HU5 : Hid (UnV w5 w4.heap.size un (.slice pa ln cp)) := hu5
    have HOP : Hid (A' = none ∨ op' = false) := hop
    obtain rfl : A' = none := by cases A' with | none => rfl | some k => cases hres
    clear hS5 hu5 hG5 hop hres HZR
    obtain ⟨D, HD⟩ : ∃ D, Hid (w5.heap.size = D) := ⟨_, rfl⟩
    obtain ⟨w6, HW6⟩ : ∃ w6, Hid ((w5.alloc (Obj.cells #[.string ⟨#[]⟩, .string ⟨#[]⟩, .string ⟨#[]⟩, .int .u64 0, .slice none 0 0] 38)).setRow w5.heap.size #[.string tx, .string co, .string ci, .int .u64 st, .slice pa ln cp] = w6) := ⟨_, rfl⟩
    have HG56 : Hid (w5.grownBy w6 none) := by
      rw [← HW6.out, World.setRow_alloc_new]
      exact World.grownBy_alloc _ _ _
    have HD6 : Hid (Db w6 D tx co ci st (.slice pa ln cp)) := by
      rw [← HW6.out, World.setRow_alloc_new, ← HD.out]
      exact heap_alloc_new w5 _
    have HM6 : Hid (w6.heap[M]? = some (.cells #[.bool false, .int .i64 0, .string ⟨#[]⟩, .string ⟨#[]⟩, .string ⟨#[]⟩, .int .u64 0, .slice none 0 0, .bool false] 28 (0, 0))) := by
      have h4 := HZ4.out
      have h5 := HG5.out.size
      exact (HG56.out.block M (by omega) (by simp)).trans ((HG5.out.block M (by omega) (by simp)).trans HM4.out)
    have HS6 : Hid (RS w6 (M + 1) dp n cc none op') := HS5.out.grown HG56.out (by simp)
    have HB6 : Hid (Below w.heap.size w w6) := by
      have h0 := HG.out.bl
      have h1 : Below w.heap.size w w2 := h0.trans (HB2.out.mono h0.size)
      have h2 : Below w.heap.size w w4 := h1.trans (HB4.out.mono h1.size)
      have hl : w.heap.size ≤ M := Nat.le_trans h0.size HL.out.1
      refine ⟨(HG56.out.os.trans HG5.out.os).trans h2.os, (HG56.out.tape.trans HG5.out.tape).trans h2.tape, (HG56.out.output.trans HG5.out.output).trans h2.output, Nat.le_trans h2.size (Nat.le_trans HG5.out.size HG56.out.size), fun k hk => ?_⟩
      have h4 := HZ4.out
      have h5 := HG5.out.size
      exact (HG56.out.block k (by omega) (by simp)).trans ((HG5.out.block k (by omega) (by simp; omega)).trans (h2.block k hk))
    have HDH : Hid ((w5.alloc (Obj.cells #[.string ⟨#[]⟩, .string ⟨#[]⟩, .string ⟨#[]⟩, .int .u64 0, .slice none 0 0] 38)).heap[w5.heap.size]? = some (.cells #[.string ⟨#[]⟩, .string ⟨#[]⟩, .string ⟨#[]⟩, .int .u64 0, .slice none 0 0] 38 (0, 0))) := heap_alloc_new w5 _
    go_wp2_with (with_reducible refine wpList_store_row (by with_unfolding_all rfl) 38 _ _ (by with_unfolding_all rfl) w5.heap.size _ (by with_unfolding_all rfl) (by with_unfolding_all rfl) 38 _ HDH.out (by kernel_rfl) (by with_unfolding_all rfl) (by with_unfolding_all rfl) ?_)
    rw [HW6.out, HD.out]
    clear HW6 HG56 HDH HS5 HR4
    have m0 := cell_of_row w6 M 0 _ 28 (0, 0) HM6.out
    simp at m0
    have HOF : Hid (∀ q, Calls Tryd.prog 10 #[.pointer (some ⟨M + 1, 0, none⟩)] (w6.drewN q) fun e w' => e = .returned (.bool true) ∧ w' = w6.drewN q) := fun q => zzoff_any (M + 1) n cc dp none op' (w6.drewN q) HS6.out
    go_quiet (first | (go_at_call 10; exact Calls.quiet_of_same (HOF.out _)))
    go_wp2
    go_ret
    exact ⟨rfl, below_drewN HB6.out _⟩
  | some x => as_aux_lemma =>
    obtain ⟨k0, ⟨seen0, tx0, co0, ci0, st0, un0⟩⟩ := x
    obtain ⟨uvm, rfl, hum⟩ := hval
    obtain ⟨pm, lm, cm, rfl⟩ := hum.form
    have HUM : Hid (UnV w2 w1.heap.size un0 (.slice pm lm cm)) := hum
    clear hum
    have HMH : Hid ((w2.alloc (Obj.cells #[.bool false, .int .i64 0, .string ⟨#[]⟩, .string ⟨#[]⟩, .string ⟨#[]⟩, .int .u64 0, .slice none 0 0, .bool false] 28)).heap[M]? = some (.cells #[.bool false, .int .i64 0, .string ⟨#[]⟩, .string ⟨#[]⟩, .string ⟨#[]⟩, .int .u64 0, .slice none 0 0, .bool false] 28 (0, 0))) := by rw [← HM.out]; exact heap_alloc_new w2 _
    go_wp2_with (with_reducible refine wpList_store_row (by with_unfolding_all rfl) 28 _ _ (by with_unfolding_all rfl) w2.heap.size _ (by with_unfolding_all rfl) (by with_unfolding_all rfl) 28 _ (by rw [HM.out]; exact HMH.out) (by kernel_rfl) (by with_unfolding_all rfl) (by with_unfolding_all rfl) ?_)
    obtain ⟨w4, HW4⟩ : ∃ w4, Hid (((w2.alloc (Obj.cells #[.bool false, .int .i64 0, .string ⟨#[]⟩, .string ⟨#[]⟩, .string ⟨#[]⟩, .int .u64 0, .slice none 0 0, .bool false] 28)).setRow w2.heap.size #[.bool true, .int .i64 k0, .string tx0, .string co0, .string ci0, .int .u64 st0, .slice pm lm cm, .bool un0.isSome]).alloc (Obj.cells #[.slice dp n cc, .int .i64 0, .bool false, .bool false] 32) = w4) := ⟨_, rfl⟩
    have HB4 : Hid (Below w2.heap.size w2 w4) := by
      rw [← HW4.out, World.setRow_alloc_new]
      exact ((Below.refl _ _).alloc (Nat.le_refl _) _).alloc (by simp) _
    have HM4 : Hid (w4.heap[M]? = some (.cells #[.bool true, .int .i64 k0, .string tx0, .string co0, .string ci0, .int .u64 st0, .slice pm lm cm, .bool un0.isSome] 28 (0, 0))) := by
      rw [← HW4.out, World.setRow_alloc_new, ← HM.out]
      exact (heap_alloc_old _ _ (by simp)).trans (heap_alloc_new w2 _)
    have HR4 : Hid (Rd w4 (M + 1) (.slice dp n cc) 0 false false) := by
      rw [← HW4.out, World.setRow_alloc_new, ← HM.out]
      exact heap_alloc2_new w2 _ _
    have HZ4 : Hid (w4.heap.size = M + 2) := by
      show w4.heap.size = M + 2
      rw [← HW4.out, World.setRow_alloc_new, ← HM.out]
      simp
    have HL : Hid (w1.heap.size ≤ M ∧ 2 ≤ M) := by
      have h1 := HB2.out.size
      have h2 := HG.out.two
      rw [HM.out] at h1
      exact ⟨h1, by omega⟩
    have HB14 : Hid (Below w1.heap.size w1 w4) := HB2.out.trans (HB4.out.mono HB2.out.size)
    have HDT : Hid (Dat w4 dp n xs (M + 1)) := fun i hi => by
      obtain ⟨g, e, hc⟩ := HG.out.cells i hi
      have hlt : g < w1.heap.size := World.block_lt_of_cell? _ _ hc
      exact ⟨g, 0, e, by have := HL.out; omega, by rw [Nat.zero_add]; exact (HB14.out.cell (p := ⟨g, i, none⟩) hlt).trans hc⟩
    have HTB : Hid (Tabs w4) := HG.out.tabs.below HB14.out
    have HEN : Hid (En w4 (M + 1) n cc dp xs) := ⟨by omega, HG.out.hcap, HG.out.hcb, HG.out.hx, HDT.out, fun W b o s q hg hp hsq hqn hasc => by
      subst hp
      exact vok_of (by omega) HG.out.hcap HG.out.hcb HG.out.hx HG.out.hb HDT.out HTB.out (by have := HL.out; omega) W b o s q hg rfl hsq hqn hasc⟩
    have hzr := zzread_any (M + 1) n cc dp xs (some 0) false w4 HEN.out (RS.mk_some (Nat.zero_le _) HR4.out)
    rw [HRES.out] at hzr
    have HZR : Hid (Calls Tryd.prog 9 #[.pointer (some ⟨M + 1, 0, none⟩)] w4 fun e w' => DecOut (some (k0, ⟨seen0, tx0, co0, ci0, st0, un0⟩)) (M + 1) n cc dp w4 e w') := hzr
    clear hzr HEN HDT HTB
    rw [HW4.out, HM.out]
    refine HZR.out.mono ?_
    rintro e w5 ⟨A', op', ⟨seen, tx, co, ci, st, un⟩, uv, rfl, hS5, hop, hu5, hG5, hres⟩
    obtain ⟨pa, ln, cp, huv⟩ := hu5.form
    subst huv
    have HS5 : Hid (RS w5 (M + 1) dp n cc A' op') := hS5
    have HG5 : Hid (w4.grownBy w5 (some (M + 1))) := hG5
    have HU5 : Hid (UnV w5 w4.heap.size un (.slice pa ln cp)) := hu5
    have HOP : Hid (A' = none ∨ op' = false) := hop
    obtain ⟨hA, hT⟩ : A' = some k0 ∧ (⟨seen, tx, co, ci, st, un⟩ : DS) = ⟨seen0, tx0, co0, ci0, st0, un0⟩ := by
      cases A' with
      | none => cases hres
      | some k =>
        simp only [Option.map_some, Option.some.injEq, Prod.mk.injEq] at hres
        exact ⟨by rw [hres.1], hres.2.symm⟩
    obtain ⟨rfl, rfl, rfl, rfl, rfl, rfl⟩ : seen = seen0 ∧ tx = tx0 ∧ co = co0 ∧ ci = ci0 ∧ st = st0 ∧ un = un0 := by
      simp only [DS.mk.injEq] at hT
      exact hT
    subst hA
    have hop' : op' = false := hop.elim (fun h => by cases h) id
    subst hop'
    clear hS5 hu5 hG5 hop hres HZR hT
    obtain ⟨D, HD⟩ : ∃ D, Hid (w5.heap.size = D) := ⟨_, rfl⟩
    obtain ⟨w6, HW6⟩ : ∃ w6, Hid ((w5.alloc (Obj.cells #[.string ⟨#[]⟩, .string ⟨#[]⟩, .string ⟨#[]⟩, .int .u64 0, .slice none 0 0] 38)).setRow w5.heap.size #[.string tx, .string co, .string ci, .int .u64 st, .slice pa ln cp] = w6) := ⟨_, rfl⟩
    have HG56 : Hid (w5.grownBy w6 none) := by
      rw [← HW6.out, World.setRow_alloc_new]
      exact World.grownBy_alloc _ _ _
    have HD6 : Hid (Db w6 D tx co ci st (.slice pa ln cp)) := by
      rw [← HW6.out, World.setRow_alloc_new, ← HD.out]
      exact heap_alloc_new w5 _
    have HM6 : Hid (w6.heap[M]? = some (.cells #[.bool true, .int .i64 k0, .string tx, .string co, .string ci, .int .u64 st, .slice pm lm cm, .bool un.isSome] 28 (0, 0))) := by
      have h4 := HZ4.out
      have h5 := HG5.out.size
      exact (HG56.out.block M (by omega) (by simp)).trans ((HG5.out.block M (by omega) (by simp)).trans HM4.out)
    have HS6 : Hid (RS w6 (M + 1) dp n cc (some k0) false) := HS5.out.grown HG56.out (by simp)
    have HB6 : Hid (Below w.heap.size w w6) := by
      have h0 := HG.out.bl
      have h1 : Below w.heap.size w w2 := h0.trans (HB2.out.mono h0.size)
      have h2 : Below w.heap.size w w4 := h1.trans (HB4.out.mono h1.size)
      have hl : w.heap.size ≤ M := Nat.le_trans h0.size HL.out.1
      refine ⟨(HG56.out.os.trans HG5.out.os).trans h2.os, (HG56.out.tape.trans HG5.out.tape).trans h2.tape, (HG56.out.output.trans HG5.out.output).trans h2.output, Nat.le_trans h2.size (Nat.le_trans HG5.out.size HG56.out.size), fun k hk => ?_⟩
      have h4 := HZ4.out
      have h5 := HG5.out.size
      exact (HG56.out.block k (by omega) (by simp)).trans ((HG5.out.block k (by omega) (by simp; omega)).trans (h2.block k hk))
    have HDH : Hid ((w5.alloc (Obj.cells #[.string ⟨#[]⟩, .string ⟨#[]⟩, .string ⟨#[]⟩, .int .u64 0, .slice none 0 0] 38)).heap[w5.heap.size]? = some (.cells #[.string ⟨#[]⟩, .string ⟨#[]⟩, .string ⟨#[]⟩, .int .u64 0, .slice none 0 0] 38 (0, 0))) := heap_alloc_new w5 _
    go_wp2_with (with_reducible refine wpList_store_row (by with_unfolding_all rfl) 38 _ _ (by with_unfolding_all rfl) w5.heap.size _ (by with_unfolding_all rfl) (by with_unfolding_all rfl) 38 _ HDH.out (by kernel_rfl) (by with_unfolding_all rfl) (by with_unfolding_all rfl) ?_)
    rw [HW6.out, HD.out]
    have HG56' := HG56
    clear HW6 HG56 HDH HS5 HR4
    have m0 := cell_of_row w6 M 0 _ 28 (0, 0) HM6.out
    have m1 := cell_of_row w6 M 1 _ 28 (0, 0) HM6.out
    have m2 := cell_of_row w6 M 2 _ 28 (0, 0) HM6.out
    have m3 := cell_of_row w6 M 3 _ 28 (0, 0) HM6.out
    have m4 := cell_of_row w6 M 4 _ 28 (0, 0) HM6.out
    have m5 := cell_of_row w6 M 5 _ 28 (0, 0) HM6.out
    have m6 := cell_of_row w6 M 6 _ 28 (0, 0) HM6.out
    have m7 := cell_of_row w6 M 7 _ 28 (0, 0) HM6.out
    have d0 := HD6.out.c 0
    have d1 := HD6.out.c 1
    have d2 := HD6.out.c 2
    have d3 := HD6.out.c 3
    have d4 := HD6.out.c 4
    simp at m0 m1 m2 m3 m4 m5 m6 m7 d0 d1 d2 d3 d4
    have HOF : Hid (∀ q, Calls Tryd.prog 10 #[.pointer (some ⟨M + 1, 0, none⟩)] (w6.drewN q) fun e w' => e = .returned (.bool false) ∧ w' = w6.drewN q) := fun q => zzoff_any (M + 1) n cc dp (some k0) false (w6.drewN q) HS6.out
    have HAT : Hid (∀ q, Calls Tryd.prog 11 #[.pointer (some ⟨M + 1, 0, none⟩)] (w6.drewN q) fun e w' => e = .returned (.int .i64 k0) ∧ w' = w6.drewN q) := fun q => zzat_any (M + 1) n cc dp k0 false (w6.drewN q) HS6.out
    have HON : Hid (∀ q, Calls Tryd.prog 12 #[.pointer (some ⟨M + 1, 0, none⟩)] (w6.drewN q) fun e w' => e = .returned (.bool false) ∧ w' = w6.drewN q) := fun q => zzopened_any (M + 1) n cc dp (some k0) false (w6.drewN q) HS6.out
    have HSU : Hid (∀ q, Calls Tryd.prog 13 #[.slice pa ln cp, .slice pm lm cm, .bool un.isSome] (w6.drewN q) fun e w' => e = .returned (.bool true) ∧ ∃ q', w' = (w6.drewN q).drewN q') := fun q =>
      same_any (w := w6) HU5.out HUM.out
        (fun a v hc ha => HG56'.out.cell hc (by simp))
        (fun a v hc ha => by
          have hlt : a.block < w2.heap.size := World.block_lt_of_cell? _ _ hc
          have hz := HZ4.out
          have hm := HM.out
          exact HG56'.out.cell (HG5.out.cell ((HB4.out.cell hlt).trans hc) (by simp; omega)) (by simp)) (w6.drewN q) ⟨q, rfl⟩
    have b1 : (tx.toList == tx.toList) = true := beq_self_eq_true _
    have b2 : (co.toList == co.toList) = true := beq_self_eq_true _
    have b3 : (ci.toList == ci.toList) = true := beq_self_eq_true _
    clear HU5 HUM HG5 HG56' HD6 HM6 HB4 HB14 HB2
    go_quiet (first | (go_at_call 10; exact Calls.quiet_of_same (HOF.out _)))
    obtain ⟨w7, HW7⟩ : ∃ w7, Hid (w6.drewN nq = w7) := ⟨_, rfl⟩
    have HAT7 : Hid (∀ q, Calls Tryd.prog 11 #[.pointer (some ⟨M + 1, 0, none⟩)] (w7.drewN q) fun e w' => e = .returned (.int .i64 k0) ∧ w' = w7.drewN q) := fun q => by rw [← HW7.out, World.drewN_drewN]; exact HAT.out _
    have HON7 : Hid (∀ q, Calls Tryd.prog 12 #[.pointer (some ⟨M + 1, 0, none⟩)] (w7.drewN q) fun e w' => e = .returned (.bool false) ∧ w' = w7.drewN q) := fun q => by rw [← HW7.out, World.drewN_drewN]; exact HON.out _
    have HSU7 : Hid (∀ q, Calls Tryd.prog 13 #[.slice pa ln cp, .slice pm lm cm, .bool un.isSome] (w7.drewN q) fun e w' => e = .returned (.bool true) ∧ ∃ q', w' = (w7.drewN q).drewN q') := fun q => by rw [← HW7.out, World.drewN_drewN]; exact HSU.out _
    have HB7 : Hid (Below w.heap.size w w7) := by rw [← HW7.out]; exact below_drewN HB6.out _
    have m0' := (show (w6.drewN nq).cell? ⟨M, 0, none⟩ = w6.cell? ⟨M, 0, none⟩ from rfl).trans m0
    rw [HW7.out] at m0'
    have m1' := (show (w6.drewN nq).cell? ⟨M, 1, none⟩ = w6.cell? ⟨M, 1, none⟩ from rfl).trans m1
    rw [HW7.out] at m1'
    have m2' := (show (w6.drewN nq).cell? ⟨M, 2, none⟩ = w6.cell? ⟨M, 2, none⟩ from rfl).trans m2
    rw [HW7.out] at m2'
    have m3' := (show (w6.drewN nq).cell? ⟨M, 3, none⟩ = w6.cell? ⟨M, 3, none⟩ from rfl).trans m3
    rw [HW7.out] at m3'
    have m4' := (show (w6.drewN nq).cell? ⟨M, 4, none⟩ = w6.cell? ⟨M, 4, none⟩ from rfl).trans m4
    rw [HW7.out] at m4'
    have m5' := (show (w6.drewN nq).cell? ⟨M, 5, none⟩ = w6.cell? ⟨M, 5, none⟩ from rfl).trans m5
    rw [HW7.out] at m5'
    have m6' := (show (w6.drewN nq).cell? ⟨M, 6, none⟩ = w6.cell? ⟨M, 6, none⟩ from rfl).trans m6
    rw [HW7.out] at m6'
    have m7' := (show (w6.drewN nq).cell? ⟨M, 7, none⟩ = w6.cell? ⟨M, 7, none⟩ from rfl).trans m7
    rw [HW7.out] at m7'
    have d0' := (show (w6.drewN nq).cell? ⟨D, 0, none⟩ = w6.cell? ⟨D, 0, none⟩ from rfl).trans d0
    rw [HW7.out] at d0'
    have d1' := (show (w6.drewN nq).cell? ⟨D, 1, none⟩ = w6.cell? ⟨D, 1, none⟩ from rfl).trans d1
    rw [HW7.out] at d1'
    have d2' := (show (w6.drewN nq).cell? ⟨D, 2, none⟩ = w6.cell? ⟨D, 2, none⟩ from rfl).trans d2
    rw [HW7.out] at d2'
    have d3' := (show (w6.drewN nq).cell? ⟨D, 3, none⟩ = w6.cell? ⟨D, 3, none⟩ from rfl).trans d3
    rw [HW7.out] at d3'
    have d4' := (show (w6.drewN nq).cell? ⟨D, 4, none⟩ = w6.cell? ⟨D, 4, none⟩ from rfl).trans d4
    rw [HW7.out] at d4'
    rw [HW7.out]
    clear m0 m1 m2 m3 m4 m5 m6 m7 d0 d1 d2 d3 d4 HAT HON HSU HOF HW7 HB6 HS6
    go_wp2
    go_quiet (first | (go_at_call 11; exact Calls.quiet_of_same (HAT7.out _)) | (go_at_call 12; exact Calls.quiet_of_same (HON7.out _)) | (go_at_call 13; exact Calls.quiet_of (HSU7.out _)))
    go_wp2
    go_ret
    exact ⟨rfl, below_drewN HB7.out _⟩
end Go.Proofs.Qxb6605662aDoor
