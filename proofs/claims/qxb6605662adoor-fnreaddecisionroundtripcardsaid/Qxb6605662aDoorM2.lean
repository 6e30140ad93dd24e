import Derived.Test.Qxb6605662aDoorD3
import Derived.Test.Qxb6605662aDoorH1
set_option linter.unusedVariables false
namespace Go.Proofs.Qxb6605662aDoor
open Go.RowKit

/-! ### zzSameUints, on two rows that hold the same -/
theorem same_none (v : Value) (w : World) : Calls Tryd.prog 13 #[.slice none 0 0, v, .bool false] w fun e w' => e = .returned (.bool true) ∧ ∃ q, w' = w.drewN q := by
  have q26 : ∀ (w : World) (a : Option Addr) (n c n' c' : Nat), (binOp .eql 26 (.slice a n c) (.slice none n' c')).run Tryd.prog w = .ok (.bool a.isNone) w := fun w a n c n' c' => Lib.run_eql_slice_nil w _ _ a n c n' c' Tryd.underlying26
  go_enter Tryd.func13, Tryd.ntmps13
  go_wp2
  go_ret
  exact ⟨rfl, 0, rfl⟩
theorem own_cells {w : World} {B : Nat} {l : List Int} {g cap : Nat} (h : w.ownsRow B 25 1 (.slice (some ⟨g, 0, none⟩) l.length cap) l.length (l.map (Value.int .u64))) : ∀ i, i < l.length → w.cell? ⟨g, i, none⟩ = some (.int .u64 (l.getD i 0)) := by
  intro i hi
  have := h.cells (g := g) rfl i (.int .u64 (l.getD i 0)) (by rw [List.getElem?_map, List.getElem?_eq_getElem hi]; simp [List.getD_eq_getElem?_getD, List.getElem?_eq_getElem hi])
  have ha : (⟨g, 0, none⟩ : Addr).add i = ⟨g, i, none⟩ := by unfold Addr.add; split <;> simp_all
  rw [ha] at this
  exact this
set_option maxHeartbeats 2000000 in
theorem same_some (g1 g2 o1 o2 c1 c2 : Nat) (l : List Int) (w : World) (hl : l.length ≤ 2147483648)
    (h1 : ∀ i, i < l.length → w.cell? ⟨g1, o1 + i, none⟩ = some (.int .u64 (l.getD i 0))) (p2 : Option Addr) (h2 : ∀ i, i < l.length → ∃ b o, p2 = some ⟨b, o, none⟩ ∧ w.cell? ⟨b, o + i, none⟩ = some (.int .u64 (l.getD i 0))) :
    Calls Tryd.prog 13 #[.slice (some ⟨g1, o1, none⟩) l.length c1, .slice p2 l.length c2, .bool true] w fun e w' => e = .returned (.bool true) ∧ ∃ q, w' = w.drewN q := by
  have H1 : Hid (∀ i, i < l.length → w.cell? ⟨g1, o1 + i, none⟩ = some (.int .u64 (l.getD i 0))) := h1
  have H2 : Hid (∀ i, i < l.length → ∃ b o, p2 = some ⟨b, o, none⟩ ∧ w.cell? ⟨b, o + i, none⟩ = some (.int .u64 (l.getD i 0))) := h2
  obtain ⟨n, HN⟩ : ∃ n, Hid (l.length = n) := ⟨_, rfl⟩
  rw [HN.out] at H1 H2 hl
  rw [HN.out]
  clear h1 h2
  have q26 : ∀ (w : World) (a : Option Addr) (n c n' c' : Nat), (binOp .eql 26 (.slice a n c) (.slice none n' c')).run Tryd.prog w = .ok (.bool a.isNone) w := fun w a n c n' c' => Lib.run_eql_slice_nil w _ _ a n c n' c' Tryd.underlying26
  go_enter Tryd.func13, Tryd.ntmps13
  go_wp2
  go_loopw [7] (fun i wr => ∃ (j : Nat) (q : Nat), j ≤ n ∧ i = .int .i64 j ∧ Hid (wr = w.drewN q)) (fun i _ => n - (intOf i).toNat)
  case atStart => exact ⟨0, 0, Nat.zero_le _, rfl, rfl⟩
  case round =>
    obtain ⟨j, q, hj, rfl, HW⟩ := hrel
    by_cases hjn : j < n
    · have hji : (j : Int) < n := by omega
      obtain ⟨b, o, hp, hc2⟩ := H2.out j hjn
      have hc1 := H1.out j hjn
      subst hp
      obtain ⟨y, HY⟩ : ∃ y, Hid (l.getD j 0 = y) := ⟨_, rfl⟩
      rw [HY.out] at hc1 hc2
      have d1 : wr.cell? ⟨g1, o1 + j, none⟩ = some (.int .u64 y) := by rw [HW.out]; exact hc1
      have d2 : wr.cell? ⟨b, o + j, none⟩ = some (.int .u64 y) := by rw [HW.out]; exact hc2
      clear hc1 hc2
      go_wp2
      go_quiet (fail)
      go_wp2
      go_round
      case rel => exact ⟨j + 1, q + nq, by omega, by go_num, by show _ = _; rw [HW.out, World.drewN_drewN]⟩
      case measure => simp [intOf]; omega
    · have hji : ¬ (j : Int) < n := by omega
      go_wp2
      go_ret
      exact ⟨rfl, q, HW.out⟩
/-! ### read-outs -/
theorem zzoff_any (R n c : Nat) (p : Option Addr) (A : Option Nat) (op : Bool) (w : World) (h : RS w R p n c A op) : Calls Tryd.prog 10 #[.pointer (some ⟨R, 0, none⟩)] w fun e w' => e = .returned (.bool A.isNone) ∧ w' = w := by
  have c2 := h.c2
  clear h
  go_enter Tryd.func10, Tryd.ntmps10
  go_wp2
  go_ret
  exact ⟨rfl, rfl⟩
theorem zzat_any (R n c : Nat) (p : Option Addr) (k : Nat) (op : Bool) (w : World) (h : RS w R p n c (some k) op) : Calls Tryd.prog 11 #[.pointer (some ⟨R, 0, none⟩)] w fun e w' => e = .returned (.int .i64 k) ∧ w' = w := by
  have c1 := h.rd.c1
  clear h
  go_enter Tryd.func11, Tryd.ntmps11
  go_wp2
  go_ret
  exact ⟨rfl, rfl⟩
theorem zzopened_any (R n c : Nat) (p : Option Addr) (A : Option Nat) (op : Bool) (w : World) (h : RS w R p n c A op) : Calls Tryd.prog 12 #[.pointer (some ⟨R, 0, none⟩)] w fun e w' => e = .returned (.bool op) ∧ w' = w := by
  have c3 := h.c3
  clear h
  go_enter Tryd.func12, Tryd.ntmps12
  go_wp2
  go_ret
  exact ⟨rfl, rfl⟩
theorem zzread_any (R n c : Nat) (p : Option Addr) (xs : List Int) (A : Option Nat) (op : Bool) (w : World) (hE : En w R n c p xs) (hS : RS w R p n c A op) :
    Calls Tryd.prog 9 #[.pointer (some ⟨R, 0, none⟩)] w fun e w' => DecOut (decR xs A) R n c p w e w' := by
  obtain ⟨w1, HW1⟩ : ∃ w1, Hid (w.alloc (Obj.cells #[.string ⟨#[]⟩, .string ⟨#[]⟩, .string ⟨#[]⟩, Value.int IntKind.u64 0, Value.slice none 0 0] 38) = w1) := ⟨_, rfl⟩
  obtain ⟨D, HD⟩ : ∃ D, Hid (w.heap.size = D) := ⟨_, rfl⟩
  have HG1 : Hid (w.grownBy w1 (some R)) := by rw [← HW1.out]; exact World.grownBy_alloc _ _ _
  have HDB1 : Hid (Db w1 D ⟨#[]⟩ ⟨#[]⟩ ⟨#[]⟩ 0 (.slice none 0 0)) := by rw [← HW1.out, ← HD.out]; exact heap_alloc_new w _
  have hRl : R < w.heap.size := by
    obtain ⟨k, _, h, _⟩ := hS
    exact h.lt
  have HRL : Hid (R < w.heap.size) := hRl
  have hcon := decisionA R n c p xs A op w1 (hE.grown HG1.out) (by rw [← HW1.out]; exact hS.grown (World.grownBy_alloc w _ none) (by simp))
  have HCON : Hid (Calls Tryd.prog 27 #[.pointer (some ⟨R, 0, none⟩)] w1 fun e w' => DecOut (decR xs A) R n c p w1 e w') := hcon
  generalize decR xs A = RES at HCON ⊢
  clear hcon hE hS hRl
  go_enter Tryd.func9, Tryd.ntmps9
  go_wp2_with fail
  rw [HW1.out, HD.out]
  refine HCON.out.mono ?_
  rintro e w2 ⟨A', op', ⟨seen, tx, co, ci, st, un⟩, uv, rfl, hS2, hop, hu2, hG2, hres⟩
  obtain ⟨pa, ln, cp, rfl⟩ := hu2.form
  have hdb := HDB1.out.grown hG2 (by have := HRL.out; have := HD.out; simp; omega)
  have HDB2 : Hid (Db w2 D ⟨#[]⟩ ⟨#[]⟩ ⟨#[]⟩ 0 (.slice none 0 0)) := hdb
  have HS2 : Hid (RS w2 R p n c A' op') := hS2
  have HOP : Hid (A' = none ∨ op' = false) := hop
  have HU2 : Hid (UnV w2 (D + 1) un (.slice pa ln cp)) := hu2.mono (by have := HDB1.out.lt; omega)
  have HG2 : Hid (w.grownBy w2 (some R)) := HG1.out.trans hG2
  have HRES : Hid (RES = A'.map fun k => (k, (⟨seen, tx, co, ci, st, un⟩ : DS))) := hres
  have d0 := hdb.c 0
  have d1 := hdb.c 1
  have d2 := hdb.c 2
  have d3 := hdb.c 3
  have d4 := hdb.c 4
  have e0 := hdb.fz 0
  have e1 := hdb.fz 1
  have e2 := hdb.fz 2
  have e3 := hdb.fz 3
  have e4 := hdb.fz 4
  simp at d0 d1 d2 d3 d4
  clear hdb hS2 hop hu2 hG2 hres HCON
  go_wp2_with fail
  have hDR : D ≠ R := by have := HRL.out; have := HD.out; omega
  have hDw : w.heap.size ≤ D := by rw [HD.out]; exact Nat.le_refl _
  have HB3 := (((HDB2.out.set0 tx).set1 co).set2 ci).set34 st (.slice pa ln cp)
  have HS3 := ((((HS2.out.set hDR 0 (.string tx)).set hDR 1 (.string co)).set hDR 2 (.string ci)).set hDR 3 (.int .u64 st)).set hDR 4 (.slice pa ln cp)
  have HG3 := upd_fresh (upd_fresh (upd_fresh (upd_fresh (upd_fresh HG2.out hDw 0 (.string tx)) hDw 1 (.string co)) hDw 2 (.string ci)) hDw 3 (.int .u64 st)) hDw 4 (.slice pa ln cp)
  have HU3 := ((((HU2.out.kept (upd_set _ D 0 (.string tx)) (by omega)).kept (upd_set _ D 1 (.string co)) (by omega)).kept (upd_set _ D 2 (.string ci)) (by omega)).kept (upd_set _ D 3 (.int .u64 st)) (by omega)).kept (upd_set _ D 4 (.slice pa ln cp)) (by omega)
  (try simp only [Exit.inBlock, Exit.then])
  first
    | refine bodyPost_ret (results_cell_row (p := 2) (ty := 38) (by kernel_rfl) _ _ D 38 _ (0, 0) _ (by rfl) HB3 Tryd.underlying38 rfl (by kernel_rfl)) rfl ?_
    | refine bodyPost_end (results_cell_row (p := 2) (ty := 38) (by kernel_rfl) _ _ D 38 _ (0, 0) _ (by rfl) HB3 Tryd.underlying38 rfl (by kernel_rfl)) rfl ?_
  exact ⟨A', op', ⟨seen, tx, co, ci, st, un⟩, _, rfl, HS3, HOP.out, HU3.mono (by have := HD.out; omega), HG3, HRES.out⟩
end Go.Proofs.Qxb6605662aDoor
