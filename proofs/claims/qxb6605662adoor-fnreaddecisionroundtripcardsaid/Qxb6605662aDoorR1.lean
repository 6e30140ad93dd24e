import Derived.Test.Qxb6605662aDoorRows
import Derived.WalkKit
import Derived.WalkSpells
import Derived.WalkLawsBesides
import Derived.Deep.QuietTactic
import Derived.BigQuiet
import Derived.Deep.LoopGhost
import Derived.Handy
import Derived.Maps.AppendAt
namespace Go.Proofs.Qxb6605662aDoor
open Go.RowKit

/-- The reader's block: its data, its place, off, opened. -/
def Rd (w : World) (R : Nat) (dv : Value) (k : Int) (off op : Bool) : Prop :=
  w.heap[R]? = some (.cells #[dv, .int .i64 k, .bool off, .bool op] 32 (0, 0))
section
variable {w w' : World} {R : Nat} {dv : Value} {k : Int} {off op : Bool}
theorem Rd.c0 (h : Rd w R dv k off op) : w.cell? ⟨R, 0, none⟩ = some dv := cell_of_row w R 0 _ 32 (0, 0) h
theorem Rd.c1 (h : Rd w R dv k off op) : w.cell? ⟨R, 1, none⟩ = some (.int .i64 k) := cell_of_row w R 1 _ 32 (0, 0) h
theorem Rd.c2 (h : Rd w R dv k off op) : w.cell? ⟨R, 2, none⟩ = some (.bool off) := cell_of_row w R 2 _ 32 (0, 0) h
theorem Rd.c3 (h : Rd w R dv k off op) : w.cell? ⟨R, 3, none⟩ = some (.bool op) := cell_of_row w R 3 _ 32 (0, 0) h
theorem Rd.fz (h : Rd w R dv k off op) (j : Nat) : w.frozen? ⟨R, j, none⟩ = false := frozen_of_row w R j _ 32 h
theorem Rd.lt (h : Rd w R dv k off op) : R < w.heap.size := by
  rcases Nat.lt_or_ge R w.heap.size with hl | hl
  · exact hl
  · rw [Rd, Array.getElem?_eq_none hl] at h; cases h
theorem Rd.set1 (h : Rd w R dv k off op) (x : Int) : Rd (w.setCell ⟨R, 1, none⟩ (.int .i64 x)) R dv x off op := heap_setCell_same w R 1 _ 32 (.int .i64 x) h
theorem Rd.set2 (h : Rd w R dv k off op) (x : Bool) : Rd (w.setCell ⟨R, 2, none⟩ (.bool x)) R dv k x op := heap_setCell_same w R 2 _ 32 (.bool x) h
theorem Rd.set3 (h : Rd w R dv k off op) (x : Bool) : Rd (w.setCell ⟨R, 3, none⟩ (.bool x)) R dv k off x := heap_setCell_same w R 3 _ 32 (.bool x) h
theorem Rd.drewN (h : Rd w R dv k off op) (n : Nat) : Rd (w.drewN n) R dv k off op := h
theorem Rd.grown (h : Rd w R dv k off op) {row : Option Nat} (hg : w.grownBy w' row) (hr : some R ≠ row) : Rd w' R dv k off op := (hg.block R h.lt hr).trans h
end
theorem upd_set (w : World) (R j : Nat) (v : Value) : w.grownBy (w.setCell ⟨R, j, none⟩ v) (some R) :=
  ⟨rfl, rfl, rfl, by simp, fun k _ hk => heap_setCell_other w ⟨R, j, none⟩ k v (fun e => hk (by simp [e]))⟩
theorem upd_drewN {w w' : World} {row : Option Nat} (h : w.grownBy w' row) (n : Nat) : w.grownBy (w'.drewN n) row := ⟨h.os, h.tape, h.output, h.size, h.block⟩

/-- The data that the reader reads: n bytes. -/
def Dat (w : World) (p : Option Addr) (n : Nat) (xs : List Int) (R : Nat) : Prop :=
  ∀ i, i < n → ∃ b o, p = some ⟨b, o, none⟩ ∧ b ≠ R ∧ w.cell? ⟨b, o + i, none⟩ = some (.int .u8 (xs.getD i 0))
theorem Dat.grown {w w' : World} {p : Option Addr} {n : Nat} {xs : List Int} {R : Nat} (h : Dat w p n xs R) (hg : w.grownBy w' (some R)) : Dat w' p n xs R := by
  intro i hi
  obtain ⟨b, o, e, hb, hc⟩ := h i hi
  exact ⟨b, o, e, hb, hg.cell hc (by simpa using hb)⟩

/-! ### the plain functions -/
def ws (x : Int) : Bool := x == 32 || x == 9 || x == 10 || x == 13
def skF (xs : List Int) : Nat → Nat → Nat
  | 0, k => k
  | f + 1, k => if k < xs.length ∧ ws (xs.getD k 0) = true then skF xs f (k + 1) else k
/-- behind the blanks from k on -/
def sk (xs : List Int) (k : Nat) : Nat := skF xs (xs.length - k) k
theorem sk_step {xs : List Int} {k : Nat} (h : k < xs.length) (hw : ws (xs.getD k 0) = true) : sk xs k = sk xs (k + 1) := by
  unfold sk
  rw [show xs.length - k = (xs.length - (k + 1)) + 1 by omega, skF, if_pos ⟨h, hw⟩]
theorem sk_stop {xs : List Int} {k : Nat} (h : ¬ (k < xs.length ∧ ws (xs.getD k 0) = true)) : sk xs k = k := by
  unfold sk
  cases xs.length - k with
  | zero => rfl
  | succ f => rw [skF, if_neg h]
theorem skF_le (xs : List Int) (f k : Nat) (hk : k ≤ xs.length) : k ≤ skF xs f k ∧ skF xs f k ≤ xs.length := by
  induction f generalizing k with
  | zero => exact ⟨Nat.le_refl _, hk⟩
  | succ f ih =>
    rw [skF]
    split
    · rename_i h
      have := ih (k + 1) (by omega)
      omega
    · exact ⟨Nat.le_refl _, hk⟩
theorem sk_le (xs : List Int) (k : Nat) (hk : k ≤ xs.length) : k ≤ sk xs k ∧ sk xs k ≤ xs.length := skF_le xs _ k hk

set_option maxHeartbeats 1000000 in
theorem space_any (R n c k : Nat) (p : Option Addr) (off op : Bool) (xs : List Int) (w : World) (hn : n ≤ 2147483648) (hx : xs.length = n) (hk : k ≤ n)
    (hR : Rd w R (.slice p n c) k off op) (hD : Dat w p n xs R) :
    Calls Tryd.prog 35 #[.pointer (some ⟨R, 0, none⟩)] w fun e w' => e = .returned (.tuple #[]) ∧ Rd w' R (.slice p n c) (sk xs k) off op ∧ w.grownBy w' (some R) := by
  have HX : Hid (xs.length = n) := hx
  have HD : Hid (Dat w p n xs R) := hD
  have HR : Hid (Rd w R (.slice p n c) k off op) := hR
  clear hx hD hR
  go_enter Tryd.func35, Tryd.ntmps35
  go_wp2
  go_loopg [] (n - k) (fun g wr => ∃ j : Nat, j ≤ n ∧ n - j ≤ g ∧ Hid (Rd wr R (.slice p n c) j off op) ∧ Hid (sk xs k = sk xs j) ∧ Hid (w.grownBy wr (some R)))
  case atStart => exact ⟨k, hk, Nat.le_refl _, HR, rfl, World.grownBy.refl _ _⟩
  case round =>
    obtain ⟨j, hj, hg, HJ, HS, HG⟩ := hrel
    have hnil : True := trivial
    have c0 := HJ.out.c0
    have c1 := HJ.out.c1
    have f1 := HJ.out.fz 1
    by_cases hlt : j < n
    · obtain ⟨b, o, hp, hb, hcell⟩ := HD.out.grown HG.out j hlt
      subst hp
      obtain ⟨x, HXJ⟩ : ∃ x, Hid (xs.getD j 0 = x) := ⟨_, rfl⟩
      rw [HXJ.out] at hcell
      have hji : (j : Int) < n := by omega
      go_wp2
      go_quiet (fail)
      go_wp2
      go_quiet (fail)
      go_wp2
      all_goals first
        | (have hw : ws x = true := by unfold ws; simp [*]; done
           have hw' : ws (xs.getD j 0) = true := by rw [HXJ.out]; exact hw
           go_roundg (n - (j + 1))
           case measure => omega
           case rel => exact ⟨j + 1, by omega, Nat.le_refl _, (HJ.out.drewN _).set1 ((j : Int) + 1), HS.out.trans (sk_step (by rw [HX.out]; exact hlt) hw'), (upd_drewN HG.out _).trans (upd_set _ R 1 _)⟩)
        | (have hw : ws x = false := by unfold ws; simp [*]; done
           have hw' : ¬ (j < xs.length ∧ ws (xs.getD j 0) = true) := by rw [HXJ.out, hw]; simp
           have hs := HS.out.trans (sk_stop hw')
           go_returns
           rw [hs]
           exact ⟨rfl, HJ.out, upd_drewN HG.out _⟩)
    · have hji : ¬ (j : Int) < n := by omega
      have hw' : ¬ (j < xs.length ∧ ws (xs.getD j 0) = true) := by rw [HX.out]; exact fun h => hlt h.1
      have HS2 : Hid (sk xs k = j) := HS.out.trans (sk_stop hw')
      clear hw'
      go_wp2
      go_quiet (fail)
      go_wp2
      go_end0
      rw [HS2.out]
      exact ⟨rfl, HJ.out, upd_drewN HG.out _⟩

/-- next: does c come next? and where the reader stands behind it -/
def nxB (xs : List Int) (k : Nat) (off : Bool) (c : Int) : Bool := !off && decide (sk xs k < xs.length) && xs.getD (sk xs k) 0 == c
def nxK (xs : List Int) (k : Nat) (off : Bool) (c : Int) : Nat := if nxB xs k off c then sk xs k + 1 else sk xs k

set_option maxHeartbeats 1000000 in
theorem next_any (R n c k : Nat) (p : Option Addr) (off op : Bool) (xs : List Int) (ch : Int) (w : World) (hn : n ≤ 2147483648) (hx : xs.length = n) (hk : k ≤ n)
    (hR : Rd w R (.slice p n c) k off op) (hD : Dat w p n xs R) :
    Calls Tryd.prog 46 #[.pointer (some ⟨R, 0, none⟩), .int .u8 ch] w fun e w' => e = .returned (.bool (nxB xs k off ch)) ∧ Rd w' R (.slice p n c) (nxK xs k off ch) off op ∧ w.grownBy w' (some R) := by
  have hsp := space_any R n c k p off op xs w hn hx hk hR hD
  have hle := (sk_le xs k (by omega)).2
  obtain ⟨j, HJ⟩ : ∃ j, Hid (sk xs k = j) := ⟨_, rfl⟩
  rw [HJ.out] at hsp hle
  have HNB : Hid (nxB xs k off ch = (!off && decide (j < xs.length) && xs.getD j 0 == ch)) := by show _ = _; unfold nxB; rw [HJ.out]
  have HNK : Hid (nxK xs k off ch = if nxB xs k off ch then j + 1 else j) := by show _ = _; unfold nxK; rw [HJ.out]
  generalize nxB xs k off ch = rb at HNB HNK ⊢
  generalize nxK xs k off ch = rk at HNK ⊢
  have HX : Hid (xs.length = n) := hx
  have HD : Hid (Dat w p n xs R) := hD
  rw [hx] at hle
  clear hx hD hR
  have fin : ∀ (w1 : World) (b : Bool) (m : Nat), Rd w1 R (.slice p n c) m off op → w.grownBy w1 (some R) → rb = b → rk = m → (Ending.returned (.bool b) = .returned (.bool rb) ∧ Rd w1 R (.slice p n c) rk off op ∧ w.grownBy w1 (some R)) := by
    intro w1 b m h1 h2 h3 h4; subst h3; subst h4; exact ⟨rfl, h1, h2⟩
  have HF : Hid (∀ (w1 : World) (b : Bool) (m : Nat), Rd w1 R (.slice p n c) m off op → w.grownBy w1 (some R) → rb = b → rk = m → (Ending.returned (.bool b) = .returned (.bool rb) ∧ Rd w1 R (.slice p n c) rk off op ∧ w.grownBy w1 (some R))) := fin
  clear fin
  go_enter Tryd.func46, Tryd.ntmps46
  go_wp2_with fail
  refine hsp.mono ?_
  rintro e w1 ⟨rfl, hR1, hG1⟩
  have HR1 : Hid (Rd w1 R (.slice p n c) j off op) := hR1
  have HG1 : Hid (w.grownBy w1 (some R)) := hG1
  have c0 := hR1.c0
  have c1 := hR1.c1
  have c2 := hR1.c2
  have f1 := hR1.fz 1
  clear hR1 hG1 hsp
  cases off with
  | true =>
    go_wp2
    go_quiet (fail)
    go_wp2
    go_ret
    exact HF.out _ _ j HR1.out (upd_drewN HG1.out _) (by rw [HNB.out]; rfl) (by rw [HNK.out, HNB.out]; rfl)
  | false =>
    by_cases hj : j < n
    · obtain ⟨b, o, hp, hb, hcell⟩ := HD.out.grown HG1.out j hj
      subst hp
      obtain ⟨x, HXJ⟩ : ∃ x, Hid (xs.getD j 0 = x) := ⟨_, rfl⟩
      rw [HXJ.out] at hcell
      have hji : (j : Int) < n := by omega
      have hje : ((j : Int) == n) = false := beq_eq_false_iff_ne.2 (by omega)
      by_cases hxc : x = ch
      · subst hxc
        go_wp2
        go_quiet (fail)
        go_wp2
        go_ret
        exact HF.out _ _ (j + 1) ((HR1.out.drewN _).set1 ((j : Int) + 1)) ((upd_drewN HG1.out _).trans (upd_set _ R 1 _)) (by rw [HNB.out, HXJ.out, HX.out]; simp [hj]) (by rw [HNK.out, HNB.out, HXJ.out, HX.out]; simp [hj])
      · have hxc' : (x == ch) = false := beq_eq_false_iff_ne.2 hxc
        have hxn : (x != ch) = true := by simp [hxc]
        clear hxc
        go_wp2
        go_quiet (fail)
        go_wp2
        go_ret
        exact HF.out _ _ j HR1.out (upd_drewN HG1.out _) (by rw [HNB.out, HXJ.out, hxc']; simp) (by rw [HNK.out, HNB.out, HXJ.out, hxc']; simp)
    · have hje : ((j : Int) == n) = true := beq_iff_eq.2 (by omega)
      go_wp2
      go_quiet (fail)
      go_wp2
      go_ret
      exact HF.out _ _ j HR1.out (upd_drewN HG1.out _) (by rw [HNB.out, HX.out]; simp [hj]) (by rw [HNK.out, HNB.out, HX.out]; simp [hj])
end Go.Proofs.Qxb6605662aDoor
