import Derived.Test.Qxb6605662aDoorD1
import Derived.Deep.AppendLies
import Derived.Deep.RegionLaw
import Derived.OwnWalk
namespace Go.Proofs.Qxb6605662aDoor
open Go.RowKit

theorem Tryd.info25 : (Tryd.prog.info? 25).map (fun i => (i.zero, i.size, i.bytes)) = some (some (.int .u64 0), 1, 8) := by kernel_rfl

def bindH {σ τ : Type} (x : Option (Nat × σ)) (f : Nat → σ → Option τ) : Option τ := match x with
  | none => none
  | some (m, S) => f m S
theorem hd_key' {σ : Type} {xs : List Int} (step : ByteArray → Nat → σ → Option (Nat × σ)) (g : Nat) {A : Option Nat} {op : Bool} {s q m : Nat} (S : σ) (h : keyR xs A op = some (s, q, m)) :
    hd xs step (g + 1) A op S = bindH (step (strOfNums (sub xs s q)) m S) fun m' S' => hd xs step g (some m') false S' := by
  rw [hd_key step g S h]
  cases step (strOfNums (sub xs s q)) m S with
  | none => rfl
  | some x => rfl
theorem conv_at' (W : World) (g n M C R s q : Nat) (xs : List Int) (hx : xs.length = M) (hsq : s ≤ q) (hq : q ≤ M) (hD : Dat W (some ⟨g, n, none⟩) M xs R) :
    (convert 22 9 (.slice (some ⟨g, n + s, none⟩) (q - s) (C - s))).run Tryd.prog W = .ok (.string (strOfNums (sub xs s q))) W :=
  run_convert_bytes_arg (P := Tryd.prog) W 22 5 Tryd.underlying22 Tryd.underlying5 g (n + s) (q - s) (C - s) (sub xs s q) (sub_length xs s q hsq (by omega)) (fun i hi => by
    obtain ⟨b', o', hp', _, hcell⟩ := hD (s + i) (by omega)
    simp only [Option.some.injEq, Addr.mk.injEq, and_true] at hp'
    obtain ⟨rfl, rfl⟩ := hp'
    rw [sub_at xs s q i hi, Nat.add_assoc]
    exact hcell) 9 Tryd.underlying9

/-- More -/
theorem moreA (R n c : Nat) (p : Option Addr) (xs : List Int) (A : Option Nat) (op : Bool) (w : World) (hn : n ≤ 2147483648) (hx : xs.length = n) (hS : RS w R p n c A op) (hD : Dat w p n xs R) :
    Calls Tryd.prog 49 #[.pointer (some ⟨R, 0, none⟩)] w fun e w' => e = .returned (.bool (mbB xs 93 A op)) ∧ RS w' R p n c (mbA xs 93 A op) false ∧ w.grownBy w' (some R) := by
  have hcon := memberA R n c p xs A op w 93 hn hx hS hD
  have HCON : Hid (Calls Tryd.prog 34 #[.pointer (some ⟨R, 0, none⟩), .int .u8 93] w fun e w' => e = .returned (.bool (mbB xs 93 A op)) ∧ RS w' R p n c (mbA xs 93 A op) false ∧ w.grownBy w' (some R)) := hcon
  clear hcon hS hD hx
  go_enter Tryd.func49, Tryd.ntmps49
  go_wp2_with fail
  refine HCON.out.mono ?_
  rintro e w1 ⟨rfl, hS1, hG1⟩
  go_wp2_with fail
  go_ret
  exact ⟨rfl, hS1, hG1⟩

/-! ### readHorizon -/
def Hb (w : World) (H : Nat) (st : Int) (uv : Value) : Prop := w.heap[H]? = some (.cells #[.int .u64 st, uv] 36 (0, 0))
section
variable {w w' : World} {H : Nat} {st : Int} {uv : Value}
theorem Hb.c0 (h : Hb w H st uv) : w.cell? ⟨H, 0, none⟩ = some (.int .u64 st) := cell_of_row w H 0 _ 36 (0, 0) h
theorem Hb.c1 (h : Hb w H st uv) : w.cell? ⟨H, 1, none⟩ = some uv := cell_of_row w H 1 _ 36 (0, 0) h
theorem Hb.fz (h : Hb w H st uv) (j : Nat) : w.frozen? ⟨H, j, none⟩ = false := frozen_of_row w H j _ 36 h
theorem Hb.lt (h : Hb w H st uv) : H < w.heap.size := by
  rcases Nat.lt_or_ge H w.heap.size with hl | hl
  · exact hl
  · rw [Hb, Array.getElem?_eq_none hl] at h; cases h
theorem Hb.grown (h : Hb w H st uv) {row : Option Nat} (hg : w.grownBy w' row) (hr : some H ≠ row) : Hb w' H st uv := (hg.block H h.lt hr).trans h
theorem Hb.set0 (h : Hb w H st uv) (x : Int) : Hb (w.setCell ⟨H, 0, none⟩ (.int .u64 x)) H x uv := heap_setCell_same w H 0 _ 36 _ h
theorem Hb.set1 (h : Hb w H st uv) (x : Value) : Hb (w.setCell ⟨H, 1, none⟩ x) H st x := heap_setCell_same w H 1 _ 36 _ h
end
/-- a list of numbers, in a row of its own from block B on -/
def UnV (w : World) (B : Nat) (un : Option (List Int)) (v : Value) : Prop :=
  match un with
  | none => v = .slice none 0 0
  | some l => (∃ g cap, v = .slice (some ⟨g, 0, none⟩) l.length cap) ∧ w.ownsRow B 25 1 v l.length (l.map (Value.int .u64))
theorem UnV.kept {w w' : World} {B : Nat} {un : Option (List Int)} {v : Value} (h : UnV w B un v) {row : Nat} (hg : w.grownBy w' (some row)) (hr : row < B) : UnV w' B un v := by
  cases un with
  | none => exact h
  | some l =>
    refine ⟨h.1, h.2.kept hg ?_⟩
    cases hb : v.ownBlock with
    | none => exact .inl rfl
    | some k =>
      have := (h.2.lt k hb).1
      exact .inr fun e => by simp at e; omega
theorem UnV.mono {w : World} {B B' : Nat} {un : Option (List Int)} {v : Value} (h : UnV w B un v) (hb : B' ≤ B) : UnV w B' un v := by
  cases un with
  | none => exact h
  | some l =>
    refine ⟨h.1, h.2.1, ?_⟩
    rcases h.2.2 with h' | ⟨g, cap, cur, e, hg, r⟩
    · exact .inl h'
    · exact .inr ⟨g, cap, cur, e, Nat.le_trans hb hg, r⟩
theorem UnV.form {w : World} {B : Nat} {un : Option (List Int)} {v : Value} (h : UnV w B un v) : ∃ pa ln cp, v = .slice pa ln cp := by
  cases un with
  | none => exact ⟨none, 0, 0, h⟩
  | some l => obtain ⟨g, cap, e⟩ := h.1; exact ⟨_, _, _, e⟩
theorem RS.klt {w : World} {R : Nat} {p : Option Addr} {n c k : Nat} {op : Bool} (h : RS w R p n c (some k) op) : k ≤ n := h.le
/-- the state of the walk -/
structure HI (w : World) (R H S n c : Nat) (p : Option Addr) (wr : World) (A : Option Nat) (op : Bool) (seen : Nat) (st : Int) (un : Option (List Int)) (uv : Value) : Prop where
  rs : RS wr R p n c A op
  sn : Sn wr S seen
  hb : Hb wr H st uv
  uv : UnV wr (S + 1) un uv
  gr : w.grownBy wr (some R)
/-- what the walk knows of the blocks -/
structure HB (w : World) (R H S : Nat) : Prop where
  r : R < w.heap.size
  h : w.heap.size ≤ H
  s : H < S
theorem HI.call {w : World} {R H S n c : Nat} {p : Option Addr} {wr w2 : World} {A A' : Option Nat} {op op' : Bool} {seen : Nat} {st : Int} {un : Option (List Int)} {uv : Value} (hB : HB w R H S) (h : HI w R H S n c p wr A op seen st un uv)
    (hg : wr.grownBy w2 (some R)) (hr : RS w2 R p n c A' op') : HI w R H S n c p w2 A' op' seen st un uv :=
  ⟨hr, h.sn.grown hg (by have := hB.r; have := hB.h; have := hB.s; simp; omega), h.hb.grown hg (by have := hB.r; have := hB.h; simp; omega), h.uv.kept hg (by have := hB.r; have := hB.h; have := hB.s; omega), h.gr.trans hg⟩
theorem HI.once {w : World} {R H S n c : Nat} {p : Option Addr} {wr : World} {A : Option Nat} {op : Bool} {seen : Nat} {st : Int} {un : Option (List Int)} {uv : Value} (hB : HB w R H S) (h : HI w R H S n c p wr A op seen st un uv) (pl : Nat) :
    HI w R H S n c p (onW R S seen pl wr) (onA seen pl A) op (seen ||| 2 ^ pl) st un uv := by
  have h1 := hB.r; have h2 := hB.h; have h3 := hB.s
  refine ⟨onW_RS seen pl h.rs (by omega), onW_Sn pl h.sn (by omega), (onW_other pl H (by omega) (by omega)).trans h.hb, ?_, onW_grown seen pl h.gr (by omega)⟩
  unfold onW
  refine UnV.kept ?_ (upd_set _ S 0 _) (by omega)
  split
  · exact h.uv.kept (upd_set _ R 2 _) (by omega)
  · exact h.uv
theorem HI.seto {w : World} {R H S n c : Nat} {p : Option Addr} {wr : World} {A : Option Nat} {op : Bool} {seen : Nat} {st : Int} {un : Option (List Int)} {uv : Value} (hB : HB w R H S) (h : HI w R H S n c p wr A op seen st un uv) :
    HI w R H S n c p (offW R wr) none op seen st un uv := by
  have h1 := hB.r; have h2 := hB.h; have h3 := hB.s
  exact ⟨h.rs.off, h.sn.grown (upd_set _ R 2 _) (by simp; omega), h.hb.grown (upd_set _ R 2 _) (by simp; omega), h.uv.kept (upd_set _ R 2 _) (by omega), h.gr.trans (upd_set _ R 2 _)⟩
theorem HI.set0 {w : World} {R H S n c : Nat} {p : Option Addr} {wr : World} {A : Option Nat} {op : Bool} {seen : Nat} {st : Int} {un : Option (List Int)} {uv : Value} (hB : HB w R H S) (h : HI w R H S n c p wr A op seen st un uv) (x : Int) :
    HI w R H S n c p (wr.setCell ⟨H, 0, none⟩ (.int .u64 x)) A op seen x un uv := by
  have h1 := hB.r; have h2 := hB.h; have h3 := hB.s
  exact ⟨h.rs.set (by omega) 0 _, h.sn.grown (upd_set _ H 0 _) (by simp; omega), h.hb.set0 x, h.uv.kept (upd_set _ H 0 _) (by omega), upd_fresh h.gr h2 0 _⟩
theorem HI.set1 {w : World} {R H S n c : Nat} {p : Option Addr} {wr : World} {A : Option Nat} {op : Bool} {seen : Nat} {st : Int} {un un' : Option (List Int)} {uv uv' : Value} (hB : HB w R H S) (h : HI w R H S n c p wr A op seen st un uv) (hu : UnV wr (S + 1) un' uv') :
    HI w R H S n c p (wr.setCell ⟨H, 1, none⟩ uv') A op seen st un' uv' := by
  have h1 := hB.r; have h2 := hB.h; have h3 := hB.s
  exact ⟨h.rs.set (by omega) 1 _, h.sn.grown (upd_set _ H 1 _) (by simp; omega), h.hb.set1 uv', hu.kept (upd_set _ H 1 _) (by omega), upd_fresh h.gr h2 1 _⟩
/-- an append, and its store -/
theorem HI.far {w : World} {R H S n c : Nat} {p : Option Addr} {wr w2 : World} {A : Option Nat} {op : Bool} {seen : Nat} {st : Int} {un : Option (List Int)} {uv : Value} (hB : HB w R H S) (h : HI w R H S n c p wr A op seen st un uv) {row : Option Nat} (hg : wr.grownBy w2 row) (hrow : ∀ k, row = some k → S < k) :
    RS w2 R p n c A op ∧ Sn w2 S seen ∧ Hb w2 H st uv ∧ w.grownBy w2 (some R) := by
  have h1 := hB.r; have h2 := hB.h; have h3 := hB.s
  refine ⟨h.rs.grown hg fun e => ?_, h.sn.grown hg fun e => ?_, h.hb.grown hg fun e => ?_, ?_⟩
  · have := hrow R e.symm; omega
  · have := hrow S e.symm; omega
  · have := hrow H e.symm; omega
  · have hs := h.gr.size
    refine ⟨hg.os.trans h.gr.os, hg.tape.trans h.gr.tape, hg.output.trans h.gr.output, Nat.le_trans hs hg.size, fun k hk hr => (hg.block k (by omega) fun e => ?_).trans (h.gr.block k hk hr)⟩
    have := hrow k e.symm
    omega
theorem HI.app {w : World} {R H S n c : Nat} {p : Option Addr} {wr w2 : World} {A : Option Nat} {op : Bool} {seen : Nat} {st : Int} {un un' : Option (List Int)} {uv uv' : Value} (hB : HB w R H S) (h : HI w R H S n c p wr A op seen st un uv) {row : Option Nat} (hg : wr.grownBy w2 row) (hrow : ∀ k, row = some k → S < k) (hu : UnV w2 (S + 1) un' uv') :
    HI w R H S n c p (w2.setCell ⟨H, 1, none⟩ uv') A op seen st un' uv' := by
  have h1 := hB.r; have h2 := hB.h; have h3 := hB.s
  obtain ⟨a1, a2, a3, a4⟩ := h.far hB hg hrow
  exact ⟨a1.set (by omega) 1 _, a2.grown (upd_set _ H 1 _) (by simp; omega), a3.set1 uv', hu.kept (upd_set _ H 1 _) (by omega), upd_fresh a4 h2 1 _⟩

def HorOut (RES : Option (Nat × HS)) (R n c : Nat) (p : Option Addr) (w : World) (e : Ending) (w' : World) : Prop :=
  ∃ (A' : Option Nat) (op' : Bool) (T : HS) (uv : Value), e = .returned (.agg #[.int .u64 T.st, uv]) ∧ RS w' R p n c A' op' ∧ (A' = none ∨ op' = false) ∧ UnV w' w.heap.size T.un uv ∧ w.grownBy w' (some R) ∧ RES = A'.map fun k => (k, T)
set_option maxHeartbeats 4000000 in
set_option maxRecDepth 100000 in
theorem horizonA (R n c : Nat) (p : Option Addr) (xs : List Int) (A : Option Nat) (op : Bool) (w : World)
    (hE : En w R n c p xs) (hS : RS w R p n c A op) :
    Calls Tryd.prog 43 #[.pointer (some ⟨R, 0, none⟩)] w fun e w' => HorOut (horR xs A) R n c p w e w' := by
  have hRl : R < w.heap.size := by
    obtain ⟨k, _, h, _⟩ := hS
    exact h.lt
  have HE : Hid (En w R n c p xs) := hE
  have HRL : Hid (R < w.heap.size) := hRl
  obtain ⟨w1, HW1⟩ : ∃ w1, Hid (w.alloc (Obj.cells #[Value.int IntKind.u64 0, Value.slice none 0 0] 36) = w1) := ⟨_, rfl⟩
  obtain ⟨H, HH⟩ : ∃ H, Hid (w.heap.size = H) := ⟨_, rfl⟩
  have HG1 : Hid (w.grownBy w1 (some R)) := by rw [← HW1.out]; exact World.grownBy_alloc _ _ _
  have HHB1 : Hid (Hb w1 H 0 (.slice none 0 0)) := by rw [← HW1.out, ← HH.out]; exact heap_alloc_new w _
  have hob := objectA R n c p xs A op w1 hE.hn hE.hx (hS.grown (World.grownBy_alloc w (Obj.cells #[Value.int IntKind.u64 0, Value.slice none 0 0] 36) none) (by simp) |> fun h => by rw [HW1.out] at h; exact h) (hE.dat.grown HG1.out)
  have HOB : Hid (Calls Tryd.prog 21 #[.pointer (some ⟨R, 0, none⟩)] w1 fun e w' => e = .returned (.bool (exA xs 123 A).isSome) ∧ RS w' R p n c (exA xs 123 A) true ∧ w1.grownBy w' (some R)) := hob
  have HRES : Hid (horR xs A = hd xs (stepH xs) (xs.length + 1) (exA xs 123 A) true HS0) := rfl
  clear hE hS hRl hob
  generalize horR xs A = RES at HRES ⊢
  generalize exA xs 123 A = A1 at HOB HRES
  go_enter Tryd.func43, Tryd.ntmps43
  go_wp2_with fail
  rw [HW1.out, HH.out]
  refine HOB.out.mono ?_
  rintro e w2 ⟨rfl, hS2, hG2⟩
  have HS2 : Hid (RS w2 R p n c A1 true) := hS2
  have HG2 : Hid (w.grownBy w2 (some R)) := HG1.out.trans hG2
  have HB2 : Hid (Hb w2 H 0 (.slice none 0 0)) := HHB1.out.grown hG2 (by have := HRL.out; have := HH.out; simp; omega)
  clear hS2 hG2 HOB HHB1 HG1
  cases A1 with
  | none => as_aux_lemma =>
    have d0 := HB2.out.c0
    have d1 := HB2.out.c1
    have e0 := HB2.out.fz 0
    have e1 := HB2.out.fz 1
    go_wp2_with fail
    have HB3 : Hid (Hb ((w2.setCell ⟨H, 0, none⟩ (Value.int IntKind.u64 0)).setCell ⟨H, 1, none⟩ (Value.slice none 0 0)) H 0 (.slice none 0 0)) := (HB2.out.set0 0).set1 _
    have HS3 : Hid (RS ((w2.setCell ⟨H, 0, none⟩ (Value.int IntKind.u64 0)).setCell ⟨H, 1, none⟩ (Value.slice none 0 0)) R p n c none true) := (HS2.out.set (by have := HRL.out; have := HH.out; omega) 0 _).set (by have := HRL.out; have := HH.out; omega) 1 _
    have HG3 : Hid (w.grownBy ((w2.setCell ⟨H, 0, none⟩ (Value.int IntKind.u64 0)).setCell ⟨H, 1, none⟩ (Value.slice none 0 0)) (some R)) := upd_fresh (upd_fresh HG2.out (by rw [HH.out]; exact Nat.le_refl _) 0 _) (by rw [HH.out]; exact Nat.le_refl _) 1 _
    generalize (w2.setCell ⟨H, 0, none⟩ (Value.int IntKind.u64 0)).setCell ⟨H, 1, none⟩ (Value.slice none 0 0) = w3 at HB3 HS3 HG3 ⊢
    (try simp only [Exit.inBlock, Exit.then])
    refine bodyPost_ret (results_cell_row (p := 2) (ty := 36) (by kernel_rfl) _ _ H 36 _ (0, 0) _ (by rfl) HB3.out Tryd.underlying36 rfl (by kernel_rfl)) rfl ?_
    exact ⟨none, true, HS0, .slice none 0 0, rfl, HS3.out, .inl rfl, rfl, HG3.out, by rw [HRES.out]; rfl⟩
  | some k1 => as_aux_lemma =>
    obtain ⟨S, HSS⟩ : ∃ S, Hid (w2.heap.size = S) := ⟨_, rfl⟩
    obtain ⟨w3, HW3⟩ : ∃ w3, Hid (w2.alloc (Obj.cells #[Value.int IntKind.u64 0] 67) = w3) := ⟨_, rfl⟩
    have HBB : Hid (HB w R H S) := ⟨HRL.out, by rw [HH.out]; exact Nat.le_refl _, by rw [← HSS.out]; exact HB2.out.lt⟩
    have HI3 : Hid (HI w R H S n c p w3 (some k1) true 0 0 none (.slice none 0 0)) := by
      rw [← HW3.out]
      exact ⟨HS2.out.grown (World.grownBy_alloc _ _ none) (by simp), by rw [← HSS.out]; exact heap_alloc_new w2 _, HB2.out.grown (World.grownBy_alloc _ _ none) (by simp), rfl, HG2.out.trans (World.grownBy_alloc _ _ _)⟩
    clear HS2 HG2 HB2
    go_wp2_with fail
    rw [HW3.out, HSS.out]
    go_loopg [] (n + 1) (fun g wr => ∃ (A : Option Nat) (op : Bool) (T : HS) (uv : Value), 0 < g ∧ Hid (∀ k, A = some k → n - k < g) ∧ (T.seen < 16) ∧ Hid (HI w R H S n c p wr A op T.seen T.st T.un uv) ∧ Hid (RES = hd xs (stepH xs) g A op T))
    case atStart => exact ⟨some k1, true, HS0, _, by omega, fun k hk => by omega, by decide, HI3, by have := HRES.out; rw [HE.out.hx] at this; exact this⟩
    case round =>
      obtain ⟨A, op, T, uv, hg0, HA, hsn, HI, HR⟩ := hrel
      clear HI3 HRES
      obtain ⟨seen, st, un⟩ := T
      obtain ⟨g, rfl⟩ : ∃ g, gk = g + 1 := ⟨gk - 1, by omega⟩
      have hEr := HE.out.grown HI.out.gr
      have hk := keyA R n c p xs A op wr hEr.hn hEr.hcap hEr.hcb hEr.hx HI.out.rs hEr.dat hEr.vok
      have HKN : Hid (∀ k, A = some k → k ≤ n) := fun k hk => by subst hk; exact HI.out.rs.le
      have HK : Hid (Calls Tryd.prog 22 #[.pointer (some ⟨R, 0, none⟩)] wr fun e w' => KeyOut xs R n c p A op wr e w') := hk
      clear hk hEr
      go_wp2_with fail
      refine HK.out.mono ?_
      rintro e w4 ⟨⟨kv, rfl, hkv⟩, hS4, hG4⟩
      have HI4 : Hid (Go.Proofs.Qxb6605662aDoor.HI w R H S n c p w4 (keyS xs A op) false seen st un uv) := HI.out.call HBB.out hG4 hS4
      have HKV : Hid (∀ s q m, keyR xs A op = some (s, q, m) → s ≤ q ∧ q < n ∧ ∃ b o, p = some ⟨b, o, none⟩ ∧ kv = .slice (some ⟨b, o + s, none⟩) (q - s) (c - s)) := hkv
      clear hkv hS4 hG4 HK HI
      cases hkr : keyR xs A op with
      | none => as_aux_lemma =>
        have HEND : Hid (RES = (keyS xs A op).map fun k => (k, (⟨seen, st, un⟩ : HS))) := HR.out.trans (hd_end _ _ _ hkr)
        generalize keyS xs A op = A' at HEND HI4
        obtain ⟨pa, ln, cp, rfl⟩ := HI4.out.uv.form
        have d0 := HI4.out.hb.c0
        have d1 := HI4.out.hb.c1
        have e0 := HI4.out.hb.fz 0
        have e1 := HI4.out.hb.fz 1
        clear hkr HKV HR
        go_wp2_with fail
        have HI5 : Hid (Go.Proofs.Qxb6605662aDoor.HI w R H S n c p ((w4.setCell ⟨H, 0, none⟩ (Value.int IntKind.u64 st)).setCell ⟨H, 1, none⟩ (.slice pa ln cp)) A' false seen st un (.slice pa ln cp)) := (HI4.out.set0 HBB.out st).set1 HBB.out ((HI4.out.set0 HBB.out st).uv)
        generalize (w4.setCell ⟨H, 0, none⟩ (Value.int IntKind.u64 st)).setCell ⟨H, 1, none⟩ (.slice pa ln cp) = w5 at HI5 ⊢
        (try simp only [Exit.inBlock, Exit.then])
        refine bodyPost_ret (results_cell_row (p := 2) (ty := 36) (by kernel_rfl) _ _ H 36 _ (0, 0) _ (by rfl) HI5.out.hb Tryd.underlying36 rfl (by kernel_rfl)) rfl ?_
        exact ⟨A', false, ⟨seen, st, un⟩, _, rfl, HI5.out.rs, .inr rfl, HI5.out.uv.mono (by have := HBB.out.h; have := HBB.out.s; omega), HI5.out.gr, HEND.out⟩
      | some x => as_aux_lemma =>
        obtain ⟨s, q, m⟩ := x
        obtain ⟨hsq, hqn, b, o, hp, rfl⟩ := HKV.out s q m hkr
        obtain ⟨k, rfl⟩ := keyR_some hkr
        have hkl := keyR_lt (by rw [HE.out.hx]; exact HKN.out k rfl) hkr
        have HMN : Hid (k < m ∧ m ≤ n ∧ n - m < g ∧ 0 < g) := by
          have h1 := HA.out k rfl
          have h2 := HE.out.hx
          exact ⟨hkl.1, by omega, by omega, by omega⟩
        have HST : Hid (RES = bindH (stepH xs (strOfNums (sub xs s q)) m ⟨seen, st, un⟩) fun m' S' => hd xs (stepH xs) g (some m') false S') := HR.out.trans (hd_key' (stepH xs) g (⟨seen, st, un⟩ : HS) hkr)
        have hks : keyS xs (some k) op = some m := by
          unfold keyS
          cases hb : mbB xs 125 (some k) op with
          | false => rw [(keyR_no hb).1] at hkr; cases hkr
          | true => rw [hkr]; rfl
        rw [hks] at HI4
        subst hp
        have kc := conv_at' w4 b o n c R s q xs HE.out.hx hsq (by omega) (HE.out.dat.grown HI4.out.gr)
        clear HR HA HKV hks hkr hkl HKN
        generalize strOfNums (sub xs s q) = K at kc HST
        have HON : Hid (∀ pl : Nat, pl < 4 → Calls Tryd.prog 41 #[.pointer (some ⟨S, 0, none⟩), .pointer (some ⟨R, 0, none⟩), .int .u64 pl] w4 fun e w' => e = .returned (.tuple #[]) ∧ w' = onW R S seen pl w4) :=
          fun pl hpl => onceA R S n c seen pl _ (some m) false w4 hsn hpl (by have := HBB.out.r; have := HBB.out.h; have := HBB.out.s; omega) HI4.out.rs HI4.out.sn
        by_cases hK1 : K = kSe
        · as_aux_lemma =>
          subst hK1
          have hb1 : (kSe.toList == [115, 101, 116, 116, 108, 101, 100]) = true := str_eq rfl rfl
          have h0 := HON.out 0 (by omega)
          have HO0 : Hid (Calls Tryd.prog 41 #[.pointer (some ⟨S, 0, none⟩), .pointer (some ⟨R, 0, none⟩), .int .u64 0] w4 fun e w' => e = .returned (.tuple #[]) ∧ w' = onW R S seen 0 w4) := h0
          have HI5 : Hid (Go.Proofs.Qxb6605662aDoor.HI w R H S n c (some ⟨b, o, none⟩) (onW R S seen 0 w4) (onA seen 0 (some m)) false (seen ||| 1) st un uv) := HI4.out.once HBB.out 0
          have hui := uintA R n c _ xs (onA seen 0 (some m)) false (onW R S seen 0 w4) HE.out.hn HE.out.hx HI5.out.rs (HE.out.dat.grown HI5.out.gr)
          have HUI : Hid (Calls Tryd.prog 23 #[.pointer (some ⟨R, 0, none⟩)] (onW R S seen 0 w4) fun e w' => e = .returned (.int .u64 (uiV xs (onA seen 0 (some m)))) ∧ RS w' R (some ⟨b, o, none⟩) n c (uiS xs (onA seen 0 (some m))) false ∧ (onW R S seen 0 w4).grownBy w' (some R)) := hui
          have HRS : Hid (RES = (uiA xs (onA seen 0 (some m))).bind fun x => hd xs (stepH xs) g (some x.2) false ⟨seen ||| 1, x.1, un⟩) := by
            show _ = _
            rw [HST.out]
            unfold stepH
            rw [if_pos rfl]
            cases uiA xs (onA seen 0 (some m)) with
            | none => rfl
            | some x => rfl
          have HLT : Hid (∀ x, uiA xs (onA seen 0 (some m)) = some x → m < x.2) := fun x hx => by
            unfold onA at hx
            split at hx
            · cases hx
            · have h1 := sk_le xs m (by rw [HE.out.hx]; exact HMN.out.2.1)
              have h2 := dgR_lt (v := x.1) (m := x.2) (by omega) hx
              omega
          clear h0 hui HON HST
          go_wp2_with fail
          refine HO0.out.mono ?_
          rintro e w5 ⟨rfl, hw⟩; obtain rfl := hw.symm
          go_wp2_with fail
          refine HUI.out.mono ?_
          rintro e w6 ⟨rfl, hS6, hG6⟩
          have HI6 : Hid (Go.Proofs.Qxb6605662aDoor.HI w R H S n c (some ⟨b, o, none⟩) w6 (uiS xs (onA seen 0 (some m))) false (seen ||| 1) st un uv) := HI5.out.call HBB.out hG6 hS6
          have d0 := HI6.out.hb.c0
          have e0 := HI6.out.hb.fz 0
          clear hS6 hG6 HUI HO0 HI5 HI4
          go_wp2_with fail
          go_roundg g
          case measure => omega
          case rel =>
            refine ⟨uiS xs (onA seen 0 (some m)), false, ⟨seen ||| 1, uiV xs (onA seen 0 (some m)), un⟩, uv, HMN.out.2.2.2, fun k' hk' => ?_, mask_lt seen 0 hsn (by omega), HI6.out.set0 HBB.out _, ?_⟩
            · unfold uiS at hk'
              cases hx : uiA xs (onA seen 0 (some m)) with
              | none => rw [hx] at hk'; cases hk'
              | some x =>
                rw [hx] at hk'
                simp only [Option.map_some, Option.some.injEq] at hk'
                have := HLT.out x hx
                have := HMN.out
                omega
            · show _ = _
              rw [HRS.out]
              unfold uiS uiV
              cases uiA xs (onA seen 0 (some m)) with
              | none => rfl
              | some x => rfl
        · have hb1 : (K.toList == [115, 101, 116, 116, 108, 101, 100]) = false := str_ne (L := kSe) rfl hK1
          by_cases hK2 : K = kUn
          · as_aux_lemma =>
            subst hK2
            have hb2 : (kUn.toList == [117, 110, 115, 101, 116, 116, 108, 101, 100]) = true := str_eq rfl rfl
            have h0 := HON.out 1 (by omega)
            have HO0 : Hid (Calls Tryd.prog 41 #[.pointer (some ⟨S, 0, none⟩), .pointer (some ⟨R, 0, none⟩), .int .u64 1] w4 fun e w' => e = .returned (.tuple #[]) ∧ w' = onW R S seen 1 w4) := h0
            have HI5 : Hid (Go.Proofs.Qxb6605662aDoor.HI w R H S n c (some ⟨b, o, none⟩) (onW R S seen 1 w4) (onA seen 1 (some m)) false (seen ||| 2) st un uv) := HI4.out.once HBB.out 1
            have har := arrayA R n c _ xs (onA seen 1 (some m)) false (onW R S seen 1 w4) HE.out.hn HE.out.hx HI5.out.rs (HE.out.dat.grown HI5.out.gr)
            have HAR : Hid (Calls Tryd.prog 48 #[.pointer (some ⟨R, 0, none⟩)] (onW R S seen 1 w4) fun e w' => e = .returned (.bool (exA xs 91 (onA seen 1 (some m))).isSome) ∧ RS w' R (some ⟨b, o, none⟩) n c (exA xs 91 (onA seen 1 (some m))) true ∧ (onW R S seen 1 w4).grownBy w' (some R)) := har
            have HRS : Hid (RES = (hdA xs (n + 1) (exA xs 91 (onA seen 1 (some m))) true []).bind fun x => hd xs (stepH xs) g (some x.1) false ⟨seen ||| 2, st, some x.2⟩) := by
              show _ = _
              rw [HST.out]
              unfold stepH arrR
              rw [if_neg (by decide), if_pos rfl, HE.out.hx]
              cases hdA xs (n + 1) (exA xs 91 (onA seen 1 (some m))) true [] with
              | none => rfl
              | some x => rfl
            have HLT : Hid (∀ k2, exA xs 91 (onA seen 1 (some m)) = some k2 → m < k2 ∧ k2 ≤ n) := fun k2 hx => by
              unfold onA at hx
              split at hx
              · cases hx
              · have := exA_lt (by rw [HE.out.hx]; exact HMN.out.2.1) hx
                rw [HE.out.hx] at this
                exact this
            have hsn2 := mask_lt seen 1 hsn (by omega)
            have HSN2 : Hid (seen ||| 2 < 16) := hsn2
            clear h0 har HON HST hsn2 hK1
            generalize exA xs 91 (onA seen 1 (some m)) = A2 at HAR HRS HLT
            generalize seen ||| 2 = seen2 at HI5 HRS HSN2
            go_wp2_with fail
            refine HO0.out.mono ?_
            rintro e w5 ⟨rfl, hw⟩; obtain rfl := hw.symm
            go_wp2_with fail
            refine HAR.out.mono ?_
            rintro e w6 ⟨rfl, hS6, hG6⟩
            have HI6 : Hid (Go.Proofs.Qxb6605662aDoor.HI w R H S n c (some ⟨b, o, none⟩) w6 A2 true seen2 st un uv) := HI5.out.call HBB.out hG6 hS6
            clear hS6 hG6 HAR HO0 HI5 HI4
            cases A2 with
            | none =>
              go_wp2_with fail
              go_roundg g
              case measure => omega
              case rel => exact ⟨none, true, ⟨seen2, st, un⟩, uv, HMN.out.2.2.2, fun k' hk' => (by cases hk'), HSN2.out, HI6, HRS.out⟩
            | some k2 =>
              have d1 := HI6.out.hb.c1
              have e1 := HI6.out.hb.fz 1
              have hHl := HI6.out.hb.lt
              have HHl : Hid (H < w6.heap.size) := hHl
              go_wp2_with fail
              have HG0 : Hid (S < w6.heap.size) := HI6.out.sn.lt
              have HI7 : Hid (Go.Proofs.Qxb6605662aDoor.HI w R H S n c (some ⟨b, o, none⟩) ((w6.setCell ⟨H, 1, none⟩ (.slice (some ⟨w6.heap.size, 0, none⟩) 0 0)).alloc (Obj.cells #[] 25)) (some k2) true seen2 st (some []) (.slice (some ⟨w6.heap.size, 0, none⟩) 0 0)) := by
                have h1 := HBB.out.r; have h2 := HBB.out.h; have h3 := HBB.out.s; have h4 := HG0.out
                have hsz : (w6.setCell ⟨H, 1, none⟩ (.slice (some ⟨w6.heap.size, 0, none⟩) 0 0)).heap.size = w6.heap.size := by simp
                refine ⟨(HI6.out.rs.set (by omega) 1 _).grown (World.grownBy_alloc _ _ none) (by simp), (HI6.out.sn.grown (upd_set _ H 1 _) (by simp; omega)).grown (World.grownBy_alloc _ _ none) (by simp), (HI6.out.hb.set1 _).grown (World.grownBy_alloc _ _ none) (by simp), ⟨⟨_, _, rfl⟩, rfl, .inr ⟨w6.heap.size, 0, #[], rfl, by omega, ?_, Nat.le_refl _, by unfold maxLen; omega, rfl, rfl⟩⟩, (upd_fresh HI6.out.gr h2 1 _).trans (World.grownBy_alloc _ _ _)⟩
                have := heap_alloc_new (w6.setCell ⟨H, 1, none⟩ (.slice (some ⟨w6.heap.size, 0, none⟩) 0 0)) (Obj.cells #[] 25)
                rw [hsz] at this
                exact this
              generalize (w6.setCell ⟨H, 1, none⟩ (.slice (some ⟨w6.heap.size, 0, none⟩) 0 0)).alloc (Obj.cells #[] 25) = w7 at HI7 ⊢
              generalize Value.slice (some ⟨w6.heap.size, 0, none⟩) 0 0 = uv7 at HI7 ⊢
              clear d1 e1 hHl HHl HG0 HI6
              obtain ⟨RA, HRA⟩ : ∃ RA, Hid (hdA xs (n + 1) (some k2) true [] = RA) := ⟨_, rfl⟩
              rw [HRA.out] at HRS
              have hmk := HLT.out k2 rfl
              clear HLT
              go_loopg [] (n + 1) (fun g2 wr => ∃ (A : Option Nat) (op : Bool) (acc : List Int) (uv : Value), 0 < g2 ∧ Hid (∀ k, A = some k → n - k + 1 < g2 ∧ m ≤ k) ∧ acc.length + g2 ≤ n + 1 ∧ Hid (HI w R H S n c (some ⟨b, o, none⟩) wr A op seen2 st (some acc) uv) ∧ Hid (RA = hdA xs g2 A op acc))
              case atStart => exact ⟨some k2, true, [], uv7, by omega, fun k hk => (by cases hk; omega), by simp, HI7, HRA.out.symm⟩
              case round =>
                obtain ⟨A, op, acc, uv8, hg2, HA, hacc, HI, HR⟩ := hrel
                clear HI7 HRA
                obtain ⟨g2, rfl⟩ : ∃ g, gk = g + 1 := ⟨gk - 1, by omega⟩
                have hmo := moreA R n c _ xs A op wr HE.out.hn HE.out.hx HI.out.rs (HE.out.dat.grown HI.out.gr)
                have HMO : Hid (Calls Tryd.prog 49 #[.pointer (some ⟨R, 0, none⟩)] wr fun e w' => e = .returned (.bool (mbB xs 93 A op)) ∧ RS w' R (some ⟨b, o, none⟩) n c (mbA xs 93 A op) false ∧ wr.grownBy w' (some R)) := hmo
                have HKN : Hid (∀ k, A = some k → k ≤ n) := fun k hk => by subst hk; exact HI.out.rs.le
                clear hmo
                cases hmb : mbB xs 93 A op with
                | false => as_aux_lemma =>
                  have HEND : Hid (RA = (mbA xs 93 A op).map fun k => (k, acc)) := HR.out.trans (hdA_end _ _ hmb)
                  have HLT2 : Hid (∀ k', mbA xs 93 A op = some k' → m ≤ k') := fun k' hk' => by
                    unfold mbB at hmb
                    unfold mbA at hk'
                    cases A with
                    | none => cases op <;> simp [isA, exA, spA] at hk'
                    | some k =>
                      have h1 := HA.out k rfl
                      have h2 := sk_le xs k (by rw [HE.out.hx]; exact HKN.out k rfl)
                      cases hi : isA xs 93 (some k) with
                      | true =>
                        rw [hi] at hk'
                        unfold nxA at hk'
                        rw [hi] at hk'
                        simp [spA] at hk'
                        omega
                      | false =>
                        rw [hi] at hk' hmb
                        cases op with
                        | true => simp at hmb
                        | false =>
                          simp at hmb hk'
                          rw [hmb] at hk'
                          cases hk'
                  rw [hmb] at HMO
                  clear hmb
                  generalize mbA xs 93 A op = A' at HMO HEND HLT2
                  go_wp2_with fail
                  refine HMO.out.mono ?_
                  rintro e w8 ⟨rfl, hS8, hG8⟩
                  have HI8 : Hid (Go.Proofs.Qxb6605662aDoor.HI w R H S n c (some ⟨b, o, none⟩) w8 A' false seen2 st (some acc) uv8) := HI.out.call HBB.out hG8 hS8
                  clear hS8 hG8
                  go_wp2_with fail
                  go_roundg g
                  case measure => omega
                  case rel =>
                    refine ⟨A', false, ⟨seen2, st, some acc⟩, uv8, HMN.out.2.2.2, fun k' hk' => ?_, HSN2.out, HI8, ?_⟩
                    · have := HLT2.out k' hk'
                      have := HMN.out
                      omega
                    · show _ = _
                      rw [HRS.out, HEND.out]
                      cases A' <;> rfl
                | true => as_aux_lemma =>
                  obtain ⟨j, hj⟩ := mbA_isNone xs 93 A op hmb
                  have HMORE : Hid (RA = (uiA xs (some j)).bind fun x => hdA xs g2 (some x.2) false (acc ++ [x.1])) := by
                    show _ = _
                    rw [HR.out, hdA_more _ _ hmb, hj]
                    cases uiA xs (some j) with
                    | none => rfl
                    | some x => rfl
                  have HJ : Hid (n - j + 1 < g2 + 1 ∧ m ≤ j ∧ j ≤ n) := by
                    cases A with
                    | none => unfold mbB at hmb; cases op <;> simp [isA, exA] at hmb
                    | some k =>
                      have h1 := HA.out k rfl
                      have h2 := mbA_lt (by rw [HE.out.hx]; exact HKN.out k rfl) hmb hj
                      rw [HE.out.hx] at h2
                      exact ⟨by omega, by omega, h2.2⟩
                  have HUL : Hid (∀ x, uiA xs (some j) = some x → j < x.2 ∧ x.2 ≤ n) := fun x hx => by
                    have h1 := sk_le xs j (by rw [HE.out.hx]; exact HJ.out.2.2)
                    have h2 := dgR_lt (v := x.1) (m := x.2) (by omega) hx
                    rw [HE.out.hx] at h2
                    omega
                  rw [hmb, hj] at HMO
                  clear hmb hj HR HA HKN
                  go_wp2_with fail
                  refine HMO.out.mono ?_
                  rintro e w8 ⟨rfl, hS8, hG8⟩
                  have HI8 : Hid (Go.Proofs.Qxb6605662aDoor.HI w R H S n c (some ⟨b, o, none⟩) w8 (some j) false seen2 st (some acc) uv8) := HI.out.call HBB.out hG8 hS8
                  have HUI : Hid (∀ W, W.heap = w8.heap → W.os = w8.os → W.tape = w8.tape → W.output = w8.output → Calls Tryd.prog 23 #[.pointer (some ⟨R, 0, none⟩)] W fun e w' => e = .returned (.int .u64 (uiV xs (some j))) ∧ Go.Proofs.Qxb6605662aDoor.HI w R H S n c (some ⟨b, o, none⟩) w' (uiS xs (some j)) false seen2 st (some acc) uv8) := by
                    intro W h1 h2 h3 h4
                    have hg : w8.grownBy W (some R) := ⟨h2, h3, h4, by rw [h1]; exact Nat.le_refl _, fun k _ _ => by rw [h1]⟩
                    have hI : Go.Proofs.Qxb6605662aDoor.HI w R H S n c (some ⟨b, o, none⟩) W (some j) false seen2 st (some acc) uv8 := HI8.out.call HBB.out hg (by
                      obtain ⟨k, a1, a2, a3⟩ := HI8.out.rs
                      exact ⟨k, a1, by unfold Rd; rw [h1]; exact a2, a3⟩)
                    refine (uintA R n c _ xs (some j) false W HE.out.hn HE.out.hx hI.rs (HE.out.dat.grown hI.gr)).mono fun e w' ⟨he, hs, hg'⟩ => ⟨he, hI.call HBB.out hg' hs⟩
                  have d1 := HI8.out.hb.c1
                  clear hS8 hG8 HI HMO
                  obtain ⟨i25, hi25, hz0, hz1, hz2⟩ := info_parts Tryd.info25
                  obtain ⟨V, HV⟩ : ∃ V, Hid (uiV xs (some j) = V) := ⟨_, rfl⟩
                  rw [HV.out] at HUI
                  have hac : acc.length ≤ n := by omega
                  have HN : Hid (n ≤ 2147483648) := HE.out.hn
                  go_wp2_with fail
                  go_region_law
                    (first
                      | (refine step_append_lies _ (by rfl) _ _ _ (by rfl) (S + 1) 25 i25 _ 1 8 Tryd.underlying26 hi25 hz0 hz1 hz2 rfl (by omega) uv8 acc.length (acc.map (Value.int .u64)) (by rfl) (HI9.out.uv.2.alloc _)
                          ⟨w9.heap.size, 0, none⟩ 1 1 [.int .u64 V] (by rfl) (by rfl) (World.news_of_block (cs := #[.int .u64 V]) (t := 25) (fr := (0, 0)) (heap_alloc_new w9 _)) (by simp [Value.oneCell'])
                          (by omega) (by have := HN.out; unfold maxLen; omega) (by have := HN.out; omega) (by have := HI9.out.sn.lt; simp; omega) (w9.heap.size + 1) (by simp) ?_; intro gg cap w10 hown10 hgrow hat hlt; have HO10 : Hid (w10.ownsRow (S + 1) 25 1 (.slice (some ⟨gg, 0, none⟩) (acc.length + 1) cap) (acc.length + 1) (acc.map (Value.int .u64) ++ [.int .u64 V])) := hown10; have HGR : Hid (w9.grownBy w10 uv8.ownBlock) := ⟨hgrow.os, hgrow.tape, hgrow.output, Nat.le_trans (by simp) hgrow.size, fun k hk hr => (hgrow.block k (by simp; omega) hr).trans ((World.grownBy_alloc w9 _ none).block k hk (by simp))⟩; have hfar := HI9.out.far HBB.out HGR.out (fun k hk => (HI9.out.uv.2.lt k hk).1); have d10 := hfar.2.2.1.c1; have e10 := hfar.2.2.1.fz 1; clear hfar hown10 hgrow hat hlt)
                      | (go_simp; go_at_call 23; refine (HUI.out _ (by rfl) (by rfl) (by rfl) (by rfl)).mono ?_; rintro e w9 ⟨rfl, hI9⟩; have HI9 : Hid (Go.Proofs.Qxb6605662aDoor.HI w R H S n c (some ⟨b, o, none⟩) w9 (uiS xs (some j)) false seen2 st (some acc) uv8) := hI9; have d9 := hI9.hb.c1; have l9 := hI9.hb.lt; clear hI9))
                  all_goals
                    have HI11 : Hid (Go.Proofs.Qxb6605662aDoor.HI w R H S n c (some ⟨b, o, none⟩) (w10.setCell ⟨H, 1, none⟩ (.slice (some ⟨gg, 0, none⟩) (acc.length + 1) cap)) (uiS xs (some j)) false seen2 st (some (acc ++ [V])) (.slice (some ⟨gg, 0, none⟩) (acc.length + 1) cap)) :=
                      HI9.out.app HBB.out HGR.out (fun k hk => (HI9.out.uv.2.lt k hk).1) ⟨⟨gg, cap, by simp⟩, by rw [List.length_append, List.map_append]; exact HO10.out⟩
                    clear HI9 HGR HO10 d9 l9 d10 e10
                    go_wp2_with fail
                    go_roundg g2
                    case measure => omega
                    case rel =>
                      refine ⟨uiS xs (some j), false, acc ++ [V], _, by have := HJ.out; omega, fun k' hk' => ?_, by simp; omega, HI11, ?_⟩
                      · unfold uiS at hk'
                        cases hx : uiA xs (some j) with
                        | none => rw [hx] at hk'; cases hk'
                        | some x =>
                          rw [hx] at hk'
                          simp only [Option.map_some, Option.some.injEq] at hk'
                          have := HUL.out x hx
                          have := HJ.out
                          omega
                      · show _ = _
                        rw [HMORE.out, ← HV.out]
                        unfold uiS uiV
                        cases uiA xs (some j) with
                        | none => rfl
                        | some x => rfl
          · as_aux_lemma =>
            have hb2 : (K.toList == [117, 110, 115, 101, 116, 116, 108, 101, 100]) = false := str_ne (L := kUn) rfl hK2
            have HRS : Hid (RES = none) := by
              show _ = _
              rw [HST.out]
              unfold stepH
              rw [if_neg hK1, if_neg hK2]
              rfl
            have hgu := giveUpA R n c _ (some m) false w4 HI4.out.rs
            have HGU : Hid (Calls Tryd.prog 44 #[.pointer (some ⟨R, 0, none⟩)] w4 fun e w' => e = .returned (.tuple #[]) ∧ w' = offW R w4) := hgu
            have HI5 : Hid (Go.Proofs.Qxb6605662aDoor.HI w R H S n c (some ⟨b, o, none⟩) (offW R w4) none false seen st un uv) := HI4.out.seto HBB.out
            clear hgu HON HST hK1 hK2
            go_wp2_with fail
            refine HGU.out.mono ?_
            rintro e w5 ⟨rfl, hw⟩; obtain rfl := hw.symm
            go_wp2_with fail
            go_roundg g
            case measure => omega
            case rel => exact ⟨none, false, ⟨seen, st, un⟩, uv, HMN.out.2.2.2, fun k' hk' => (by cases hk'), hsn, HI5, HRS.out⟩
end Go.Proofs.Qxb6605662aDoor
