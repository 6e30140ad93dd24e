import Derived.Test.Qxb6605662aDoorD2
namespace Go.Proofs.Qxb6605662aDoor
open Go.RowKit

/-! ### the members move on -/
theorem hd_le {σ : Type} {xs : List Int} {step : ByteArray → Nat → σ → Option (Nat × σ)} (hstep : ∀ K m S x, m ≤ xs.length → step K m S = some x → m ≤ x.1 ∧ x.1 ≤ xs.length) :
    ∀ (g : Nat) (k : Nat) (op : Bool) (S : σ) (x : Nat × σ), k ≤ xs.length → hd xs step g (some k) op S = some x → k ≤ x.1 ∧ x.1 ≤ xs.length := by
  have hO : ∀ g, (∀ (k : Nat) (op : Bool) (S : σ) (x : Nat × σ), k ≤ xs.length → hd xs step g (some k) op S = some x → k ≤ x.1 ∧ x.1 ≤ xs.length) → ∀ (p : Nat) (S : σ) (x : Nat × σ), p ≤ xs.length → objT xs step (g + 1) p S = some x → p ≤ x.1 ∧ x.1 ≤ xs.length := by
    intro g ih p S x hp h
    rw [objT_succ] at h
    cases hk : keyP xs p with
    | none => rw [hk] at h; cases h
    | some y =>
      obtain ⟨s, q, m⟩ := y
      rw [hk] at h
      have hl := keyP_lt hp hk
      simp only at h
      cases hs : step (strOfNums (sub xs s q)) m S with
      | none => rw [hs] at h; cases h
      | some z =>
        obtain ⟨m', S'⟩ := z
        rw [hs] at h
        have h1 := hstep _ _ _ _ hl.2.1 hs
        have h2 := ih m' false S' x h1.2 h
        exact ⟨by omega, h2.2⟩
  have hH : ∀ g, (∀ (p : Nat) (S : σ) (x : Nat × σ), p ≤ xs.length → objT xs step g p S = some x → p ≤ x.1 ∧ x.1 ≤ xs.length) → ∀ (k : Nat) (op : Bool) (S : σ) (x : Nat × σ), k ≤ xs.length → hd xs step g (some k) op S = some x → k ≤ x.1 ∧ x.1 ≤ xs.length := by
    intro g ho k op S x hk h
    unfold hd at h
    simp only at h
    split at h
    · rename_i hi
      simp only [Option.some.injEq] at h
      subst h
      have h1 := sk_le xs k hk
      have : sk xs k < xs.length := by unfold isA at hi; simp at hi; exact hi.1
      exact ⟨by simp; omega, by simp; omega⟩
    · split at h
      · exact ho k S x hk h
      · cases he : exA xs 44 (some k) with
        | none => rw [he] at h; cases h
        | some p' =>
          rw [he] at h
          have h1 := exA_lt hk he
          have h2 := ho p' S x h1.2 h
          exact ⟨by omega, h2.2⟩
  intro g
  induction g with
  | zero => exact hH 0 (fun p S x _ h => by simp [objT] at h)
  | succ g ih => exact hH (g + 1) (hO g ih)
theorem hdA_le {xs : List Int} : ∀ (g : Nat) (k : Nat) (op : Bool) (acc : List Int) (x : Nat × List Int), k ≤ xs.length → hdA xs g (some k) op acc = some x → k ≤ x.1 ∧ x.1 ≤ xs.length := by
  have hO : ∀ g, (∀ (k : Nat) (op : Bool) (S : List Int) (x : Nat × List Int), k ≤ xs.length → hdA xs g (some k) op S = some x → k ≤ x.1 ∧ x.1 ≤ xs.length) → ∀ (p : Nat) (S : List Int) (x : Nat × List Int), p ≤ xs.length → arrT xs (g + 1) p S = some x → p ≤ x.1 ∧ x.1 ≤ xs.length := by
    intro g ih p S x hp h
    rw [arrT_succ] at h
    cases hk : uiA xs (some p) with
    | none => rw [hk] at h; cases h
    | some y =>
      obtain ⟨v, m⟩ := y
      rw [hk] at h
      have h0 := sk_le xs p hp
      have hl := dgR_lt h0.2 hk
      have h2 := ih m false _ x hl.2 h
      exact ⟨by omega, h2.2⟩
  have hH : ∀ g, (∀ (p : Nat) (S : List Int) (x : Nat × List Int), p ≤ xs.length → arrT xs g p S = some x → p ≤ x.1 ∧ x.1 ≤ xs.length) → ∀ (k : Nat) (op : Bool) (S : List Int) (x : Nat × List Int), k ≤ xs.length → hdA xs g (some k) op S = some x → k ≤ x.1 ∧ x.1 ≤ xs.length := by
    intro g ho k op S x hk h
    unfold hdA at h
    simp only at h
    split at h
    · rename_i hi
      simp only [Option.some.injEq] at h
      subst h
      have h1 := sk_le xs k hk
      have : sk xs k < xs.length := by unfold isA at hi; simp at hi; exact hi.1
      exact ⟨by simp; omega, by simp; omega⟩
    · split at h
      · exact ho k S x hk h
      · cases he : exA xs 44 (some k) with
        | none => rw [he] at h; cases h
        | some p' =>
          rw [he] at h
          have h1 := exA_lt hk he
          have h2 := ho p' S x h1.2 h
          exact ⟨by omega, h2.2⟩
  intro g
  induction g with
  | zero => exact hH 0 (fun p S x _ h => by simp [arrT] at h)
  | succ g ih => exact hH (g + 1) (hO g ih)
theorem stepH_le {xs : List Int} (K : ByteArray) (m : Nat) (S : HS) (x : Nat × HS) (hm : m ≤ xs.length) (h : stepH xs K m S = some x) : m ≤ x.1 ∧ x.1 ≤ xs.length := by
  unfold stepH onA at h
  split at h
  · split at h
    · simp [uiA] at h
    · cases hu : uiA xs (some m) with
      | none => rw [hu] at h; cases h
      | some y =>
        rw [hu] at h
        simp only [Option.map_some, Option.some.injEq] at h
        subst h
        have h0 := sk_le xs m hm
        have hl := dgR_lt (v := y.1) (m := y.2) h0.2 hu
        exact ⟨by simp; omega, hl.2⟩
  · split at h
    · split at h
      · simp [arrR, exA, isA, hdA] at h
      · cases hu : arrR xs (some m) with
        | none => rw [hu] at h; cases h
        | some y =>
          rw [hu] at h
          simp only [Option.map_some, Option.some.injEq] at h
          subst h
          unfold arrR at hu
          cases he : exA xs 91 (some m) with
          | none => rw [he] at hu; simp [hdA] at hu
          | some k =>
            rw [he] at hu
            have h1 := exA_lt hm he
            have h2 := hdA_le _ _ _ _ _ h1.2 hu
            exact ⟨by simp; omega, h2.2⟩
    · cases h
theorem horR_le {xs : List Int} {m : Nat} {x : Nat × HS} (hm : m ≤ xs.length) (h : horR xs (some m) = some x) : m ≤ x.1 := by
  unfold horR objR at h
  cases he : exA xs 123 (some m) with
  | none => rw [he] at h; simp [hd] at h
  | some k =>
    rw [he] at h
    have h1 := exA_lt hm he
    have h2 := hd_le stepH_le _ _ _ _ _ h1.2 h
    omega

/-! ### readDecision -/
structure DI (w : World) (R D S n c : Nat) (p : Option Addr) (wr : World) (A : Option Nat) (op : Bool) (T : DS) (uv : Value) : Prop where
  rs : RS wr R p n c A op
  sn : Sn wr S T.seen
  db : Db wr D T.txn T.co T.ci T.st uv
  uv : UnV wr (S + 1) T.un uv
  gr : w.grownBy wr (some R)
section
variable {w : World} {R D S n c : Nat} {p : Option Addr} {wr w2 : World} {A A' : Option Nat} {op op' : Bool} {T : DS} {uv : Value}
theorem DI.call (hB : HB w R D S) (h : DI w R D S n c p wr A op T uv) (hg : wr.grownBy w2 (some R)) (hr : RS w2 R p n c A' op') : DI w R D S n c p w2 A' op' T uv :=
  ⟨hr, h.sn.grown hg (by have := hB.r; have := hB.h; have := hB.s; simp; omega), h.db.grown hg (by have := hB.r; have := hB.h; simp; omega), h.uv.kept hg (by have := hB.r; have := hB.h; have := hB.s; omega), h.gr.trans hg⟩
theorem DI.once (hB : HB w R D S) (h : DI w R D S n c p wr A op T uv) (pl : Nat) :
    DI w R D S n c p (onW R S T.seen pl wr) (onA T.seen pl A) op { T with seen := T.seen ||| 2 ^ pl } uv := by
  have h1 := hB.r; have h2 := hB.h; have h3 := hB.s
  refine ⟨onW_RS T.seen pl h.rs (by omega), onW_Sn pl h.sn (by omega), (onW_other pl D (by omega) (by omega)).trans h.db, ?_, onW_grown T.seen pl h.gr (by omega)⟩
  unfold onW
  refine UnV.kept ?_ (upd_set _ S 0 _) (by omega)
  split
  · exact h.uv.kept (upd_set _ R 2 _) (by omega)
  · exact h.uv
theorem DI.seto (hB : HB w R D S) (h : DI w R D S n c p wr A op T uv) : DI w R D S n c p (offW R wr) none op T uv := by
  have h1 := hB.r; have h2 := hB.h; have h3 := hB.s
  exact ⟨h.rs.off, h.sn.grown (upd_set _ R 2 _) (by simp; omega), h.db.grown (upd_set _ R 2 _) (by simp; omega), h.uv.kept (upd_set _ R 2 _) (by omega), h.gr.trans (upd_set _ R 2 _)⟩
theorem DI.set0 (hB : HB w R D S) (h : DI w R D S n c p wr A op T uv) (x : ByteArray) : DI w R D S n c p (wr.setCell ⟨D, 0, none⟩ (.string x)) A op { T with txn := x } uv := by
  have h1 := hB.r; have h2 := hB.h; have h3 := hB.s
  exact ⟨h.rs.set (by omega) 0 _, h.sn.grown (upd_set _ D 0 _) (by simp; omega), h.db.set0 x, h.uv.kept (upd_set _ D 0 _) (by omega), upd_fresh h.gr h2 0 _⟩
theorem DI.set1 (hB : HB w R D S) (h : DI w R D S n c p wr A op T uv) (x : ByteArray) : DI w R D S n c p (wr.setCell ⟨D, 1, none⟩ (.string x)) A op { T with co := x } uv := by
  have h1 := hB.r; have h2 := hB.h; have h3 := hB.s
  exact ⟨h.rs.set (by omega) 1 _, h.sn.grown (upd_set _ D 1 _) (by simp; omega), h.db.set1 x, h.uv.kept (upd_set _ D 1 _) (by omega), upd_fresh h.gr h2 1 _⟩
theorem DI.set2 (hB : HB w R D S) (h : DI w R D S n c p wr A op T uv) (x : ByteArray) : DI w R D S n c p (wr.setCell ⟨D, 2, none⟩ (.string x)) A op { T with ci := x } uv := by
  have h1 := hB.r; have h2 := hB.h; have h3 := hB.s
  exact ⟨h.rs.set (by omega) 2 _, h.sn.grown (upd_set _ D 2 _) (by simp; omega), h.db.set2 x, h.uv.kept (upd_set _ D 2 _) (by omega), upd_fresh h.gr h2 2 _⟩
theorem Db.set34 {tx co ci : ByteArray} {st : Int} (h : Db wr D tx co ci st uv) (x : Int) (u : Value) : Db ((wr.setCell ⟨D, 3, none⟩ (.int .u64 x)).setCell ⟨D, 4, none⟩ u) D tx co ci x u :=
  heap_setCell_same _ D 4 _ 38 _ (heap_setCell_same wr D 3 _ 38 (.int .u64 x) h)
theorem DI.set34 (hB : HB w R D S) (h : DI w R D S n c p wr A op T uv) (x : Int) (un' : Option (List Int)) (u : Value) (hu : UnV wr (S + 1) un' u) : DI w R D S n c p ((wr.setCell ⟨D, 3, none⟩ (.int .u64 x)).setCell ⟨D, 4, none⟩ u) A op { T with st := x, un := un' } u := by
  have h1 := hB.r; have h2 := hB.h; have h3 := hB.s
  exact ⟨(h.rs.set (by omega) 3 _).set (by omega) 4 _, (h.sn.grown (upd_set _ D 3 _) (by simp; omega)).grown (upd_set _ D 4 _) (by simp; omega), h.db.set34 x u, (hu.kept (upd_set _ D 3 _) (by omega)).kept (upd_set _ D 4 _) (by omega), upd_fresh (upd_fresh h.gr h2 3 _) h2 4 _⟩
end
def DecOut (RES : Option (Nat × DS)) (R n c : Nat) (p : Option Addr) (w : World) (e : Ending) (w' : World) : Prop :=
  ∃ (A' : Option Nat) (op' : Bool) (T : DS) (uv : Value), e = .returned (.agg #[.string T.txn, .string T.co, .string T.ci, .int .u64 T.st, uv]) ∧ RS w' R p n c A' op' ∧ (A' = none ∨ op' = false) ∧ UnV w' w.heap.size T.un uv ∧ w.grownBy w' (some R) ∧ RES = A'.map fun k => (k, T)
set_option maxHeartbeats 4000000 in
set_option maxRecDepth 100000 in
theorem decisionA (R n c : Nat) (p : Option Addr) (xs : List Int) (A : Option Nat) (op : Bool) (w : World)
    (hE : En w R n c p xs) (hS : RS w R p n c A op) :
    Calls Tryd.prog 27 #[.pointer (some ⟨R, 0, none⟩)] w fun e w' => DecOut (decR xs A) R n c p w e w' := by
  have hRl : R < w.heap.size := by
    obtain ⟨k, _, h, _⟩ := hS
    exact h.lt
  have HE : Hid (En w R n c p xs) := hE
  have HRL : Hid (R < w.heap.size) := hRl
  obtain ⟨w1, HW1⟩ : ∃ w1, Hid (w.alloc (Obj.cells #[.string ⟨#[]⟩, .string ⟨#[]⟩, .string ⟨#[]⟩, Value.int IntKind.u64 0, Value.slice none 0 0] 38) = w1) := ⟨_, rfl⟩
  obtain ⟨D, HD⟩ : ∃ D, Hid (w.heap.size = D) := ⟨_, rfl⟩
  have HG1 : Hid (w.grownBy w1 (some R)) := by rw [← HW1.out]; exact World.grownBy_alloc _ _ _
  have HDB1 : Hid (Db w1 D ⟨#[]⟩ ⟨#[]⟩ ⟨#[]⟩ 0 (.slice none 0 0)) := by rw [← HW1.out, ← HD.out]; exact heap_alloc_new w _
  have hob := objectA R n c p xs A op w1 hE.hn hE.hx (by rw [← HW1.out]; exact hS.grown (World.grownBy_alloc w _ none) (by simp)) (hE.dat.grown HG1.out)
  have HOB : Hid (Calls Tryd.prog 21 #[.pointer (some ⟨R, 0, none⟩)] w1 fun e w' => e = .returned (.bool (exA xs 123 A).isSome) ∧ RS w' R p n c (exA xs 123 A) true ∧ w1.grownBy w' (some R)) := hob
  have HRES : Hid (decR xs A = hd xs (stepD xs) (xs.length + 1) (exA xs 123 A) true DS0) := rfl
  clear hE hS hRl hob
  generalize decR xs A = RES at HRES ⊢
  generalize exA xs 123 A = A1 at HOB HRES
  go_enter Tryd.func27, Tryd.ntmps27
  go_wp2_with fail
  rw [HW1.out, HD.out]
  refine HOB.out.mono ?_
  rintro e w2 ⟨rfl, hS2, hG2⟩
  have HS2 : Hid (RS w2 R p n c A1 true) := hS2
  have HG2 : Hid (w.grownBy w2 (some R)) := HG1.out.trans hG2
  have HB2 : Hid (Db w2 D ⟨#[]⟩ ⟨#[]⟩ ⟨#[]⟩ 0 (.slice none 0 0)) := HDB1.out.grown hG2 (by have := HRL.out; have := HD.out; simp; omega)
  clear hS2 hG2 HOB HDB1 HG1
  cases A1 with
  | none => as_aux_lemma =>
    have d0 := HB2.out.c 0
    have d1 := HB2.out.c 1
    have d2 := HB2.out.c 2
    have d3 := HB2.out.c 3
    have d4 := HB2.out.c 4
    have e0 := HB2.out.fz 0
    have e1 := HB2.out.fz 1
    have e2 := HB2.out.fz 2
    have e3 := HB2.out.fz 3
    have e4 := HB2.out.fz 4
    simp at d0 d1 d2 d3 d4
    go_wp2_with fail
    have HST : Hid (∀ W, W = w2 → RS W R p n c none true) := fun W h => by rw [h]; exact HS2.out
    have hDR : D ≠ R := by have := HRL.out; have := HD.out; omega
    have hDw : w.heap.size ≤ D := by rw [HD.out]; exact Nat.le_refl _
    have HB3 := (((HB2.out.set0 ⟨#[]⟩).set1 ⟨#[]⟩).set2 ⟨#[]⟩).set34 0 (.slice none 0 0)
    have HS3 := ((((HS2.out.set hDR 0 (.string ⟨#[]⟩)).set hDR 1 (.string ⟨#[]⟩)).set hDR 2 (.string ⟨#[]⟩)).set hDR 3 (.int .u64 0)).set hDR 4 (.slice none 0 0)
    have HG3 := upd_fresh (upd_fresh (upd_fresh (upd_fresh (upd_fresh HG2.out hDw 0 (.string ⟨#[]⟩)) hDw 1 (.string ⟨#[]⟩)) hDw 2 (.string ⟨#[]⟩)) hDw 3 (.int .u64 0)) hDw 4 (.slice none 0 0)
    refine bodyPost_ret (results_cell_row (p := 2) (ty := 38) (by kernel_rfl) _ _ D 38 _ (0, 0) _ (by rfl) HB3 Tryd.underlying38 rfl (by kernel_rfl)) rfl ?_
    exact ⟨none, true, DS0, .slice none 0 0, rfl, HS3, .inl rfl, rfl, HG3, by rw [HRES.out]; rfl⟩
  | some k1 => as_aux_lemma =>
    obtain ⟨S, HSS⟩ : ∃ S, Hid (w2.heap.size = S) := ⟨_, rfl⟩
    obtain ⟨w3, HW3⟩ : ∃ w3, Hid (w2.alloc (Obj.cells #[Value.int IntKind.u64 0] 67) = w3) := ⟨_, rfl⟩
    have HBB : Hid (HB w R D S) := ⟨HRL.out, by rw [HD.out]; exact Nat.le_refl _, by rw [← HSS.out]; exact HB2.out.lt⟩
    have HI3 : Hid (DI w R D S n c p w3 (some k1) true DS0 (.slice none 0 0)) := by
      rw [← HW3.out]
      exact ⟨HS2.out.grown (World.grownBy_alloc _ _ none) (by simp), by rw [← HSS.out]; exact heap_alloc_new w2 _, HB2.out.grown (World.grownBy_alloc _ _ none) (by simp), rfl, HG2.out.trans (World.grownBy_alloc _ _ _)⟩
    clear HS2 HG2 HB2
    go_wp2_with fail
    rw [HW3.out, HSS.out]
    go_loopg [] (n + 1) (fun g wr => ∃ (A : Option Nat) (op : Bool) (T : DS) (uv : Value), 0 < g ∧ Hid (∀ k, A = some k → n - k < g) ∧ (T.seen < 16) ∧ Hid (DI w R D S n c p wr A op T uv) ∧ Hid (RES = hd xs (stepD xs) g A op T))
    case atStart => exact ⟨some k1, true, DS0, _, by omega, fun k hk => by omega, by decide, HI3, by have := HRES.out; rw [HE.out.hx] at this; exact this⟩
    case round =>
      obtain ⟨A, op, T, uv, hg0, HA, hsn, HI, HR⟩ := hrel
      clear HI3 HRES
      obtain ⟨seen, tx, co, ci, st, un⟩ := T
      obtain ⟨g, rfl⟩ : ∃ g, gk = g + 1 := ⟨gk - 1, by omega⟩
      have hEr := HE.out.grown HI.out.gr
      have hk := keyA R n c p xs A op wr hEr.hn hEr.hcap hEr.hcb hEr.hx HI.out.rs hEr.dat hEr.vok
      have HKN : Hid (∀ k, A = some k → k ≤ n) := fun k hk => by subst hk; exact HI.out.rs.le
      have HK : Hid (Calls Tryd.prog 22 #[.pointer (some ⟨R, 0, none⟩)] wr fun e w' => KeyOut xs R n c p A op wr e w') := hk
      clear hk hEr
      go_wp2_with fail
      refine HK.out.mono ?_
      rintro e w4 ⟨⟨kv, rfl, hkv⟩, hS4, hG4⟩
      have HI4 : Hid (DI w R D S n c p w4 (keyS xs A op) false ⟨seen, tx, co, ci, st, un⟩ uv) := HI.out.call HBB.out hG4 hS4
      have HKV : Hid (∀ s q m, keyR xs A op = some (s, q, m) → s ≤ q ∧ q < n ∧ ∃ b o, p = some ⟨b, o, none⟩ ∧ kv = .slice (some ⟨b, o + s, none⟩) (q - s) (c - s)) := hkv
      clear hkv hS4 hG4 HK HI
      cases hkr : keyR xs A op with
      | none => as_aux_lemma =>
        have HEND : Hid (RES = (keyS xs A op).map fun k => (k, (⟨seen, tx, co, ci, st, un⟩ : DS))) := HR.out.trans (hd_end _ _ _ hkr)
        generalize keyS xs A op = A' at HEND HI4
        obtain ⟨pa, ln, cp, rfl⟩ := HI4.out.uv.form
        have d0 := HI4.out.db.c 0
        have d1 := HI4.out.db.c 1
        have d2 := HI4.out.db.c 2
        have d3 := HI4.out.db.c 3
        have d4 := HI4.out.db.c 4
        have e0 := HI4.out.db.fz 0
        have e1 := HI4.out.db.fz 1
        have e2 := HI4.out.db.fz 2
        have e3 := HI4.out.db.fz 3
        have e4 := HI4.out.db.fz 4
        simp at d0 d1 d2 d3 d4
        clear hkr HKV HR
        go_wp2_with fail
        have HI5 := (((HI4.out.set0 HBB.out tx).set1 HBB.out co).set2 HBB.out ci).set34 HBB.out st un (.slice pa ln cp) ((((HI4.out.set0 HBB.out tx).set1 HBB.out co).set2 HBB.out ci).uv)
        (try simp only [Exit.inBlock, Exit.then])
        refine bodyPost_ret (results_cell_row (p := 2) (ty := 38) (by kernel_rfl) _ _ D 38 _ (0, 0) _ (by rfl) HI5.db Tryd.underlying38 rfl (by kernel_rfl)) rfl ?_
        exact ⟨A', false, ⟨seen, tx, co, ci, st, un⟩, _, rfl, HI5.rs, .inr rfl, HI5.uv.mono (by have := HBB.out.h; have := HBB.out.s; omega), HI5.gr, HEND.out⟩
      | some x => as_aux_lemma =>
        obtain ⟨s, q, m⟩ := x
        obtain ⟨hsq, hqn, b, o, hp, rfl⟩ := HKV.out s q m hkr
        obtain ⟨k, rfl⟩ := keyR_some hkr
        have hkl := keyR_lt (by rw [HE.out.hx]; exact HKN.out k rfl) hkr
        have HMN : Hid (k < m ∧ m ≤ n ∧ n - m < g ∧ 0 < g) := by
          have h1 := HA.out k rfl
          have h2 := HE.out.hx
          exact ⟨hkl.1, by omega, by omega, by omega⟩
        have HST : Hid (RES = bindH (stepD xs (strOfNums (sub xs s q)) m ⟨seen, tx, co, ci, st, un⟩) fun m' S' => hd xs (stepD xs) g (some m') false S') := HR.out.trans (hd_key' (stepD xs) g (⟨seen, tx, co, ci, st, un⟩ : DS) hkr)
        have hks : keyS xs (some k) op = some m := by
          unfold keyS
          cases hb : mbB xs 125 (some k) op with
          | false => rw [(keyR_no hb).1] at hkr; cases hkr
          | true => rw [hkr]; rfl
        rw [hks] at HI4
        subst hp
        have hB := HBB.out
        have hor := originA R S D n c seen b o s q _ xs (some m) false w w4 tx co ci st uv HE.out HI4.out.gr hsn (by have := hB.r; have := hB.h; have := hB.s; omega) (by have := hB.r; have := hB.h; omega) (by have := hB.s; omega) (by have := hB.h; have := hB.s; omega) HI4.out.rs HI4.out.sn HI4.out.db rfl hsq hqn
        have kc := conv_at' w4 b o n c R s q xs HE.out.hx hsq (by omega) (HE.out.dat.grown HI4.out.gr)
        have HLT : Hid (∀ pl x, stR xs (onA seen pl (some m)) = some x → m < x.2 + 1) := fun pl x hx => by
          unfold onA at hx
          split at hx
          · cases hx
          · have h1 := sk_le xs m (by rw [HE.out.hx]; exact HMN.out.2.1)
            have h2 := plR_lt (s := x.1) (q := x.2) hx
            omega
        have HSS' : Hid (∀ pl k', stS xs (onA seen pl (some m)) = some k' → n - k' < g) := fun pl k' hk' => by
          unfold stS at hk'
          cases hx : stR xs (onA seen pl (some m)) with
          | none => rw [hx] at hk'; cases hk'
          | some x =>
            rw [hx] at hk'
            simp only [Option.map_some, Option.some.injEq] at hk'
            have := HLT.out pl x hx
            have := HMN.out
            omega
        clear HR HA HKV hks hkr hkl HKN hB HLT
        generalize strOfNums (sub xs s q) = K at kc HST hor
        have HOR : Hid (Calls Tryd.prog 40 #[.pointer (some ⟨R, 0, none⟩), .slice (some ⟨b, o + s, none⟩) (q - s) (c - s), .pointer (some ⟨D, 1, none⟩), .pointer (some ⟨S, 0, none⟩)] w4 fun e w' => OrOut xs R S D n c seen (some ⟨b, o, none⟩) (some m) false K w4 e w') := hor
        have HON : Hid (∀ pl : Nat, pl < 4 → Calls Tryd.prog 41 #[.pointer (some ⟨S, 0, none⟩), .pointer (some ⟨R, 0, none⟩), .int .u64 pl] w4 fun e w' => e = .returned (.tuple #[]) ∧ w' = onW R S seen pl w4) :=
          fun pl hpl => onceA R S n c seen pl _ (some m) false w4 hsn hpl (by have := HBB.out.r; have := HBB.out.h; have := HBB.out.s; omega) HI4.out.rs HI4.out.sn
        clear hor
        go_wp2_with fail
        refine HOR.out.mono ?_
        rintro e w5 (⟨rfl, rfl, w6, hG6, hS6, rfl⟩ | ⟨rfl, rfl, w6, hG6, hS6, rfl⟩ | ⟨hK1, hK2, rfl, hw5⟩)
        · as_aux_lemma =>
          have HI6 : Hid (DI w R D S n c (some ⟨b, o, none⟩) (w6.setCell ⟨D, 1, none⟩ (.string (stV xs (onA seen 0 (some m))))) (stS xs (onA seen 0 (some m))) false ⟨seen ||| 1, tx, stV xs (onA seen 0 (some m)), ci, st, un⟩ uv) := ((HI4.out.once HBB.out 0).call HBB.out hG6 hS6).set1 HBB.out _
          clear hG6 hS6 HI4 HON HOR
          go_wp2_with fail
          go_roundg g
          case measure => omega
          case rel =>
            refine ⟨_, _, _, uv, HMN.out.2.2.2, fun k' hk' => HSS'.out 0 k' hk', mask_lt seen 0 hsn (by omega), HI6, ?_⟩
            show _ = _
            rw [HST.out]
            unfold stepD
            rw [if_pos rfl]
            unfold stS stV
            cases stR xs (onA seen 0 (some m)) with
            | none => rfl
            | some x => rfl
        · as_aux_lemma =>
          have HI6 : Hid (DI w R D S n c (some ⟨b, o, none⟩) (w6.setCell ⟨D, 2, none⟩ (.string (stV xs (onA seen 1 (some m))))) (stS xs (onA seen 1 (some m))) false ⟨seen ||| 2, tx, co, stV xs (onA seen 1 (some m)), st, un⟩ uv) := ((HI4.out.once HBB.out 1).call HBB.out hG6 hS6).set2 HBB.out _
          clear hG6 hS6 HI4 HON HOR
          go_wp2_with fail
          go_roundg g
          case measure => omega
          case rel =>
            refine ⟨_, _, _, uv, HMN.out.2.2.2, fun k' hk' => HSS'.out 1 k' hk', mask_lt seen 1 hsn (by omega), HI6, ?_⟩
            show _ = _
            rw [HST.out]
            unfold stepD
            rw [if_neg kCi_ne, if_pos rfl]
            unfold stS stV
            cases stR xs (onA seen 1 (some m)) with
            | none => rfl
            | some x => rfl
        · as_aux_lemma =>
          obtain rfl := hw5.symm
          by_cases hK3 : K = kTx
          · as_aux_lemma =>
            subst hK3
            have hb1 : (kTx.toList == [116, 120, 110]) = true := str_eq rfl rfl
            have h0 := HON.out 2 (by omega)
            have HO0 : Hid (Calls Tryd.prog 41 #[.pointer (some ⟨S, 0, none⟩), .pointer (some ⟨R, 0, none⟩), .int .u64 2] w4 fun e w' => e = .returned (.tuple #[]) ∧ w' = onW R S seen 2 w4) := h0
            have HI5 : Hid (DI w R D S n c (some ⟨b, o, none⟩) (onW R S seen 2 w4) (onA seen 2 (some m)) false ⟨seen ||| 4, tx, co, ci, st, un⟩ uv) := HI4.out.once HBB.out 2
            have hE5 := HE.out.grown HI5.out.gr
            have hst := stringA R n c _ xs (onA seen 2 (some m)) false (onW R S seen 2 w4) hE5.hn hE5.hcap hE5.hcb hE5.hx HI5.out.rs hE5.dat hE5.vok
            have HSTR : Hid (Calls Tryd.prog 42 #[.pointer (some ⟨R, 0, none⟩)] (onW R S seen 2 w4) fun e w' => e = .returned (.string (stV xs (onA seen 2 (some m)))) ∧ RS w' R (some ⟨b, o, none⟩) n c (stS xs (onA seen 2 (some m))) false ∧ (onW R S seen 2 w4).grownBy w' (some R)) := hst
            clear h0 hst hE5 HON HOR HI4 hK1 hK2
            go_wp2_with fail
            refine HO0.out.mono ?_
            rintro e w5 ⟨rfl, hw⟩; obtain rfl := hw.symm
            go_wp2_with fail
            refine HSTR.out.mono ?_
            rintro e w6 ⟨rfl, hS6, hG6⟩
            have HI6 : Hid (DI w R D S n c (some ⟨b, o, none⟩) w6 (stS xs (onA seen 2 (some m))) false ⟨seen ||| 4, tx, co, ci, st, un⟩ uv) := HI5.out.call HBB.out hG6 hS6
            have d0 := HI6.out.db.c 0
            have e0 := HI6.out.db.fz 0
            simp at d0
            clear hS6 hG6 HSTR HO0 HI5
            go_wp2_with fail
            go_roundg g
            case measure => omega
            case rel =>
              refine ⟨_, _, _, uv, HMN.out.2.2.2, fun k' hk' => HSS'.out 2 k' hk', mask_lt seen 2 hsn (by omega), HI6.out.set0 HBB.out _, ?_⟩
              show _ = _
              rw [HST.out]
              unfold stepD
              rw [if_neg (by decide), if_neg (by decide), if_pos rfl]
              unfold stS stV
              cases stR xs (onA seen 2 (some m)) with
              | none => rfl
              | some x => rfl
          · have hb1 : (K.toList == [116, 120, 110]) = false := str_ne (L := kTx) rfl hK3
            by_cases hK4 : K = kHo
            · as_aux_lemma =>
              subst hK4
              have hb2 : (kHo.toList == [104, 111, 114, 105, 122, 111, 110]) = true := str_eq rfl rfl
              have h0 := HON.out 3 (by omega)
              have HO0 : Hid (Calls Tryd.prog 41 #[.pointer (some ⟨S, 0, none⟩), .pointer (some ⟨R, 0, none⟩), .int .u64 3] w4 fun e w' => e = .returned (.tuple #[]) ∧ w' = onW R S seen 3 w4) := h0
              have HI5 : Hid (DI w R D S n c (some ⟨b, o, none⟩) (onW R S seen 3 w4) (onA seen 3 (some m)) false ⟨seen ||| 8, tx, co, ci, st, un⟩ uv) := HI4.out.once HBB.out 3
              have hho := horizonA R n c _ xs (onA seen 3 (some m)) false (onW R S seen 3 w4) (HE.out.grown HI5.out.gr) HI5.out.rs
              have HHO : Hid (Calls Tryd.prog 43 #[.pointer (some ⟨R, 0, none⟩)] (onW R S seen 3 w4) fun e w' => HorOut (horR xs (onA seen 3 (some m))) R n c (some ⟨b, o, none⟩) (onW R S seen 3 w4) e w') := hho
              have HRS : Hid (RES = (horR xs (onA seen 3 (some m))).bind fun x => hd xs (stepD xs) g (some x.1) false ⟨seen ||| 8, tx, co, ci, x.2.st, x.2.un⟩) := by
                show _ = _
                rw [HST.out]
                unfold stepD
                rw [if_neg (by decide), if_neg (by decide), if_neg (by decide), if_pos rfl]
                cases horR xs (onA seen 3 (some m)) with
                | none => rfl
                | some x => rfl
              have HLT : Hid (∀ x, horR xs (onA seen 3 (some m)) = some x → m ≤ x.1) := fun x hx => by
                unfold onA at hx
                split at hx
                · cases hx
                · exact horR_le (by rw [HE.out.hx]; exact HMN.out.2.1) hx
              generalize horR xs (onA seen 3 (some m)) = RH at HHO HRS HLT
              clear h0 hho HON HOR HI4 hK1 hK2 hK3 HST
              go_wp2_with fail
              refine HO0.out.mono ?_
              rintro e w5 ⟨rfl, hw⟩; obtain rfl := hw.symm
              go_wp2_with fail
              refine HHO.out.mono ?_
              rintro e w6 ⟨A', op', T', uv', rfl, hS6, hop, hu6, hG6, hRH⟩
              have HI6 : Hid (DI w R D S n c (some ⟨b, o, none⟩) w6 A' op' ⟨seen ||| 8, tx, co, ci, st, un⟩ uv) := HI5.out.call HBB.out hG6 hS6
              have HU6 : Hid (UnV w6 (S + 1) T'.un uv') := hu6.mono (by have := HI5.out.sn.lt; omega)
              have HOP : Hid (A' = none ∨ op' = false) := hop
              have HRH : Hid (RH = A'.map fun k => (k, T')) := hRH
              obtain ⟨pa, ln, cp, rfl⟩ := HU6.out.form
              obtain ⟨seen', st', un'⟩ := T'
              have d3 := HI6.out.db.c 3
              have d4 := HI6.out.db.c 4
              have e3 := HI6.out.db.fz 3
              have e4 := HI6.out.db.fz 4
              simp at d3 d4
              clear hS6 hG6 HHO HO0 HI5 hop hu6 hRH
              go_wp2_with fail
              go_roundg g
              case measure => omega
              case rel =>
                refine ⟨A', op', ⟨seen ||| 8, tx, co, ci, st', un'⟩, _, HMN.out.2.2.2, fun k' hk' => ?_, mask_lt seen 3 hsn (by omega), HI6.out.set34 HBB.out st' un' _ HU6.out, ?_⟩
                · have := HLT.out (k', ⟨seen', st', un'⟩) (by rw [HRH.out, hk']; rfl)
                  have := HMN.out
                  simp only at *
                  omega
                · show _ = _
                  rw [HRS.out, HRH.out]
                  rcases HOP.out with h | h
                  · rw [h]; rfl
                  · rw [h]; cases A' <;> rfl
            · as_aux_lemma =>
              have hb2 : (K.toList == [104, 111, 114, 105, 122, 111, 110]) = false := str_ne (L := kHo) rfl hK4
              have HRS : Hid (RES = none) := by
                show _ = _
                rw [HST.out]
                unfold stepD
                rw [if_neg hK1, if_neg hK2, if_neg hK3, if_neg hK4]
                rfl
              have hgu := giveUpA R n c _ (some m) false w4 HI4.out.rs
              have HGU : Hid (Calls Tryd.prog 44 #[.pointer (some ⟨R, 0, none⟩)] w4 fun e w' => e = .returned (.tuple #[]) ∧ w' = offW R w4) := hgu
              have HI5 : Hid (DI w R D S n c (some ⟨b, o, none⟩) (offW R w4) none false ⟨seen, tx, co, ci, st, un⟩ uv) := HI4.out.seto HBB.out
              clear hgu HON HST hK1 hK2 hK3 hK4 HOR
              go_wp2_with fail
              refine HGU.out.mono ?_
              rintro e w5 ⟨rfl, hw⟩; obtain rfl := hw.symm
              go_wp2_with fail
              go_roundg g
              case measure => omega
              case rel => exact ⟨none, false, ⟨seen, tx, co, ci, st, un⟩, uv, HMN.out.2.2.2, fun k' hk' => (by cases hk'), hsn, HI5, HRS.out⟩
end Go.Proofs.Qxb6605662aDoor
