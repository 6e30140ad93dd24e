import Derived.Test.Qxb6605662aDoorE3
import Derived.Test.Qxb6605662aDoorE6
import Derived.Test.Qxb6605662aDoorE8
import Derived.Test.Qxb6605662aDoorM2
import Derived.Laws.Tables
import Derived.Deep.WholeRow
set_option linter.unusedVariables false
set_option linter.unusedSimpArgs false
namespace Go.Proofs.Qxb6605662aDoor
open Go.RowKit

theorem rt_same (g1 g2 o1 o2 c1 c2 : Nat) (l : List Int) (w : World) (hl : l.length ≤ 9223372036854775807)
    (h1 : ∀ i, i < l.length → w.cell? ⟨g1, o1 + i, none⟩ = some (.int .u64 (l.getD i 0))) (p2 : Option Addr) (h2 : ∀ i, i < l.length → ∃ b o, p2 = some ⟨b, o, none⟩ ∧ w.cell? ⟨b, o + i, none⟩ = some (.int .u64 (l.getD i 0))) :
    Calls Tryd.prog 13 #[.slice (some ⟨g1, o1, none⟩) l.length c1, .slice p2 l.length c2, .bool true] w fun e w' => e = .returned (.bool true) ∧ ∃ q, w' = w.drewN q := by
  have H1 : Hid (∀ i, i < l.length → w.cell? ⟨g1, o1 + i, none⟩ = some (.int .u64 (l.getD i 0))) := h1
  have H2 : Hid (∀ i, i < l.length → ∃ b o, p2 = some ⟨b, o, none⟩ ∧ w.cell? ⟨b, o + i, none⟩ = some (.int .u64 (l.getD i 0))) := h2
  obtain ⟨n, HN⟩ : ∃ n, Hid (l.length = n) := ⟨_, rfl⟩
  rw [HN.out] at H1 H2 hl
  rw [HN.out]
  clear h1 h2
  have q26 : ∀ (w : World) (a : Option Addr) (n c n' c' : Nat), (binOp .eql 26 (.slice a n c) (.slice none n' c')).run Tryd.prog w = .ok (.bool a.isNone) w := fun w a n c n' c' => Lib.run_eql_slice_nil w _ _ a n c n' c' Tryd.underlying26
  go_enter Tryd.func13, Tryd.ntmps13
  go_wp2
  go_loopw [7] (fun i wr => ∃ (j : Nat) (q : Nat), j ≤ n ∧ i = .int .i64 j ∧ Hid (wr = w.drewN q)) (fun i _ => n - (intOf i).toNat)
  case atStart => exact ⟨0, 0, Nat.zero_le _, rfl, rfl⟩
  case round =>
    obtain ⟨j, q, hj, rfl, HW⟩ := hrel
    by_cases hjn : j < n
    · have hji : (j : Int) < n := by omega
      obtain ⟨b, o, hp, hc2⟩ := H2.out j hjn
      have hc1 := H1.out j hjn
      subst hp
      obtain ⟨y, HY⟩ : ∃ y, Hid (l.getD j 0 = y) := ⟨_, rfl⟩
      rw [HY.out] at hc1 hc2
      have d1 : wr.cell? ⟨g1, o1 + j, none⟩ = some (.int .u64 y) := by rw [HW.out]; exact hc1
      have d2 : wr.cell? ⟨b, o + j, none⟩ = some (.int .u64 y) := by rw [HW.out]; exact hc2
      clear hc1 hc2
      go_wp2
      go_quiet (fail)
      go_wp2
      go_round
      case rel => exact ⟨j + 1, q + nq, by omega, by go_num, by show _ = _; rw [HW.out, World.drewN_drewN]⟩
      case measure => simp [intOf]; omega
    · have hji : ¬ (j : Int) < n := by omega
      go_wp2
      go_ret
      exact ⟨rfl, q, HW.out⟩

theorem UnV.rt_at {w : World} {B : Nat} {l : List Int} {v : Value} (h : UnV w B (some l) v) : ∃ g c, v = .slice (some ⟨g, 0, none⟩) l.length c ∧ (∀ i, i < l.length → w.cell? ⟨g, i, none⟩ = some (.int .u64 (l.getD i 0))) ∧ l.length ≤ 9223372036854775807 := by
  obtain ⟨⟨g, c, rfl⟩, ho⟩ := h
  refine ⟨g, c, rfl, own_cells ho, ?_⟩
  rcases ho.2 with ⟨h, _⟩ | ⟨g', cap, cur, h1, h2, h3, h4, h5, _⟩
  · cases h
  · unfold maxLen at h5
    omega
theorem rt_subInB {xs : List Int} (hb : InB xs) (s q : Nat) : InB (sub xs s q) := fun i => by
  by_cases hi : i < (sub xs s q).length
  · have : i < q - s := by unfold sub at hi; simp at hi; omega
    rw [sub_at xs s q i this]; exact hb _
  · have : (sub xs s q).getD i 0 = 0 := by rw [List.getD_eq_getElem?_getD, List.getElem?_eq_none (by omega)]; rfl
    rw [this]; omega
theorem rt_vok {w : World} {R n c b o : Nat} {xs : List Int} (hn : n ≤ 2147483648) (hcap : n ≤ c) (hcb : c ≤ 9223372036854775807) (hx : xs.length = n) (hb : InB xs) (hD : Dat w (some ⟨b, o, none⟩) n xs R) (hT : Tabs w) (hR : 2 ≤ R) : VOK w R n c (some ⟨b, o, none⟩) xs := by
  intro w1 b' o' s q hg hp hsq hqn hasc
  simp only [Option.some.injEq, Addr.mk.injEq, and_true] at hp
  obtain ⟨rfl, rfl⟩ := hp
  have hlt : s < q := by
    rcases Nat.lt_or_ge s q with h | h
    · exact h
    · obtain rfl : s = q := by omega
      unfold sub asc at hasc
      simp at hasc
  refine valid_any b (o + s) (q - s) (c - s) (sub xs s q) w1 (by omega) (by omega) (by omega) (by omega) (sub_length xs s q hsq (by omega)) (rt_subInB hb s q) (fun i hi => ?_) (hT.keep fun a v hc ha => hg.cell hc (by simp; omega))
  obtain ⟨b2, o2, hp2, _, hc⟩ := hD.grown hg (s + i) (by omega)
  simp only [Option.some.injEq, Addr.mk.injEq, and_true] at hp2
  obtain ⟨rfl, rfl⟩ := hp2
  rw [sub_at xs s q i hi, Nat.add_assoc]
  exact hc
theorem rt_below_drewN {B : Nat} {a w : World} (h : Below B a w) (q : Nat) : Below B a (w.drewN q) := ⟨h.os, h.tape, h.output, h.size, h.block⟩
def CuOut (n : Nat) (us : List Int) (w : World) (e : Ending) (w' : World) : Prop :=
  ∃ (qu : Option Addr) (cu : Nat), e = .returned (.slice qu n cu) ∧ (∀ i, i < n → ∃ b o, qu = some ⟨b, o, none⟩ ∧ b < w'.heap.size ∧ w'.cell? ⟨b, o + i, none⟩ = some (.int .u64 (us.getD i 0))) ∧ Below w.heap.size w w'
set_option maxHeartbeats 4000000 in
set_option maxRecDepth 100000 in
theorem rt_law (W tx co ci : ByteArray) (st lay n c : Nat) (us : List Int) (pu : Option Addr) (w : World)
    (htx : tx.size ≤ 262144) (hco : co.size ≤ 262144) (hci : ci.size ≤ 262144) (hst : st < 18446744073709551616) (hlay : lay < 256) (hx : us.length = n) (hn : n ≤ 32768) (hU : U64s us)
    (hWl : (lay / 4 % 2 = 1 ∧ W = ⟨#[32, 10, 9, 13]⟩) ∨ (lay / 4 % 2 = 0 ∧ W = ⟨#[]⟩)) (hT : Tabs w)
    (hcl : ∀ w1, Below w.heap.size w w1 → Calls Tryd.prog 16 #[.slice pu n c] w1 fun e w' => CuOut n us w1 e w') :
    Calls Tryd.prog 4 #[.string tx, .string co, .string ci, .int .u64 st, .slice pu n c, .int .u8 lay] w fun e w' => e = .returned (.bool true) ∧ Below w.heap.size w w' := by
  have HCL : Hid (∀ w1, Below w.heap.size w w1 → Calls Tryd.prog 16 #[.slice pu n c] w1 fun e w' => CuOut n us w1 e w') := hcl
  have HU : Hid (U64s us) := hU
  have HX : Hid (us.length = n) := hx
  have HT : Hid (Tabs w) := hT
  have HWL : Hid ((lay / 4 % 2 = 1 ∧ W = ⟨#[32, 10, 9, 13]⟩) ∨ (lay / 4 % 2 = 0 ∧ W = ⟨#[]⟩)) := hWl
  have HBL : Hid (Blank (nums W)) := by
    rcases hWl with ⟨_, rfl⟩ | ⟨_, rfl⟩
    · intro x hx'
      have : x ∈ [(32 : Int), 10, 9, 13] := hx'
      simp at this
      rcases this with rfl | rfl | rfl | rfl <;> decide
    · intro x hx'; cases hx'
  have hW4 : W.size ≤ 4 := by rcases hWl with ⟨_, rfl⟩ | ⟨_, rfl⟩ <;> decide
  have htxi : ¬ (262144 : Int) < (tx.size : Int) := by omega
  have hcoi : ¬ (262144 : Int) < (co.size : Int) := by omega
  have hcii : ¬ (262144 : Int) < (ci.size : Int) := by omega
  have hni : ¬ (32768 : Int) < (n : Int) := by omega
  clear hcl hU hx hT hWl
  go_enter Tryd.func4, Tryd.ntmps4
  go_wp2_with fail
  refine (bytes14_any tx co ci st pu n c lay w (by omega) (by omega) (by omega) (by omega)).mono ?_
  rintro e w0 ⟨he, hw⟩; obtain rfl := hw.symm
  rcases he with rfl | rfl
  rotate_left
  · go_wp2_with fail
    go_ret
    exact ⟨rfl, Below.refl _ _⟩
  go_wp2_with fail
  refine (plainText_any tx w htx).mono ?_
  rintro e w1 ⟨he | he, hb1⟩
  rotate_left
  · obtain rfl := he
    go_wp2_with fail
    go_ret
    exact ⟨rfl, hb1⟩
  obtain ⟨rfl, hp1⟩ := he
  have HB1 : Hid (Below w.heap.size w w1) := hb1
  have HP1 : Hid (PT tx) := hp1
  clear hb1 hp1
  go_wp2_with fail
  refine (plainText_any co w1 hco).mono ?_
  rintro e w2 ⟨he | he, hb2⟩
  rotate_left
  · obtain rfl := he
    have HBx : Hid (Below w.heap.size w w2) := HB1.out.trans (hb2.mono HB1.out.size)
    clear hb2
    go_wp2_with fail
    go_ret
    exact ⟨rfl, HBx.out⟩
  obtain ⟨rfl, hp2⟩ := he
  have HB2 : Hid (Below w.heap.size w w2) := HB1.out.trans (hb2.mono HB1.out.size)
  have HP2 : Hid (PT co) := hp2
  clear hb2 hp2
  go_wp2_with fail
  refine (plainText_any ci w2 hci).mono ?_
  rintro e w3 ⟨he | he, hb3⟩
  rotate_left
  · obtain rfl := he
    have HBx : Hid (Below w.heap.size w w3) := HB2.out.trans (hb3.mono HB2.out.size)
    clear hb3
    go_wp2_with fail
    go_ret
    exact ⟨rfl, HBx.out⟩
  obtain ⟨rfl, hp3⟩ := he
  have HB3 : Hid (Below w.heap.size w w3) := HB2.out.trans (hb3.mono HB2.out.size)
  have HP3 : Hid (PT ci) := hp3
  clear hb3 hp3 HB1 HB2
  go_wp2_with fail
  refine (HCL.out w3 HB3.out).mono ?_
  rintro e w4 ⟨qu, cu, rfl, hq, hb4⟩
  have HQ : Hid (∀ i, i < n → ∃ b o, qu = some ⟨b, o, none⟩ ∧ b < w4.heap.size ∧ w4.cell? ⟨b, o + i, none⟩ = some (.int .u64 (us.getD i 0))) := hq
  have HB4 : Hid (Below w.heap.size w w4) := HB3.out.trans (hb4.mono HB3.out.size)
  clear hq hb4 HCL
  have henc := enc_any W lay tx co ci st us qu cu w4 hlay HWL.out htx hco hci hst (by rw [HX.out]; exact hn) HU.out (by rw [HX.out]; exact HQ.out)
  rw [HX.out] at henc
  obtain ⟨L, HL⟩ : ∃ L, Hid (enc W tx co ci st us (lay % 4) = L) := ⟨_, rfl⟩
  have hback := back_at (W := W) (tx := tx) (co := co) (ci := ci) (st := st) (us := us) (lay % 4) (by omega) HBL.out HP1.out HP2.out HP3.out hst (fun u hu => by
    obtain ⟨i, hi, rfl⟩ := List.mem_iff_getElem.1 hu
    have := HU.out i
    rw [List.getD_eq_getElem?_getD, List.getElem?_eq_getElem hi] at this
    exact this)
  have hlen := enc_le W tx co ci st us (lay % 4) hW4 htx hco hci hst (by rw [HX.out]; exact hn) HU.out
  have hinb := enc_InB W tx co ci st us (lay % 4)
  rw [HL.out] at henc hback hlen hinb
  have HENC : Hid (Calls Tryd.prog 17 #[.string tx, .string co, .string ci, .int .u64 st, .slice qu n cu, .int .u8 lay] w4 fun e w' => AppOut w4.heap.size L w4 e w') := henc
  have HBACK : Hid (decR L (some 0) = some (L.length, ⟨15, tx, co, ci, st, some us⟩)) := hback
  have HINB : Hid (InB L) := hinb
  have HLEN : Hid (L.length ≤ 10000000 ∧ 0 < L.length) := hlen
  clear henc hback hinb hlen HL HP1 HP2 HP3 HB3
  go_wp2_with fail
  refine HENC.out.mono ?_
  rintro e w5 ⟨v5, rfl, ho5, hb5⟩
  obtain ⟨g, cap, hv, hBg, hcap1, hcap2⟩ : ∃ g cap, v5 = .slice (some ⟨g, 0, none⟩) L.length cap ∧ w4.heap.size ≤ g ∧ L.length ≤ cap ∧ cap ≤ maxLen := by
    rcases ho5.2 with ⟨h, h0⟩ | ⟨g, cap, cur, h1, h2, _, h3, h4, _, _⟩
    · have := HLEN.out; omega
    · exact ⟨g, cap, h1, h2, h3, h4⟩
  subst hv
  unfold maxLen at hcap2
  have HCE : Hid (∀ i, i < L.length → w5.cell? ⟨g, i, none⟩ = some (.int .u8 (L.getD i 0))) := fun i hi => by
    have h := World.ownsRow.cellAt ho5 i (by omega)
    rw [h, List.getElem?_map, List.getD_eq_getElem?_getD, List.getElem?_eq_getElem hi]
    rfl
  have HGL : Hid (g < w5.heap.size) := World.block_lt_of_cell? _ _ (HCE.out 0 HLEN.out.2)
  have HB5 : Hid (Below w.heap.size w w5) := HB4.out.trans (hb5.mono HB4.out.size)
  have HB45 : Hid (Below w4.heap.size w4 w5) := hb5
  have HBG : Hid (w4.heap.size ≤ g) := hBg
  clear ho5 hb5 hBg
  obtain ⟨N, HN⟩ : ∃ N, Hid (L.length = N) := ⟨_, rfl⟩
  have hN : N ≤ 10000000 := by have := HLEN.out.1; rw [HN.out] at this; exact this
  obtain ⟨R, HR⟩ : ∃ R, Hid (w5.heap.size = R) := ⟨_, rfl⟩
  obtain ⟨w6, HW6⟩ : ∃ w6, Hid (w5.alloc (Obj.cells #[.slice (some ⟨g, 0, none⟩) L.length cap, .int .i64 0, .bool false, .bool false] 32) = w6) := ⟨_, rfl⟩
  have HB56 : Hid (Below w5.heap.size w5 w6) := by rw [← HW6.out]; exact (Below.refl _ _).alloc (Nat.le_refl _) _
  have HB6 : Hid (Below w.heap.size w w6) := HB5.out.trans (HB56.out.mono HB5.out.size)
  have HR6 : Hid (Rd w6 R (.slice (some ⟨g, 0, none⟩) N cap) 0 false false) := by
    rw [← HW6.out, ← HR.out, ← HN.out]
    exact heap_alloc_new w5 _
  have HZ6 : Hid (w6.heap.size = R + 1) := by show _ = _; rw [← HW6.out, ← HR.out]; simp
  have HDT : Hid (Dat w6 (some ⟨g, 0, none⟩) N L R) := fun i hi => ⟨g, 0, rfl, by have := HGL.out; have := HR.out; omega, by
    rw [Nat.zero_add]
    exact (HB56.out.cell (p := ⟨g, i, none⟩) HGL.out).trans (HCE.out i (by rw [HN.out]; exact hi))⟩
  have HTB : Hid (Tabs w6) := HT.out.below HB6.out
  have HR2 : Hid (2 ≤ R) := by
    have h1 : 2 ≤ w.heap.size := World.block_lt_of_cell? _ _ (HT.out.lo 0 (by omega))
    have h2 := HB5.out.size
    have h3 := HR.out
    show 2 ≤ R
    omega
  have hcapN : N ≤ cap := by rw [← HN.out]; exact hcap1
  have HEN : Hid (En w6 R N cap (some ⟨g, 0, none⟩) L) := ⟨by omega, hcapN, hcap2, HN.out, HDT.out, rt_vok (by omega) hcapN hcap2 HN.out HINB.out HDT.out HTB.out HR2.out⟩
  have hzr := zzread_any R N cap (some ⟨g, 0, none⟩) L (some 0) false w6 HEN.out (RS.mk_some (Nat.zero_le _) HR6.out)
  rw [HBACK.out, HN.out] at hzr
  have HZR : Hid (Calls Tryd.prog 9 #[.pointer (some ⟨R, 0, none⟩)] w6 fun e w' => DecOut (some (N, ⟨15, tx, co, ci, st, some us⟩)) R N cap (some ⟨g, 0, none⟩) w6 e w') := hzr
  clear hzr HEN HDT HTB
  go_wp2_with fail
  rw [HW6.out, HR.out]
  refine HZR.out.mono ?_
  rintro e w7 ⟨A', op', ⟨seen7, tx7, co7, ci7, st7, un7⟩, uv, rfl, hS7, hop, hu7, hG7, hres⟩
  obtain ⟨hA, hTT⟩ : A' = some N ∧ (⟨15, tx, co, ci, st, some us⟩ : DS) = ⟨seen7, tx7, co7, ci7, st7, un7⟩ := by
    cases A' with
    | none => cases hres
    | some k =>
      simp only [Option.map_some, Option.some.injEq, Prod.mk.injEq] at hres
      exact ⟨by rw [hres.1], hres.2⟩
  simp only [DS.mk.injEq] at hTT
  obtain ⟨rfl, rfl, rfl, rfl, rfl, rfl⟩ := hTT
  subst hA
  obtain ⟨g7, c7, hv7, hc7, hl7⟩ := hu7.rt_at
  have hg7 : w6.heap.size ≤ g7 := (hu7.2.lt g7 (by rw [hv7]; rfl)).1
  subst hv7
  have HS7 : Hid (RS w7 R (some ⟨g, 0, none⟩) N cap (some N) op') := hS7
  have HG7 : Hid (w6.grownBy w7 (some R)) := hG7
  have HC7 : Hid (∀ i, i < us.length → w7.cell? ⟨g7, i, none⟩ = some (.int .u64 (us.getD i 0))) := hc7
  clear hS7 hop hu7 hG7 hres HZR hc7 hg7
  obtain ⟨D, HD⟩ : ∃ D, Hid (w7.heap.size = D) := ⟨_, rfl⟩
  obtain ⟨w8, HW8⟩ : ∃ w8, Hid ((w7.alloc (Obj.cells #[.string ⟨#[]⟩, .string ⟨#[]⟩, .string ⟨#[]⟩, .int .u64 0, .slice none 0 0] 38)).setRow w7.heap.size #[.string tx, .string co, .string ci, .int .u64 st, .slice (some ⟨g7, 0, none⟩) us.length c7] = w8) := ⟨_, rfl⟩
  have HG8 : Hid (w7.grownBy w8 none) := by
    rw [← HW8.out, World.setRow_alloc_new]
    exact World.grownBy_alloc _ _ _
  have HD8 : Hid (Db w8 D tx co ci st (.slice (some ⟨g7, 0, none⟩) us.length c7)) := by
    rw [← HW8.out, World.setRow_alloc_new, ← HD.out]
    exact heap_alloc_new w7 _
  have HS8 : Hid (RS w8 R (some ⟨g, 0, none⟩) N cap (some N) op') := HS7.out.grown HG8.out (by simp)
  have HB8 : Hid (Below w.heap.size w w8) := by
    have h2 := HB6.out
    have hl : w.heap.size ≤ R := by rw [← HR.out]; exact HB5.out.size
    refine ⟨(HG8.out.os.trans HG7.out.os).trans h2.os, (HG8.out.tape.trans HG7.out.tape).trans h2.tape, (HG8.out.output.trans HG7.out.output).trans h2.output, Nat.le_trans h2.size (Nat.le_trans HG7.out.size HG8.out.size), fun k hk => ?_⟩
    have h4 := HZ6.out
    have h5 := HG7.out.size
    exact (HG8.out.block k (by omega) (by simp)).trans ((HG7.out.block k (by omega) (by simp; omega)).trans (h2.block k hk))
  have HSU : Hid (Calls Tryd.prog 13 #[.slice (some ⟨g7, 0, none⟩) us.length c7, .slice qu us.length cu, .bool true] w8 fun e w' => e = .returned (.bool true) ∧ ∃ q, w' = w8.drewN q) :=
    rt_same g7 0 0 0 c7 cu us w8 hl7 (fun i hi => by rw [Nat.zero_add]; exact HG8.out.cell (HC7.out i hi) (by simp)) qu (fun i hi => by
      obtain ⟨b, o, e, hb, hc⟩ := HQ.out i (by rw [← HX.out]; exact hi)
      refine ⟨b, o, e, ?_⟩
      have h5 : w5.cell? ⟨b, o + i, none⟩ = some (.int .u64 (us.getD i 0)) := (HB45.out.cell (p := ⟨b, o + i, none⟩) hb).trans hc
      have hb5 : b < w5.heap.size := Nat.lt_of_lt_of_le hb HB45.out.size
      have h6 := (HB56.out.cell (p := ⟨b, o + i, none⟩) hb5).trans h5
      exact HG8.out.cell (HG7.out.cell h6 (by have := HR.out; simp; omega)) (by simp))
  rw [HX.out] at HSU
  have HDH : Hid ((w7.alloc (Obj.cells #[.string ⟨#[]⟩, .string ⟨#[]⟩, .string ⟨#[]⟩, .int .u64 0, .slice none 0 0] 38)).heap[w7.heap.size]? = some (.cells #[.string ⟨#[]⟩, .string ⟨#[]⟩, .string ⟨#[]⟩, .int .u64 0, .slice none 0 0] 38 (0, 0))) := heap_alloc_new w7 _
  go_wp2_with (with_reducible refine wpList_store_row (by with_unfolding_all rfl) 38 _ _ (by with_unfolding_all rfl) w7.heap.size _ (by with_unfolding_all rfl) (by with_unfolding_all rfl) 38 _ HDH.out (by kernel_rfl) (by with_unfolding_all rfl) (by with_unfolding_all rfl) ?_)
  rw [HW8.out, HD.out]
  have HOF : Hid (Calls Tryd.prog 10 #[.pointer (some ⟨R, 0, none⟩)] w8 fun e w' => e = .returned (.bool false) ∧ w' = w8) := zzoff_any R N cap _ (some N) op' w8 HS8.out
  have HAT : Hid (Calls Tryd.prog 11 #[.pointer (some ⟨R, 0, none⟩)] w8 fun e w' => e = .returned (.int .i64 N) ∧ w' = w8) := zzat_any R N cap _ N op' w8 HS8.out
  have d0 := HD8.out.c 0
  have d1 := HD8.out.c 1
  have d2 := HD8.out.c 2
  have d3 := HD8.out.c 3
  have d4 := HD8.out.c 4
  simp at d0 d1 d2 d3 d4
  have b1 : (tx.toList == tx.toList) = true := beq_self_eq_true _
  have b2 : (co.toList == co.toList) = true := beq_self_eq_true _
  have b3 : (ci.toList == ci.toList) = true := beq_self_eq_true _
  have hLN : L.length = N := HN.out
  clear HW8 HG8 HDH HC7 HG7 HS7 HR6 HD8
  rw [HX.out] at d4
  refine HOF.out.mono ?_
  rintro e wa ⟨rfl, hwa⟩; obtain rfl := hwa.symm
  go_wp2_with fail
  refine HAT.out.mono ?_
  rintro e wa ⟨rfl, hwa⟩; obtain rfl := hwa.symm
  go_wp2_with fail
  refine HSU.out.mono ?_
  rintro e w9 ⟨rfl, q, hw9⟩
  have HB9 : Hid (Below w.heap.size w w9) := by rw [hw9]; exact rt_below_drewN HB8.out q
  clear hw9 d0 d1 d2 d3 d4
  go_wp2_with fail
  go_ret
  exact ⟨rfl, HB9.out⟩
end Go.Proofs.Qxb6605662aDoor
