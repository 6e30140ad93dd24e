import Derived.Test.Qxb6606027aDoorS7
import Derived.Lib.SlBytesConst
import Derived.Lib.SlBytesRowKit
namespace Go.Proofs.Qxb6606027aDoor
open Go.RowKit
set_option linter.unusedVariables false

/-! ### isLinkDefinition in plain words -/
def ttl (t : List Int) : Bool :=
  if t.length < 2 then false
  else if t.getD 0 0 = 34 then t.getD (t.length - 1) 0 == t.getD 0 0
  else if t.getD 0 0 = 39 then t.getD (t.length - 1) 0 == t.getD 0 0
  else if t.getD 0 0 = 40 then t.getD (t.length - 1) 0 == 41 else false
def trimB (a : List Int) : List Int := (a.take (body a)).drop (lead (a.take (body a)))
def aft (a : List Int) : Bool := if lead a = a.length then true else if lead a = 0 then false else ttl (trimB a)
def dst (r : List Int) : Int := if r.head? = some 60 then ia r 62 62 + 1 else if ia r 32 9 < 0 then r.length else ia r 32 9
def rst (r : List Int) : Bool := if dst r ≤ 0 then false else aft (r.drop (dst r).toNat)
def lbl (zs : List Int) : Bool :=
  if ix2 zs = -1 then false
  else if lead (zs.take (ix2 zs).toNat) = (ix2 zs).toNat then false
  else if 0 ≤ ia (zs.take (ix2 zs).toNat) 91 93 then false
  else rst ((zs.drop ((ix2 zs).toNat + 2)).drop (lead (zs.drop ((ix2 zs).toNat + 2))))
def pl (xs : List Int) : Bool := if (xs.drop (lead xs)).head? = some 91 then lbl ((xs.drop (lead xs)).drop 1) else false

theorem Sl.below {w w' : World} {p : Option Addr} {n c : Nat} {xs : List Int} (h : Sl w p n c xs) (hb : Below w.heap.size w w') : Sl w' p n c xs :=
  h.same (fun _ _ hv => (hb.cell (World.block_lt_of_cell? _ _ hv)).trans hv)

theorem below_drewN {B : Nat} {a w : World} (h : Below B a w) (q : Nat) : Below B a (w.drewN q) := ⟨h.os, h.tape, h.output, h.size, h.block⟩
theorem ia_le (p q : Int) : ∀ xs : List Int, ia xs p q ≤ xs.length
  | [] => by simp [ia]
  | x :: r => by
    have := ia_le p q r
    rw [ia]
    split
    · simp; omega
    · split
      · simp; omega
      · simp; omega
theorem ia_lt (p q : Int) : ∀ xs : List Int, 0 < xs.length → ia xs p q < xs.length
  | [], h => by simp at h
  | x :: r, _ => by
    rw [ia]
    split
    · simp
    · split
      · simp; omega
      · rename_i h1 h2
        cases r with
        | nil => exact absurd rfl h2
        | cons y s => have := ia_lt p q (y :: s) (by simp); simp at this ⊢; omega
theorem two_br : Two ⟨#[91, 93]⟩ 91 93 := ⟨rfl, by decide, by decide⟩
theorem two_bl : Two ⟨#[32, 9]⟩ 32 9 := ⟨rfl, by decide, by decide⟩

set_option maxHeartbeats 2000000 in
set_option maxRecDepth 100000 in
theorem isLink_any (p : Option Addr) (n c : Nat) (xs : List Int) (m : Int) (w : World) (hnb : n ≤ 1048576) (h : Sl w p n c xs) (hU : Lib.Utf8Tabs 1 2 w) (hm : w.cell? ⟨0, 0, none⟩ = some (.int .i64 m)) :
    Calls Tryd.prog 19 #[.slice p n c] w fun e w' => e = .returned (.bool (pl xs)) ∧ Below w.heap.size w w' := by
  obtain ⟨A, HA⟩ : ∃ A, Hid (pl xs = A) := ⟨_, rfl⟩
  rw [HA.out]
  have hle : lead xs ≤ n := by have := lead_le xs; rw [h.len] at this; exact this
  obtain ⟨p1, hv1, s1⟩ := h.drop (lead xs) hle
  have ht1 := trimIndent_any p n c xs w h
  rw [hv1] at ht1
  obtain ⟨n1, HN1⟩ : ∃ n1, Hid (n - lead xs = n1) := ⟨_, rfl⟩
  obtain ⟨c1, HC1⟩ : ∃ c1, Hid (c - lead xs = c1) := ⟨_, rfl⟩
  rw [HN1.out, HC1.out] at ht1 s1
  have HT1 : Hid (Calls Tryd.prog 23 #[.slice p n c] w fun e w' => e = .returned (.slice p1 n1 c1) ∧ w' = w) := ht1
  have hn1b : n1 ≤ 1048576 := by have := HN1.out; omega
  have HU : Hid (Lib.Utf8Tabs 1 2 w) := hU
  have HM : Hid (w.cell? ⟨0, 0, none⟩ = some (.int .i64 m)) := hm
  have HPL : Hid (pl xs = if (xs.drop (lead xs)).head? = some 91 then lbl ((xs.drop (lead xs)).drop 1) else false) := rfl
  generalize xs.drop (lead xs) = ys at s1 HPL
  have S1 : Hid (Sl w p1 n1 c1 ys) := s1
  clear ht1 hv1 h hU hm s1 hle
  have kc := fun (w : World) (C : Array Value) (n c : Nat) => Lib.run_convert_bytes_const (P := Tryd.prog) w 22 5 C n c Tryd.underlying22 Tryd.underlying5
  have HB1 : Hid (Below w.heap.size w (w.alloc (.cells #[.int .u8 91] 5 (1, 2)))) := (Below.refl _ w).alloc (Nat.le_refl _) _
  have HCl : Hid ((w.alloc (.cells #[.int .u8 91] 5 (1, 2))).cell? ⟨w.heap.size, 0, none⟩ = some (.int .u8 91)) := by show _ = _; have := World.cell?_alloc_mark w #[.int .u8 91] 5 (1, 2) 0; simpa using this
  by_cases hh : ys.head? = some 91
  case neg =>
    have HAt : Hid (A = false) := by show _ = _; rw [← HA.out, HPL.out, if_neg hh]
    obtain ⟨V, hcp⟩ := cutPre_no p1 n1 c1 w.heap.size ys _ (S1.out.below HB1.out) HCl.out hh
    have HCP : Hid (Calls Tryd.prog 22 #[.slice p1 n1 c1, .slice (some ⟨w.heap.size, 0, none⟩) 1 1] (w.alloc (.cells #[.int .u8 91] 5 (1, 2))) fun e w' => e = .returned (.tuple #[V, .bool false]) ∧ w' = (w.alloc (.cells #[.int .u8 91] 5 (1, 2)))) := hcp
    clear hcp hh
    go_enter Tryd.func19, Tryd.ntmps19
    go_wp2_with fail
    refine HT1.out.mono ?_
    rintro e w' ⟨rfl, hw⟩
    obtain rfl := hw.symm
    go_wp2_with fail
    refine HCP.out.mono ?_
    rintro e w' ⟨rfl, hw⟩
    rw [hw]
    go_wp2
    go_ret
    exact ⟨by rw [HAt.out]; rfl, HB1.out⟩
  have HA1 : Hid (A = lbl (ys.drop 1)) := by show _ = _; rw [← HA.out, HPL.out, if_pos hh]
  have hcp := cutPre_yes p1 n1 c1 w.heap.size ys _ (S1.out.below HB1.out) HCl.out hh
  have hn1p : 1 ≤ n1 := by
    have := S1.out.len
    cases ys with
    | nil => simp at hh
    | cons y r => simp at this; omega
  obtain ⟨p2, hv2, s2⟩ := S1.out.drop 1 hn1p
  rw [hv2] at hcp
  obtain ⟨n2, HN2⟩ : ∃ n2, Hid (n1 - 1 = n2) := ⟨_, rfl⟩
  obtain ⟨c2, HC2⟩ : ∃ c2, Hid (c1 - 1 = c2) := ⟨_, rfl⟩
  rw [HN2.out, HC2.out] at hcp s2
  have hn2b : n2 ≤ 1048576 := by have := HN2.out; omega
  have HCP : Hid (Calls Tryd.prog 22 #[.slice p1 n1 c1, .slice (some ⟨w.heap.size, 0, none⟩) 1 1] (w.alloc (.cells #[.int .u8 91] 5 (1, 2))) fun e w' => e = .returned (.tuple #[.slice p2 n2 c2, .bool true]) ∧ w' = (w.alloc (.cells #[.int .u8 91] 5 (1, 2)))) := hcp
  generalize ys.drop 1 = zs at s2 HA1
  have S2 : Hid (Sl w p2 n2 c2 zs) := s2
  clear hcp hh s2 hv2 hn1p
  go_enter Tryd.func19, Tryd.ntmps19
  go_wp2_with fail
  refine HT1.out.mono ?_
  rintro e w' ⟨rfl, hw⟩
  obtain rfl := hw.symm
  go_wp2_with fail
  refine HCP.out.mono ?_
  rintro e w' ⟨rfl, hw⟩
  rw [hw]
  clear hw HCP HT1
  obtain ⟨W1, HW1⟩ : ∃ W1, Hid (w.alloc (.cells #[.int .u8 91] 5 (1, 2)) = W1) := ⟨_, rfl⟩
  rw [HW1.out] at HB1 ⊢
  clear HCl
  have HB2 : Hid (Below w.heap.size w (W1.alloc (.cells #[.int .u8 93, .int .u8 58] 5 (2, 3)))) := HB1.out.alloc HB1.out.size _
  have HC0 : Hid ((W1.alloc (.cells #[.int .u8 93, .int .u8 58] 5 (2, 3))).cell? ⟨W1.heap.size, 0, none⟩ = some (.int .u8 93)) := by show _ = _; have := World.cell?_alloc_mark W1 #[.int .u8 93, .int .u8 58] 5 (2, 3) 0; simpa using this
  have HC1 : Hid ((W1.alloc (.cells #[.int .u8 93, .int .u8 58] 5 (2, 3))).cell? ⟨W1.heap.size, 1, none⟩ = some (.int .u8 58)) := by show _ = _; have := World.cell?_alloc_mark W1 #[.int .u8 93, .int .u8 58] 5 (2, 3) 1; simpa using this
  have hmW : ∀ W, Below w.heap.size w W → W.cell? ⟨0, 0, none⟩ = some (.int .i64 m) := fun W hb => (hb.cell (World.block_lt_of_cell? _ _ HM.out)).trans HM.out
  have HMW : Hid (∀ W, Below w.heap.size w W → W.cell? ⟨0, 0, none⟩ = some (.int .i64 m)) := hmW
  clear hmW
  by_cases hix : ix2 zs = -1
  · have HAt : Hid (A = false) := by show _ = _; rw [HA1.out, lbl, if_pos hix]
    have HCut : Hid (Calls Tryd.prog 24 #[.slice p2 n2 c2, .slice (some ⟨W1.heap.size, 0, none⟩) 2 2] (W1.alloc (.cells #[.int .u8 93, .int .u8 58] 5 (2, 3))) fun e w' => e = .returned (.tuple #[.slice p2 n2 c2, .slice none 0 0, .bool false]) ∧ ∃ q, w' = (W1.alloc (.cells #[.int .u8 93, .int .u8 58] 5 (2, 3))).drewN q) := cut_no p2 n2 c2 W1.heap.size zs m _ hn2b (S2.out.below HB2.out) HC0.out HC1.out (HMW.out _ HB2.out) hix
    clear hix
    go_wp2_with fail
    refine HCut.out.mono ?_
    rintro e w3 ⟨rfl, q, hw⟩
    have HB3 : Hid (Below w.heap.size w w3) := by rw [hw]; exact below_drewN HB2.out q
    clear hw
    go_wp2
    go_ret
    exact ⟨by rw [HAt.out]; rfl, HB3.out⟩
  obtain ⟨i, hi⟩ : ∃ i : Nat, ix2 zs = i := ⟨(ix2 zs).toNat, by have := ix2_ge zs; omega⟩
  have hroom : i + 2 ≤ n2 := by have := ix2_room zs (by omega); rw [hi, S2.out.len] at this; omega
  have HA2 : Hid (A = if lead (zs.take i) = i then false else if 0 ≤ ia (zs.take i) 91 93 then false else rst ((zs.drop (i + 2)).drop (lead (zs.drop (i + 2))))) := by
    show _ = _
    rw [HA1.out, lbl, if_neg hix, hi, Int.toNat_natCast]
  obtain ⟨p3, hv3, s3⟩ := S2.out.drop (i + 2) hroom
  have hcut := cut_yes p2 n2 c2 W1.heap.size i zs m _ hn2b (S2.out.below HB2.out) HC0.out HC1.out (HMW.out _ HB2.out) hi
  rw [hv3] at hcut
  obtain ⟨n3, HN3⟩ : ∃ n3, Hid (n2 - (i + 2) = n3) := ⟨_, rfl⟩
  obtain ⟨c3, HC3⟩ : ∃ c3, Hid (c2 - (i + 2) = c3) := ⟨_, rfl⟩
  rw [HN3.out, HC3.out] at hcut s3
  have HCut : Hid (Calls Tryd.prog 24 #[.slice p2 n2 c2, .slice (some ⟨W1.heap.size, 0, none⟩) 2 2] (W1.alloc (.cells #[.int .u8 93, .int .u8 58] 5 (2, 3))) fun e w' => e = .returned (.tuple #[.slice p2 i c2, .slice p3 n3 c3, .bool true]) ∧ ∃ q, w' = (W1.alloc (.cells #[.int .u8 93, .int .u8 58] 5 (2, 3))).drewN q) := hcut
  have SL : Hid (Sl w p2 i c2 (zs.take i)) := S2.out.take i (by omega)
  generalize zs.take i = ls at SL HA2
  have hle3 : lead (zs.drop (i + 2)) ≤ n3 := by have := lead_le (zs.drop (i + 2)); rw [s3.len] at this; exact this
  obtain ⟨p4, hv4, s4⟩ := s3.drop (lead (zs.drop (i + 2))) hle3
  obtain ⟨n4, HN4⟩ : ∃ n4, Hid (n3 - lead (zs.drop (i + 2)) = n4) := ⟨_, rfl⟩
  obtain ⟨c4, HC4⟩ : ∃ c4, Hid (c3 - lead (zs.drop (i + 2)) = c4) := ⟨_, rfl⟩
  rw [HN4.out, HC4.out] at hv4 s4
  have HT3 : Hid (∀ W, Below w.heap.size w W → Calls Tryd.prog 23 #[.slice p3 n3 c3] W fun e w' => e = .returned (.slice p4 n4 c4) ∧ w' = W) := fun W hb => by
    have := trimIndent_any p3 n3 c3 (zs.drop (i + 2)) W (s3.below hb)
    rw [hv4] at this
    exact this
  have hn4b : n4 ≤ 1048576 := by have := HN4.out; have := HN3.out; omega
  have hib : i ≤ 1048576 := by omega
  generalize (zs.drop (i + 2)).drop (lead (zs.drop (i + 2))) = us at s4 HA2
  have S4 : Hid (Sl w p4 n4 c4 us) := s4
  clear hcut hi hix s3 s4 hv3 hv4 hle3 hroom
  go_wp2_with fail
  refine HCut.out.mono ?_
  rintro e w3 ⟨rfl, q, hw⟩
  have HB3 : Hid (Below w.heap.size w w3) := by rw [hw]; exact below_drewN HB2.out q
  clear hw HCut HC0 HC1 HB2
  have Hbl : Hid (Calls Tryd.prog 25 #[.slice p2 i c2] w3 fun e w' => e = .returned (.bool (decide (lead ls = i))) ∧ w' = w3) := isBlank_any p2 i c2 ls w3 (SL.out.below HB3.out)
  by_cases hlb : lead ls = i
  · have HAt : Hid (A = false) := by show _ = _; rw [HA2.out, if_pos hlb]
    rw [decide_eq_true hlb] at Hbl
    clear hlb
    go_wp2_with fail
    refine Hbl.out.mono ?_
    rintro e w' ⟨rfl, hw⟩
    obtain rfl := hw.symm
    go_wp2
    go_ret
    exact ⟨by rw [HAt.out]; rfl, HB3.out⟩
  rw [decide_eq_false hlb] at Hbl
  have HCA : Hid (Calls Tryd.prog 26 #[.slice p2 i c2, .string ⟨#[91, 93]⟩] w3 fun e w' => e = .returned (.bool (decide (0 ≤ ia ls 91 93))) ∧ Below w3.heap.size w3 w') := containsAny_all ⟨#[91, 93]⟩ 91 93 p2 i c2 ls m w3 two_br hib (SL.out.below HB3.out) (tabs_below HU.out HB3.out) (HMW.out _ HB3.out)
  by_cases hca : 0 ≤ ia ls 91 93
  · have HAt : Hid (A = false) := by show _ = _; rw [HA2.out, if_neg hlb, if_pos hca]
    rw [decide_eq_true hca] at HCA
    clear hlb hca
    go_wp2_with fail
    refine Hbl.out.mono ?_
    rintro e w' ⟨rfl, hw⟩
    obtain rfl := hw.symm
    go_wp2_with fail
    refine HCA.out.mono ?_
    rintro e w4 ⟨rfl, hb4⟩
    have HB4 : Hid (Below w.heap.size w w4) := HB3.out.trans (hb4.mono HB3.out.size)
    clear hb4
    go_wp2
    go_ret
    exact ⟨by rw [HAt.out]; rfl, HB4.out⟩
  have HA3 : Hid (A = rst us) := by show _ = _; rw [HA2.out, if_neg hlb, if_neg hca]
  rw [decide_eq_false hca] at HCA
  clear hlb hca
  go_wp2_with fail
  refine Hbl.out.mono ?_
  rintro e w' ⟨rfl, hw⟩
  obtain rfl := hw.symm
  go_wp2_with fail
  refine HCA.out.mono ?_
  rintro e w4 ⟨rfl, hb4⟩
  have HB4 : Hid (Below w.heap.size w w4) := HB3.out.trans (hb4.mono HB3.out.size)
  clear hb4 HCA Hbl HB3
  go_wp2_with fail
  refine (HT3.out w4 HB4.out).mono ?_
  rintro e w' ⟨rfl, hw⟩
  obtain rfl := hw.symm
  have HIA : Hid (Calls Tryd.prog 27 #[.slice p4 n4 c4, .string ⟨#[32, 9]⟩] w4 fun e w' => e = .returned (.int .i64 (ia us 32 9)) ∧ Below w4.heap.size w4 w') := indexAny_all ⟨#[32, 9]⟩ 32 9 p4 n4 c4 us m w4 two_bl hn4b (S4.out.below HB4.out) (tabs_below HU.out HB4.out) (HMW.out _ HB4.out)
  have hge := ia_ge 32 9 us
  have HDS : Hid (dst us = if us.head? = some 60 then ia us 62 62 + 1 else if ia us 32 9 < 0 then us.length else ia us 32 9) := rfl
  have hile : ia us 32 9 ≤ n4 := by have := ia_le 32 9 us; rw [S4.out.len] at this; exact this
  have HZ : Hid (n4 = 0 → ia us 32 9 = -1) := fun e => by
    have hu : us = [] := List.eq_nil_of_length_eq_zero (by rw [S4.out.len]; exact e)
    rw [hu]; rfl
  generalize ia us 32 9 = I at HIA hge HDS hile HZ
  go_wp2_with fail
  refine HIA.out.mono ?_
  rintro e w5 ⟨rfl, hb5⟩
  have HB5 : Hid (Below w.heap.size w w5) := HB4.out.trans (hb5.mono HB4.out.size)
  clear hb5 HIA HB4 HT3
  by_cases hn4 : n4 = 0
  · subst hn4
    have hus : Hid (us = []) := List.eq_nil_of_length_eq_zero S4.out.len
    have HAt : Hid (A = false) := by
      show _ = _
      rw [HA3.out, rst, hus.out]
      rfl
    have hI : I = -1 := HZ.out rfl
    subst hI
    go_wp2
    go_ret
    exact ⟨by rw [HAt.out]; rfl, HB5.out⟩
  obtain ⟨b, o, hp4, hc4⟩ := (S4.out.below HB5.out).at (by omega)
  subst hp4
  obtain ⟨x0, HX0⟩ : ∃ x0, Hid (us.getD 0 0 = x0) := ⟨_, rfl⟩
  have hcx0 := hc4 0 (by omega)
  rw [HX0.out, Nat.add_zero] at hcx0
  have hn4i : (0 : Int) < (n4 : Int) := by omega
  have hhd : us.head? = some x0 := by
    have h1 := HX0.out
    have h2 := S4.out.len
    cases us with
    | nil => simp at h2; omega
    | cons u r => simp at h1; rw [h1]; rfl
  have HHD : Hid (us.head? = some x0) := hhd
  clear hc4 hhd
  have hcap4 := S4.out.cap
  have htop4 := S4.out.top
  by_cases h60 : x0 = 60
  · have q60 : (x0 == 60) = true := beq_iff_eq.2 h60
    have HD60 : Hid (dst us = ia us 62 62 + 1) := by show _ = _; rw [HDS.out, if_pos (by rw [HHD.out, h60])]
    have HIB : Hid (Calls Tryd.prog 28 #[.slice (some ⟨b, o, none⟩) n4 c4, .int .u8 62] w5 fun e w' => e = .returned (.int .i64 (ia us 62 62)) ∧ w' = w5) := indexByte_all _ n4 c4 us w5 (by omega) (S4.out.below HB5.out)
    have hge2 := ia_ge 62 62 us
    have hle2 : ia us 62 62 < n4 := by have := ia_lt 62 62 us (by rw [S4.out.len]; omega); rw [S4.out.len] at this; exact this
    clear h60
    generalize ia us 62 62 = J at HIB HD60 hge2 hle2
    go_wp2_with fail
    refine HIB.out.mono ?_
    rintro e w' ⟨rfl, hw⟩
    obtain rfl := hw.symm
    clear HIB
    by_cases hJ : J = -1
    · subst hJ
      have HAt : Hid (A = false) := by show _ = _; rw [HA3.out, rst, HD60.out]; rfl
      go_wp2
      go_ret
      exact ⟨by rw [HAt.out]; rfl, HB5.out⟩
    · obtain ⟨d, hd⟩ : ∃ d : Nat, J + 1 = d := ⟨(J + 1).toNat, by omega⟩
      have hd0 : 0 < d := by omega
      have hdn : d ≤ n4 := by omega
      have HDD : Hid (dst us = d) := by show _ = _; rw [HD60.out, hd]
      have hdi : ¬ (d : Int) ≤ 0 := by omega
      have hdn2 : (d : Int) ≤ (n4 : Int) := by omega
      have HV0 : Hid (aft (us.drop d) = A) := by show _ = _; rw [HA3.out, rst, HDD.out, if_neg (by omega), Int.toNat_natCast]
      by_cases hcd : c4 = d
      · have HAt : Hid (A = true) := by
          show _ = _
          rw [← HV0.out, List.drop_eq_nil_of_le (by rw [S4.out.len]; omega)]
          rfl
        have Hib : Hid (Calls Tryd.prog 25 #[.slice (some ⟨b, o, none⟩) 0 0] w5 fun e w' => e = .returned (.bool true) ∧ w' = w5) := isBlank_any _ 0 0 [] w5 ⟨rfl, Nat.le_refl _, by omega, by simp, by simp, fun a e => ⟨b, o, by cases e; rfl⟩, Lib.BytesIn.nil _ _ _⟩
        have hn0 : n4 - d = 0 := by omega
        have hc0 : c4 - d = 0 := by omega
        go_wp2_with fail
        refine Hib.out.mono ?_
        rintro e w' ⟨rfl, hw⟩
        obtain rfl := hw.symm
        go_wp2
        go_ret
        exact ⟨by rw [HAt.out]; rfl, HB5.out⟩
      · obtain ⟨p5, hv5, s5⟩ := S4.out.drop d (by omega)
        generalize us.drop d = vs at s5 HV0
        have HV : Hid (aft vs = A) := HV0.out
        rw [fromV_in b o n4 c4 d hcd] at hv5
        obtain ⟨o5, HO5⟩ : ∃ o5, Hid (o + d = o5) := ⟨_, rfl⟩
        obtain ⟨n5, HN5⟩ : ∃ n5, Hid (n4 - d = n5) := ⟨_, rfl⟩
        obtain ⟨c5, HC5⟩ : ∃ c5, Hid (c4 - d = c5) := ⟨_, rfl⟩
        rw [HO5.out, HN5.out, HC5.out] at hv5
        rw [HN5.out, HC5.out] at s5
        have hp5 : p5 = some ⟨b, o5, none⟩ := by injection hv5 with h1; exact h1.symm
        subst hp5
        have S5 : Hid (Sl w (some ⟨b, o5, none⟩) n5 c5 vs) := s5
        have hn5b : n5 ≤ 1048576 := by have := HN5.out; omega
        clear s5 hv5
        go_wp2_with fail
        simp only [HO5.out, HN5.out, HC5.out]
        have hL5 : lead vs ≤ n5 := by have := lead_le vs; rw [S5.out.len] at this; exact this
        have Hib : Hid (Calls Tryd.prog 25 #[.slice (some ⟨b, o5, none⟩) n5 c5] w5 fun e w' => e = .returned (.bool (decide (lead vs = n5))) ∧ w' = w5) := isBlank_any _ n5 c5 vs w5 (S5.out.below HB5.out)
        by_cases hbl : lead vs = n5
        · have HAt : Hid (A = true) := by show _ = _; rw [← HV.out, aft, if_pos (by rw [S5.out.len]; exact hbl)]
          rw [decide_eq_true hbl] at Hib
          clear hbl hL5
          go_wp2_with fail
          refine Hib.out.mono ?_
          rintro e w' ⟨rfl, hw⟩
          obtain rfl := hw.symm
          go_wp2
          go_ret
          exact ⟨by rw [HAt.out]; rfl, HB5.out⟩
        · have hn5 : 0 < n5 := by omega
          have HA5 : Hid (A = if lead vs = 0 then false else ttl (trimB vs)) := by show _ = _; rw [← HV.out, aft, if_neg (by rw [S5.out.len]; exact hbl)]
          rw [decide_eq_false hbl] at Hib
          obtain ⟨p6, hv6, s6⟩ := ((S5.out.take (body vs) (by have := body_le vs; rw [S5.out.len] at this; exact this))).drop (lead (vs.take (body vs))) (by have := lead_le (vs.take (body vs)); rw [List.length_take] at this; omega)
          have htb := trimBlanks_any b o5 n5 c5 vs w5 hn5 (S5.out.below HB5.out)
          rw [hv6] at htb
          obtain ⟨n6, HN6⟩ : ∃ n6, Hid (body vs - lead (vs.take (body vs)) = n6) := ⟨_, rfl⟩
          obtain ⟨c6, HC6⟩ : ∃ c6, Hid (c5 - lead (vs.take (body vs)) = c6) := ⟨_, rfl⟩
          rw [HN6.out, HC6.out] at htb s6
          have Htb : Hid (Calls Tryd.prog 29 #[.slice (some ⟨b, o5, none⟩) n5 c5] w5 fun e w' => e = .returned (.slice p6 n6 c6) ∧ w' = w5) := htb
          have S6 : Hid (Sl w p6 n6 c6 (trimB vs)) := s6
          have Hin : Hid (Calls Tryd.prog 30 #[.slice (some ⟨b, o5, none⟩) n5 c5] w5 fun e w' => IndE vs e ∧ w' = w5) := indentation_any b o5 n5 c5 vs w5 hn5 (by omega) (S5.out.below HB5.out)
          generalize trimB vs = ts at S6 HA5
          clear hbl hL5 htb s6 hv6
          go_wp2_with fail
          refine Hib.out.mono ?_
          rintro e w' ⟨rfl, hw⟩
          obtain rfl := hw.symm
          go_wp2_with fail
          refine Htb.out.mono ?_
          rintro e w' ⟨rfl, hw⟩
          obtain rfl := hw.symm
          go_wp2_with fail
          refine Hin.out.mono ?_
          rintro e w' ⟨⟨r, rfl, hr0, hr1⟩, hw⟩
          obtain rfl := hw.symm
          have HR1 : Hid (r = 0 ↔ lead vs = 0) := hr1
          clear hr1 Hib Htb Hin
          by_cases hr : r = 0
          · have hrb : (r == 0) = true := beq_iff_eq.2 hr
            have HAt : Hid (A = false) := by show _ = _; rw [HA5.out, if_pos (HR1.out.1 hr)]
            clear hr
            go_wp2
            go_ret
            exact ⟨by rw [HAt.out]; rfl, HB5.out⟩
          · have hrb : (r == 0) = false := beq_eq_false_iff_ne.2 hr
            have HA6 : Hid (A = ttl ts) := by show _ = _; rw [HA5.out, if_neg (fun e => hr (HR1.out.2 e))]
            clear hr
            by_cases h62 : n6 < 2
            · have h62i : (n6 : Int) < 2 := by omega
              have HAt : Hid (A = false) := by show _ = _; rw [HA6.out, ttl, if_pos (by rw [S6.out.len]; exact h62)]
              go_wp2
              go_ret
              exact ⟨by rw [HAt.out]; rfl, HB5.out⟩
            · have h62i : ¬ (n6 : Int) < 2 := by omega
              obtain ⟨b6, o6, hp6, hc6⟩ := (S6.out.below HB5.out).at (by omega)
              subst hp6
              obtain ⟨k6, hk6⟩ : ∃ k6, n6 = k6 + 2 := ⟨n6 - 2, by omega⟩
              subst hk6
              obtain ⟨x, HX⟩ : ∃ x, Hid (ts.getD 0 0 = x) := ⟨_, rfl⟩
              obtain ⟨y, HY⟩ : ∃ y, Hid (ts.getD (k6 + 1) 0 = y) := ⟨_, rfl⟩
              have hcx := hc6 0 (by omega)
              have hcy := hc6 (k6 + 1) (by omega)
              rw [HX.out, Nat.add_zero] at hcx
              rw [HY.out] at hcy
              have HA7 : Hid (A = if x = 34 then y == x else if x = 39 then y == x else if x = 40 then y == 41 else false) := by
                show _ = _
                rw [HA6.out, ttl, if_neg (by rw [S6.out.len]; omega), S6.out.len, HX.out, show k6 + 2 - 1 = k6 + 1 from by omega, HY.out]
              have hk0 : (0 : Int) < (k6 : Int) + 2 := by omega
              have hk6b : (k6 : Int) ≤ 1048576 := by have := HN6.out; have := body_le vs; rw [S5.out.len] at this; omega
              have hk2 : (k6 : Int) + 1 < (k6 : Int) + 2 := by omega
              clear hc6
              by_cases h34 : x = 34
              · have q34 : (x == 34) = true := beq_iff_eq.2 h34
                have HAt : Hid (A = (y == x)) := by show _ = _; rw [HA7.out, if_pos h34]
                clear h34
                go_wp2
                all_goals go_ret
                all_goals exact ⟨by rw [HAt.out]; rfl, HB5.out⟩
              · have q34 : (x == 34) = false := beq_eq_false_iff_ne.2 h34
                by_cases h39 : x = 39
                · have q39 : (x == 39) = true := beq_iff_eq.2 h39
                  have HAt : Hid (A = (y == x)) := by show _ = _; rw [HA7.out, if_neg h34, if_pos h39]
                  clear h34 h39
                  go_wp2
                  all_goals go_ret
                  all_goals exact ⟨by rw [HAt.out]; rfl, HB5.out⟩
                · have q39 : (x == 39) = false := beq_eq_false_iff_ne.2 h39
                  by_cases h40 : x = 40
                  · have q40 : (x == 40) = true := beq_iff_eq.2 h40
                    have HAt : Hid (A = (y == 41)) := by show _ = _; rw [HA7.out, if_neg h34, if_neg h39, if_pos h40]
                    clear h34 h39 h40
                    go_wp2
                    all_goals go_ret
                    all_goals exact ⟨by rw [HAt.out]; rfl, HB5.out⟩
                  · have q40 : (x == 40) = false := beq_eq_false_iff_ne.2 h40
                    have HAt : Hid (A = false) := by show _ = _; rw [HA7.out, if_neg h34, if_neg h39, if_neg h40]
                    clear h34 h39 h40
                    go_wp2
                    all_goals go_ret
                    all_goals exact ⟨by rw [HAt.out]; rfl, HB5.out⟩

  · have q60 : (x0 == 60) = false := beq_eq_false_iff_ne.2 h60
    have HDN : Hid (dst us = if I < 0 then (n4 : Int) else I) := by show _ = _; rw [HDS.out, if_neg (by rw [HHD.out]; simpa using h60), S4.out.len]
    clear h60
    by_cases hI : I < 0
    · have HAt : Hid (A = true) := by
        show _ = _
        rw [HA3.out, rst, HDN.out, if_pos hI, if_neg (by omega), Int.toNat_natCast, List.drop_eq_nil_of_le (by rw [S4.out.len]; omega)]
        rfl
      have hdi : ¬ (n4 : Int) ≤ 0 := by omega
      by_cases hcd : c4 = n4
      · have Hib : Hid (Calls Tryd.prog 25 #[.slice (some ⟨b, o, none⟩) 0 0] w5 fun e w' => e = .returned (.bool true) ∧ w' = w5) := isBlank_any _ 0 0 [] w5 ⟨rfl, Nat.le_refl _, by omega, by simp, by simp, fun a e => ⟨b, o, by cases e; rfl⟩, Lib.BytesIn.nil _ _ _⟩
        subst hcd
        go_wp2_with fail
        refine Hib.out.mono ?_
        rintro e w' ⟨rfl, hw⟩
        obtain rfl := hw.symm
        go_wp2
        go_ret
        exact ⟨by rw [HAt.out]; rfl, HB5.out⟩
      · have Hib : Hid (Calls Tryd.prog 25 #[.slice (some ⟨b, o + n4, none⟩) 0 (c4 - n4)] w5 fun e w' => e = .returned (.bool true) ∧ w' = w5) := isBlank_any _ 0 (c4 - n4) [] w5 ⟨rfl, by omega, by omega, by simp, by simp, fun a e => ⟨b, o + n4, by cases e; rfl⟩, Lib.BytesIn.nil _ _ _⟩
        go_wp2_with fail
        refine Hib.out.mono ?_
        rintro e w' ⟨rfl, hw⟩
        obtain rfl := hw.symm
        go_wp2
        go_ret
        exact ⟨by rw [HAt.out]; rfl, HB5.out⟩
    · by_cases hI0 : I = 0
      · subst hI0
        have HAt : Hid (A = false) := by show _ = _; rw [HA3.out, rst, HDN.out]; rfl
        go_wp2
        go_ret
        exact ⟨by rw [HAt.out]; rfl, HB5.out⟩
      · obtain ⟨d, hd⟩ : ∃ d : Nat, I = d := ⟨I.toNat, by omega⟩
        subst hd
        have HDD : Hid (dst us = d) := by show _ = _; rw [HDN.out, if_neg hI]
        have hd0 : 0 < d := by omega
        have hdn : d ≤ n4 := by omega
        have hdi : ¬ (d : Int) ≤ 0 := by omega
        have hdn2 : (d : Int) ≤ (n4 : Int) := by omega
        have hdneg : ¬ (d : Int) < 0 := by omega
        have HV0 : Hid (aft (us.drop d) = A) := by show _ = _; rw [HA3.out, rst, HDD.out, if_neg (by omega), Int.toNat_natCast]
        by_cases hcd : c4 = d
        · have HAt : Hid (A = true) := by
            show _ = _
            rw [← HV0.out, List.drop_eq_nil_of_le (by rw [S4.out.len]; omega)]
            rfl
          have Hib : Hid (Calls Tryd.prog 25 #[.slice (some ⟨b, o, none⟩) 0 0] w5 fun e w' => e = .returned (.bool true) ∧ w' = w5) := isBlank_any _ 0 0 [] w5 ⟨rfl, Nat.le_refl _, by omega, by simp, by simp, fun a e => ⟨b, o, by cases e; rfl⟩, Lib.BytesIn.nil _ _ _⟩
          have hn0 : n4 - d = 0 := by omega
          have hc0 : c4 - d = 0 := by omega
          go_wp2_with fail
          refine Hib.out.mono ?_
          rintro e w' ⟨rfl, hw⟩
          obtain rfl := hw.symm
          go_wp2
          go_ret
          exact ⟨by rw [HAt.out]; rfl, HB5.out⟩
        · obtain ⟨p5, hv5, s5⟩ := S4.out.drop d (by omega)
          generalize us.drop d = vs at s5 HV0
          have HV : Hid (aft vs = A) := HV0.out
          rw [fromV_in b o n4 c4 d hcd] at hv5
          obtain ⟨o5, HO5⟩ : ∃ o5, Hid (o + d = o5) := ⟨_, rfl⟩
          obtain ⟨n5, HN5⟩ : ∃ n5, Hid (n4 - d = n5) := ⟨_, rfl⟩
          obtain ⟨c5, HC5⟩ : ∃ c5, Hid (c4 - d = c5) := ⟨_, rfl⟩
          rw [HO5.out, HN5.out, HC5.out] at hv5
          rw [HN5.out, HC5.out] at s5
          have hp5 : p5 = some ⟨b, o5, none⟩ := by injection hv5 with h1; exact h1.symm
          subst hp5
          have S5 : Hid (Sl w (some ⟨b, o5, none⟩) n5 c5 vs) := s5
          have hn5b : n5 ≤ 1048576 := by have := HN5.out; omega
          clear s5 hv5
          go_wp2_with fail
          simp only [HO5.out, HN5.out, HC5.out]
          have hL5 : lead vs ≤ n5 := by have := lead_le vs; rw [S5.out.len] at this; exact this
          have Hib : Hid (Calls Tryd.prog 25 #[.slice (some ⟨b, o5, none⟩) n5 c5] w5 fun e w' => e = .returned (.bool (decide (lead vs = n5))) ∧ w' = w5) := isBlank_any _ n5 c5 vs w5 (S5.out.below HB5.out)
          by_cases hbl : lead vs = n5
          · have HAt : Hid (A = true) := by show _ = _; rw [← HV.out, aft, if_pos (by rw [S5.out.len]; exact hbl)]
            rw [decide_eq_true hbl] at Hib
            clear hbl hL5
            go_wp2_with fail
            refine Hib.out.mono ?_
            rintro e w' ⟨rfl, hw⟩
            obtain rfl := hw.symm
            go_wp2
            go_ret
            exact ⟨by rw [HAt.out]; rfl, HB5.out⟩
          · have hn5 : 0 < n5 := by omega
            have HA5 : Hid (A = if lead vs = 0 then false else ttl (trimB vs)) := by show _ = _; rw [← HV.out, aft, if_neg (by rw [S5.out.len]; exact hbl)]
            rw [decide_eq_false hbl] at Hib
            obtain ⟨p6, hv6, s6⟩ := ((S5.out.take (body vs) (by have := body_le vs; rw [S5.out.len] at this; exact this))).drop (lead (vs.take (body vs))) (by have := lead_le (vs.take (body vs)); rw [List.length_take] at this; omega)
            have htb := trimBlanks_any b o5 n5 c5 vs w5 hn5 (S5.out.below HB5.out)
            rw [hv6] at htb
            obtain ⟨n6, HN6⟩ : ∃ n6, Hid (body vs - lead (vs.take (body vs)) = n6) := ⟨_, rfl⟩
            obtain ⟨c6, HC6⟩ : ∃ c6, Hid (c5 - lead (vs.take (body vs)) = c6) := ⟨_, rfl⟩
            rw [HN6.out, HC6.out] at htb s6
            have Htb : Hid (Calls Tryd.prog 29 #[.slice (some ⟨b, o5, none⟩) n5 c5] w5 fun e w' => e = .returned (.slice p6 n6 c6) ∧ w' = w5) := htb
            have S6 : Hid (Sl w p6 n6 c6 (trimB vs)) := s6
            have Hin : Hid (Calls Tryd.prog 30 #[.slice (some ⟨b, o5, none⟩) n5 c5] w5 fun e w' => IndE vs e ∧ w' = w5) := indentation_any b o5 n5 c5 vs w5 hn5 (by omega) (S5.out.below HB5.out)
            generalize trimB vs = ts at S6 HA5
            clear hbl hL5 htb s6 hv6
            go_wp2_with fail
            refine Hib.out.mono ?_
            rintro e w' ⟨rfl, hw⟩
            obtain rfl := hw.symm
            go_wp2_with fail
            refine Htb.out.mono ?_
            rintro e w' ⟨rfl, hw⟩
            obtain rfl := hw.symm
            go_wp2_with fail
            refine Hin.out.mono ?_
            rintro e w' ⟨⟨r, rfl, hr0, hr1⟩, hw⟩
            obtain rfl := hw.symm
            have HR1 : Hid (r = 0 ↔ lead vs = 0) := hr1
            clear hr1 Hib Htb Hin
            by_cases hr : r = 0
            · have hrb : (r == 0) = true := beq_iff_eq.2 hr
              have HAt : Hid (A = false) := by show _ = _; rw [HA5.out, if_pos (HR1.out.1 hr)]
              clear hr
              go_wp2
              go_ret
              exact ⟨by rw [HAt.out]; rfl, HB5.out⟩
            · have hrb : (r == 0) = false := beq_eq_false_iff_ne.2 hr
              have HA6 : Hid (A = ttl ts) := by show _ = _; rw [HA5.out, if_neg (fun e => hr (HR1.out.2 e))]
              clear hr
              by_cases h62 : n6 < 2
              · have h62i : (n6 : Int) < 2 := by omega
                have HAt : Hid (A = false) := by show _ = _; rw [HA6.out, ttl, if_pos (by rw [S6.out.len]; exact h62)]
                go_wp2
                go_ret
                exact ⟨by rw [HAt.out]; rfl, HB5.out⟩
              · have h62i : ¬ (n6 : Int) < 2 := by omega
                obtain ⟨b6, o6, hp6, hc6⟩ := (S6.out.below HB5.out).at (by omega)
                subst hp6
                obtain ⟨k6, hk6⟩ : ∃ k6, n6 = k6 + 2 := ⟨n6 - 2, by omega⟩
                subst hk6
                obtain ⟨x, HX⟩ : ∃ x, Hid (ts.getD 0 0 = x) := ⟨_, rfl⟩
                obtain ⟨y, HY⟩ : ∃ y, Hid (ts.getD (k6 + 1) 0 = y) := ⟨_, rfl⟩
                have hcx := hc6 0 (by omega)
                have hcy := hc6 (k6 + 1) (by omega)
                rw [HX.out, Nat.add_zero] at hcx
                rw [HY.out] at hcy
                have HA7 : Hid (A = if x = 34 then y == x else if x = 39 then y == x else if x = 40 then y == 41 else false) := by
                  show _ = _
                  rw [HA6.out, ttl, if_neg (by rw [S6.out.len]; omega), S6.out.len, HX.out, show k6 + 2 - 1 = k6 + 1 from by omega, HY.out]
                have hk0 : (0 : Int) < (k6 : Int) + 2 := by omega
                have hk6b : (k6 : Int) ≤ 1048576 := by have := HN6.out; have := body_le vs; rw [S5.out.len] at this; omega
                have hk2 : (k6 : Int) + 1 < (k6 : Int) + 2 := by omega
                clear hc6
                by_cases h34 : x = 34
                · have q34 : (x == 34) = true := beq_iff_eq.2 h34
                  have HAt : Hid (A = (y == x)) := by show _ = _; rw [HA7.out, if_pos h34]
                  clear h34
                  go_wp2
                  all_goals go_ret
                  all_goals exact ⟨by rw [HAt.out]; rfl, HB5.out⟩
                · have q34 : (x == 34) = false := beq_eq_false_iff_ne.2 h34
                  by_cases h39 : x = 39
                  · have q39 : (x == 39) = true := beq_iff_eq.2 h39
                    have HAt : Hid (A = (y == x)) := by show _ = _; rw [HA7.out, if_neg h34, if_pos h39]
                    clear h34 h39
                    go_wp2
                    all_goals go_ret
                    all_goals exact ⟨by rw [HAt.out]; rfl, HB5.out⟩
                  · have q39 : (x == 39) = false := beq_eq_false_iff_ne.2 h39
                    by_cases h40 : x = 40
                    · have q40 : (x == 40) = true := beq_iff_eq.2 h40
                      have HAt : Hid (A = (y == 41)) := by show _ = _; rw [HA7.out, if_neg h34, if_neg h39, if_pos h40]
                      clear h34 h39 h40
                      go_wp2
                      all_goals go_ret
                      all_goals exact ⟨by rw [HAt.out]; rfl, HB5.out⟩
                    · have q40 : (x == 40) = false := beq_eq_false_iff_ne.2 h40
                      have HAt : Hid (A = false) := by show _ = _; rw [HA7.out, if_neg h34, if_neg h39, if_neg h40]
                      clear h34 h39 h40
                      go_wp2
                      all_goals go_ret
                      all_goals exact ⟨by rw [HAt.out]; rfl, HB5.out⟩
end Go.Proofs.Qxb6606027aDoor
