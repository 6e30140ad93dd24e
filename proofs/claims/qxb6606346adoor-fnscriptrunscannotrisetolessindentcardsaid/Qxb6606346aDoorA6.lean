import Derived.Test.Qxb6606346aDoorA4
import Derived.Test.Qxb6606346aDoorP4
import Derived.Deep.RegionWith
set_option linter.unusedVariables false
set_option linter.unusedSimpArgs false
namespace Go.Proofs.Qxb6606346aDoor
open Go.RowKit
theorem own_set {w : World} {B g n cap k : Nat} {L : List Int} {x : Int} (h : w.ownsRow B 32 1 (.slice (some ⟨g, 0, none⟩) n cap) n (L.map (Value.int .u8))) (hk : k < n) :
    (w.setCell ⟨g, k, none⟩ (.int .u8 x)).ownsRow B 32 1 (.slice (some ⟨g, 0, none⟩) n cap) n ((L.set k x).map (Value.int .u8)) := by
  obtain ⟨cur, h1, h2, h3, h4, h5, h6⟩ := own_slice h
  have hs := heap_setCell_same w g k cur 32 (.int .u8 x) h2
  refine ⟨by have := h.1; simpa using this, .inr ⟨g, cap, _, rfl, h1, hs, h3, h4, by simpa using h5, ?_⟩⟩
  rw [List.map_set, ← h6]
  simp [List.take_set]
theorem own_c {w : World} {B g n cap : Nat} {L : List Int} (h : w.ownsRow B 32 1 (.slice (some ⟨g, 0, none⟩) n cap) n (L.map (Value.int .u8))) (k : Nat) (hk : k < n) : w.cell? ⟨g, k, none⟩ = some (.int .u8 (L.getD k 0)) ∧ w.frozen? ⟨g, k, none⟩ = false := by
  obtain ⟨cur, h1, h2, h3, h4, h5, h6⟩ := own_slice h
  refine ⟨?_, frozen_of_row w g k _ 32 h2⟩
  have hl : L.length = n := by have := h.1; simpa using this
  rw [cell_of_row w g k cur 32 (0, 0) h2, ← Array.getElem?_toList]
  have : (cur.toList.take (n * 1))[k]? = cur.toList[k]? := by rw [List.getElem?_take, if_pos (by omega)]
  rw [← this, h6, List.getElem?_map, List.getD_eq_getElem?_getD, List.getElem?_eq_getElem (by omega)]
  rfl
theorem StG.set {w : World} {B S Fg Bg : Nat} {fv tv : Value} {D g cap k : Nat} {L FL BL : List Int} {x : Int} (h : StG w B S Fg Bg fv tv D g cap L FL BL) (hk : k < L.length) : StG (w.setCell ⟨g, k, none⟩ (.int .u8 x)) B S Fg Bg fv tv D g cap (L.set k x) FL BL := by
  refine ⟨?_, ?_, ?_, ?_, h.fl, h.bl, h.ne, h.le⟩
  · rw [List.length_set]; exact (heap_setCell_other w _ S _ (by simpa using Ne.symm h.ne.1)).trans h.s
  · rw [List.length_set]; exact own_set h.o hk
  · exact (heap_setCell_other w _ Fg _ (by simpa using Ne.symm h.ne.2.1)).trans h.f
  · exact (heap_setCell_other w _ Bg _ (by simpa using Ne.symm h.ne.2.2.1)).trans h.b
/-- memory while slide works: X: its own variable 'ops' -/
structure Sl (w0 w : World) (B S Fg Bg X : Nat) (fv tv : Value) (D g cap : Nat) (L FL BL : List Int) : Prop where
  st : StG w B S Fg Bg fv tv D g cap L FL BL
  x : w.heap[X]? = some (.cells #[.slice (some ⟨g, 0, none⟩) L.length cap] 28 (0, 0))
  nx : X ≠ S ∧ X ≠ g ∧ X ≠ Fg ∧ X ≠ Bg
  bl : Below B w0 w
section
variable {w0 w : World} {B S Fg Bg X : Nat} {fv tv : Value} {D g cap : Nat} {L FL BL : List Int}
theorem Sl.drewN (h : Sl w0 w B S Fg Bg X fv tv D g cap L FL BL) (q : Nat) : Sl w0 (w.drewN q) B S Fg Bg X fv tv D g cap L FL BL := ⟨h.st.drewN q, h.x, h.nx, Below.drewN h.bl q⟩
theorem Sl.cx (h : Sl w0 w B S Fg Bg X fv tv D g cap L FL BL) : w.cell? ⟨X, 0, none⟩ = some (.slice (some ⟨g, 0, none⟩) L.length cap) := by rw [cell_of_row w X 0 _ 28 (0, 0) h.x]; rfl
theorem Sl.c (h : Sl w0 w B S Fg Bg X fv tv D g cap L FL BL) (k : Nat) (hk : k < L.length) : w.cell? ⟨g, k, none⟩ = some (.int .u8 (L.getD k 0)) := (own_c h.st.o k hk).1
theorem Sl.fz (h : Sl w0 w B S Fg Bg X fv tv D g cap L FL BL) (k : Nat) (hk : k < L.length) : w.frozen? ⟨g, k, none⟩ = false := (own_c h.st.o k hk).2
theorem Sl.set (h : Sl w0 w B S Fg Bg X fv tv D g cap L FL BL) (k : Nat) (hk : k < L.length) (x : Int) : Sl w0 (w.setCell ⟨g, k, none⟩ (.int .u8 x)) B S Fg Bg X fv tv D g cap (L.set k x) FL BL := by
  refine ⟨h.st.set hk, ?_, h.nx, h.bl.setCell h.st.glt.1 _⟩
  rw [List.length_set]
  exact (heap_setCell_other w _ X _ (by simpa using h.nx.2.1)).trans h.x
theorem Sl.kept (h : Sl w0 w B S Fg Bg X fv tv D g cap L FL BL) (hn : L.length ≤ 1048576) (i : Int) : Calls Tryd.prog 20 #[.int .i64 i, .pointer (some ⟨X, 0, none⟩)] w fun e w' => e = .returned (.bool (kp L i)) ∧ w' = w :=
  keptAt_any X g L.length cap L i w h.cx rfl hn h.c
end
/-! ### the measure of slide's rounds -/
def nk (L : List Int) (p : Nat) : Nat := (L.drop p).countP (· != 32)
theorem nk_kept {L : List Int} {p : Nat} (hp : p < L.length) (h : L.getD p 0 = 32) : nk L p = nk L (p + 1) := by
  unfold nk
  rw [drop_cons hp, h, List.countP_cons]
  simp
theorem nk_le {L : List Int} {p r : Nat} (h : p ≤ r) : nk L r ≤ nk L p := by
  unfold nk
  have : L.drop r = (L.drop p).drop (r - p) := by rw [List.drop_drop]; congr 1; omega
  rw [this]
  exact List.Sublist.countP_le (List.drop_sublist _ _)
theorem nk_lt {L : List Int} {p : Nat} (hp : p < L.length) (h : L.getD p 0 ≠ 32) : nk L (p + 1) + 1 = nk L p := by
  unfold nk
  rw [drop_cons hp, List.countP_cons, if_pos (bne_iff_ne.2 h)]
theorem nk_slide {L : List Int} {P up n dn s : Nat} {op : Int} (hs : s ≤ up + dn) (hl : P + up + n + dn ≤ L.length) (hn : 0 < n) (hr : L.getD (P + up) 0 ≠ 32) :
    nk (fill (fill L P (P + up + n + dn) 32) (P + s) (P + s + n) op) (P + s + n) < nk L (P + up) := by
  have lF : (fill L P (P + up + n + dn) 32).length = L.length := fill_length _ _ _ _ (by omega) (by omega)
  have h1 : nk (fill (fill L P (P + up + n + dn) 32) (P + s) (P + s + n) op) (P + s + n) = nk (fill L P (P + up + n + dn) 32) (P + s + n) := by
    unfold nk
    rw [drop_fill _ _ _ _ _ (by omega) (Nat.le_refl _) (by omega)]
  have h2 : ∀ k, P + s + n + k ≤ P + up + n + dn → nk (fill L P (P + up + n + dn) 32) (P + s + n) = nk (fill L P (P + up + n + dn) 32) (P + s + n + k) := by
    intro k
    induction k with
    | zero => intro _; rfl
    | succ k ih =>
      intro hk
      rw [ih (by omega)]
      exact nk_kept (by omega) (by rw [getD_fill _ _ _ _ (by omega) (by omega), if_pos (by omega)])
  have h3 := h2 (up + dn - s) (by omega)
  rw [show P + s + n + (up + dn - s) = P + up + n + dn by omega] at h3
  have h4 : nk (fill L P (P + up + n + dn) 32) (P + up + n + dn) = nk L (P + up + n + dn) := by
    unfold nk
    rw [drop_fill _ _ _ _ _ (by omega) (Nat.le_refl _) (by omega)]
  have h5 := nk_lt (L := L) (p := P + up) (by omega) hr
  have h6 := nk_le (L := L) (p := P + up + 1) (r := P + up + n + dn) (by omega)
  omega
/-- the test of slide's first inner loop -/
def UpC (L : List Int) (ls : List ByteArray) (p m a up : Nat) : Prop := up < p ∧ L.getD (p - up - 1) 0 = 32 ∧ (p = up + 1 ∨ L.getD (p - up - 2) 0 = 32) ∧ ls.getD (a - up - 1) ByteArray.empty = ls.getD (a - up - 1 + m) ByteArray.empty
/-- .. and of its second -/
def DnC (L : List Int) (ls : List ByteArray) (q n m a dn : Nat) : Prop := q + dn < n ∧ L.getD (q + dn) 0 = 32 ∧ (q + dn + 1 = n ∨ L.getD (q + dn + 1) 0 = 32) ∧ ls.getD (a + dn) ByteArray.empty = ls.getD (a + dn + m) ByteArray.empty
def Q1 (q n : Nat) (L : List Int) (op : Int) : Prop := q = n ∨ (q < n ∧ ∃ x, L.getD q 0 = x ∧ x ≠ op)

def SlOut (fs ts : List ByteArray) (B S Fg Bg : Nat) (fv tv : Value) (D g cap n : Nat) (FL BL : List Int) (w : World) (e : Ending) (w' : World) : Prop :=
  e = .returned (.tuple #[]) ∧ (∃ L i j, StG w' B S Fg Bg fv tv D g cap L FL BL ∧ L.length = n ∧ SI fs ts L n i j) ∧ Below B w w'
set_option maxHeartbeats 8000000 in
set_option maxRecDepth 100000 in
theorem slide_any (fs ts : List ByteArray) (B S Fg Bg : Nat) (fv tv : Value) (D g cap n : Nat) (L FL BL : List Int) (w : World) (hfs : fs.length ≤ 65536) (hts : ts.length ≤ 65536) (hn : n ≤ 1048576) (hL : L.length = n) (hB : B ≤ w.heap.size) (hS : StG w B S Fg Bg fv tv D g cap L FL BL) (hfv : Lv w B fv fs) (htv : Lv w B tv ts) (hI : SI fs ts L 0 0 0) (hsz : ∀ s ∈ fs ++ ts, s.size ≤ 9223372036854775807) :
    Calls Tryd.prog 17 #[.pointer (some ⟨S, 0, none⟩)] w fun e w' => SlOut fs ts B S Fg Bg fv tv D g cap n FL BL w e w' := by
  have c2 := hS.s.c2
  rw [hL] at c2
  obtain ⟨X, HX⟩ : ∃ X, Hid (w.heap.size = X) := ⟨_, rfl⟩
  have HS0 : Hid (Sl w (w.alloc (.cells #[.slice (some ⟨g, 0, none⟩) n cap] 28)) B S Fg Bg X fv tv D g cap L FL BL) := by
    have l1 := hS.s.lt
    have l2 := hS.f.lt
    have l3 := hS.b.lt
    have l4 := hS.glt
    have hx := HX.out
    refine ⟨hS.congr (Below.heap_alloc w _ S l1) (Below.heap_alloc w _ g l4.2) (Below.heap_alloc w _ Fg l2) (Below.heap_alloc w _ Bg l3), ?_, ⟨by omega, by omega, by omega, by omega⟩, (Below.refl _ _).alloc hB _⟩
    rw [← hx, hL]
    exact heap_alloc_new w _
  have HFV : Hid (Lv w B fv fs) := hfv
  have HTV : Hid (Lv w B tv ts) := htv
  have HI : Hid (SI fs ts L 0 0 0) := hI
  have HSZ : Hid (∀ s ∈ fs ++ ts, s.size ≤ 9223372036854775807) := hsz
  have HL : Hid (L.length = n) := hL
  clear hB hS hfv htv hI hsz hL
  go_enter Tryd.func17, Tryd.ntmps17
  go_wp2
  rw [HX.out]
  clear c2
  go_loopg [3, 4, 5] (nk L 0 * (n + 1) + n) (fun gh a3 a4 a5 wr => ∃ (p i j : Nat) (L : List Int), a3 = .int .i64 i ∧ a4 = .int .i64 j ∧ a5 = .int .i64 p ∧ p ≤ n ∧ i ≤ 65536 ∧ j ≤ 65536 ∧ gh = nk L p * (n + 1) + (n - p) ∧ Hid (L.length = n) ∧ Hid (Sl w wr B S Fg Bg X fv tv D g cap L FL BL) ∧ Hid (SI fs ts L p i j))
  case atStart => exact ⟨0, 0, 0, L, rfl, rfl, rfl, Nat.zero_le _, by omega, by omega, rfl, HL, HS0, HI⟩
  case round =>
    obtain ⟨p, i, j, L, rfl, rfl, rfl, hpn, hi6, hj6, rfl, HL, HSL, HSI⟩ := hrel
    clear HS0 HI
    obtain ⟨wF, rfl⟩ : ∃ x, x = wr := ⟨_, rfl⟩
    have cx := HSL.out.cx
    rw [HL.out] at cx
    by_cases hp : p < n
    · have hpi : (p : Int) < n := by omega
      have cp := HSL.out.c p (by rw [HL.out]; exact hp)
      obtain ⟨op, HOP⟩ : ∃ op, Hid (L.getD p 0 = op) := ⟨_, rfl⟩
      rw [HOP.out] at cp
      have HEN := ed_next (by rw [HL.out]; exact hp) HSI.out.e1 HSI.out.e2
      by_cases hop : op = 32
      · subst hop
        have HS2 : Hid (SI fs ts L (p + 1) (i + 1) (j + 1)) := si_kept HSI.out (by rw [HL.out]; exact hp) HOP.out
        have hij : i < 65536 ∧ j < 65536 := by have h1 := HS2.out.e2.len; omega
        have HNK : Hid (nk L p = nk L (p + 1)) := nk_kept (by rw [HL.out]; exact hp) HOP.out
        clear HEN
        obtain ⟨hi7, hj7⟩ := hij
        as_aux_lemma =>
          go_wp2
          go_roundg (nk L (p + 1) * (n + 1) + (n - (p + 1)))
          case measure => have := HNK.out; rw [this]; omega
          case rel => exact ⟨p + 1, i + 1, j + 1, L, by go_num, by go_num, by go_num, by omega, by omega, by omega, rfl, HL, HSL, HS2⟩
      · have HO2 : Hid (op = 45 ∨ op = 43) := by
          have h := HOP.out
          rcases HEN with q | q | q
          · omega
          · exact .inl (by omega)
          · exact .inr (by omega)
        clear HEN
        have b32 : (op == 32) = false := beq_eq_false_iff_ne.2 hop
        go_wp2
        go_loopg [7] (n - p) (fun gh a7 wr => ∃ q : Nat, a7 = .int .i64 q ∧ p ≤ q ∧ q ≤ n ∧ gh = n - q ∧ Hid (∀ t, p ≤ t → t < q → L.getD t 0 = op) ∧ wr = wF)
        case atStart => exact ⟨p, rfl, Nat.le_refl _, by omega, rfl, fun t h1 h2 => by omega, rfl⟩
        case round =>
          obtain ⟨q, rfl, hpq, hqn, rfl, HRU, hw⟩ := hrel
          have hw := hw.symm
          subst hw
          obtain ⟨b7, HB7⟩ : ∃ b7 : Bool, Hid ((b7 = true ∧ q < n ∧ L.getD q 0 = op) ∨ (b7 = false ∧ (q = n ∨ L.getD q 0 ≠ op))) := by
            by_cases h : q < n ∧ L.getD q 0 = op
            · exact ⟨true, .inl ⟨rfl, h⟩⟩
            · refine ⟨false, .inr ⟨rfl, ?_⟩⟩
              by_cases e : q = n
              · exact .inl e
              · exact .inr (fun h2 => h ⟨by omega, h2⟩)
          go_upto_region 7 with fail
          go_cut [53] (fun s53 wy => s53 = .bool b7 ∧ wy = wF)
          case first =>
            by_cases hqn1 : q < n
            · have hqi : (q : Int) < n := by omega
              have cq := HSL.out.c q (by rw [HL.out]; exact hqn1)
              obtain ⟨oq, HOQ⟩ : ∃ oq, Hid (L.getD q 0 = oq) := ⟨_, rfl⟩
              rw [HOQ.out] at cq
              rcases HB7.out with ⟨rfl, -, h⟩ | ⟨rfl, h⟩
              · have bq : (oq == op) = true := by rw [← HOQ.out]; exact beq_iff_eq.2 h
                clear h
                as_aux_lemma =>
                  go_wp2
                  go_meet
                  exact ⟨rfl, rfl⟩
              · have bq : (oq == op) = false := by
                  rw [← HOQ.out]
                  refine beq_eq_false_iff_ne.2 ?_
                  rcases h with h | h
                  · omega
                  · exact h
                clear h
                as_aux_lemma =>
                  go_wp2
                  go_meet
                  exact ⟨rfl, rfl⟩
            · have hqi : ¬ (q : Int) < n := by omega
              rcases HB7.out with ⟨rfl, h, -⟩ | ⟨rfl, -⟩
              · exact absurd h hqn1
              · as_aux_lemma =>
                  go_wp2
                  go_meet
                  exact ⟨rfl, rfl⟩
          case rest =>
           obtain ⟨rfl, hw⟩ := hcut
           have hw := hw.symm
           subst hw
           cases b7 with
           | true =>
            have hq : q < n ∧ L.getD q 0 = op := by
              rcases HB7.out with ⟨-, h⟩ | ⟨h, -⟩
              · exact h
              · cases h
            clear HB7
            have HRU2 : Hid (∀ t, p ≤ t → t < q + 1 → L.getD t 0 = op) := fun t h1 h2 => by
              by_cases e : t = q
              · subst e; exact hq.2
              · exact HRU.out t h1 (by omega)
            have hq1 := hq.1
            clear hq
            as_aux_lemma =>
              go_wp2
              go_roundg (n - (q + 1))
              case measure => omega
              case rel => exact ⟨q + 1, by go_num, by omega, by omega, rfl, HRU2, rfl⟩
           | false =>
            have HQ2 : Hid (q = n ∨ L.getD q 0 ≠ op) := by
              rcases HB7.out with ⟨h, -⟩ | ⟨-, h⟩
              · cases h
              · exact h
            clear HB7
            have hpq2 : p < q := by
              rcases Nat.eq_or_lt_of_le hpq with e | e
              · exfalso
                subst e
                rcases HQ2.out with h | h
                · omega
                · exact h HOP.out
              · exact e
            have HQF : Hid (Q1 q n L op) := by
              rcases HQ2.out with h | h
              · exact .inl h
              · by_cases e : q = n
                · exact .inl e
                · exact .inr ⟨by omega, L.getD q 0, rfl, h⟩
            by_cases hm : q < n ∧ L.getD q 0 ≠ 32
            · as_aux_lemma =>
                have hqi : (q : Int) < n := by omega
                have cq := HSL.out.c q (by rw [HL.out]; exact hm.1)
                obtain ⟨oq, HOQ⟩ : ∃ oq, Hid (L.getD q 0 = oq) := ⟨_, rfl⟩
                rw [HOQ.out] at cq
                have bq2 : (oq != 32) = true := by simp only [bne_iff_ne]; rw [← HOQ.out]; exact hm.2
                have hqn2 := hm.1
                have HM2 : Hid (L.getD q 0 ≠ 32) := hm.2
                clear hm
                go_wp2
                go_loopg [3, 4, 5] (n - p) (fun gh a3 a4 a5 wr => ∃ (r i j : Nat), a3 = .int .i64 i ∧ a4 = .int .i64 j ∧ a5 = .int .i64 r ∧ p ≤ r ∧ r ≤ n ∧ i ≤ 65536 ∧ j ≤ 65536 ∧ gh = n - r ∧ Hid (∀ t, p ≤ t → t < r → L.getD t 0 ≠ 32) ∧ Hid (Ed fs ts 0 0 (L.take r) i j ∧ Ed fs ts i j (L.drop r) fs.length ts.length) ∧ wr = wF)
                case atStart => exact ⟨p, i, j, rfl, rfl, rfl, Nat.le_refl _, by omega, hi6, hj6, rfl, fun t h1 h2 => by omega, ⟨HSI.out.e1, HSI.out.e2⟩, rfl⟩
                case round =>
                  obtain ⟨r, i2, j2, rfl, rfl, rfl, hpr, hrn, hi7, hj7, rfl, HNK, HEE, hw⟩ := hrel
                  have hw := hw.symm
                  subst hw
                  by_cases hr : r < n ∧ L.getD r 0 ≠ 32
                  · have hri : (r : Int) < n := by omega
                    have cr := HSL.out.c r (by rw [HL.out]; exact hr.1)
                    obtain ⟨o3, HO3⟩ : ∃ o3, Hid (L.getD r 0 = o3) := ⟨_, rfl⟩
                    rw [HO3.out] at cr
                    have b3 : (o3 != 32) = true := by simp only [bne_iff_ne]; rw [← HO3.out]; exact hr.2
                    have HNK2 : Hid (∀ t, p ≤ t → t < r + 1 → L.getD t 0 ≠ 32) := fun t h1 h2 => by
                      by_cases e : t = r
                      · subst e; exact hr.2
                      · exact HNK.out t h1 (by omega)
                    have hr1 := hr.1
                    rcases ed_next (by rw [HL.out]; exact hr.1) HEE.out.1 HEE.out.2 with h | h | h
                    · exact absurd h.1 hr.2
                    · have b4 : (o3 == 45) = true := by rw [← HO3.out]; exact beq_iff_eq.2 h.1
                      have HE2 : Hid (Ed fs ts 0 0 (L.take (r + 1)) (i2 + 1) j2 ∧ Ed fs ts (i2 + 1) j2 (L.drop (r + 1)) fs.length ts.length) := ⟨h.2.2.1, h.2.2.2⟩
                      have hi8 := h.2.1
                      clear h hr
                      as_aux_lemma =>
                        go_wp2
                        go_roundg (n - (r + 1))
                        case measure => omega
                        case rel => exact ⟨r + 1, i2 + 1, j2, by go_num, by go_num, by go_num, by omega, by omega, by omega, by omega, rfl, HNK2, HE2, rfl⟩
                    · have b4 : (o3 == 45) = false := by rw [← HO3.out, beq_eq_false_iff_ne, h.1]; decide
                      have HE2 : Hid (Ed fs ts 0 0 (L.take (r + 1)) i2 (j2 + 1) ∧ Ed fs ts i2 (j2 + 1) (L.drop (r + 1)) fs.length ts.length) := ⟨h.2.2.1, h.2.2.2⟩
                      have hj8 := h.2.1
                      clear h hr
                      as_aux_lemma =>
                        go_wp2
                        go_roundg (n - (r + 1))
                        case measure => omega
                        case rel => exact ⟨r + 1, i2, j2 + 1, by go_num, by go_num, by go_num, by omega, by omega, by omega, by omega, rfl, HNK2, HE2, rfl⟩
                  · have HRE : Hid (r = n ∨ L.getD r 0 = 32) := by
                      show _ ∨ _
                      by_cases e : r = n
                      · exact .inl e
                      · exact .inr (Classical.byContradiction fun h => hr ⟨by omega, h⟩)
                    have hqr : q < r := by
                      rcases Nat.lt_or_ge q r with h | h
                      · exact h
                      · exfalso
                        rcases Nat.lt_or_ge r n with h2 | h2
                        · rcases HRE.out with h3 | h3
                          · omega
                          · rcases Nat.eq_or_lt_of_le h with h4 | h4
                            · subst h4; exact HM2.out h3
                            · have := HRU.out r hpr h4
                              omega
                        · omega
                    have HS2 : Hid (SI fs ts L r i2 j2) := si_mixed HSI.out hpq2 hqr (by rw [HL.out]; exact hrn) HNK.out (by rw [HOP.out]; rcases HQ2.out with h | h <;> first | exact h | omega) HEE.out.1 HEE.out.2 (by rw [HL.out]; exact HRE.out)
                    have HMEA : Hid (nk L r * (n + 1) ≤ nk L p * (n + 1)) := Nat.mul_le_mul_right _ (nk_le (by omega))
                    clear hr
                    rcases HRE.out with h | h
                    · have hri : ¬ (r : Int) < n := by omega
                      clear h
                      as_aux_lemma =>
                        go_wp2
                        go_roundg (nk L r * (n + 1) + (n - r))
                        case measure => have := HMEA.out; omega
                        case rel => exact ⟨r, i2, j2, L, rfl, rfl, rfl, by omega, by omega, by omega, rfl, HL, HSL, HS2⟩
                    · by_cases h9 : r < n
                      · have hri : (r : Int) < n := by omega
                        have cr := HSL.out.c r (by rw [HL.out]; exact h9)
                        rw [h] at cr
                        clear h
                        as_aux_lemma =>
                          go_wp2
                          go_roundg (nk L r * (n + 1) + (n - r))
                          case measure => have := HMEA.out; omega
                          case rel => exact ⟨r, i2, j2, L, rfl, rfl, rfl, by omega, by omega, by omega, rfl, HL, HSL, HS2⟩
                      · have hri : ¬ (r : Int) < n := by omega
                        clear h
                        as_aux_lemma =>
                          go_wp2
                          go_roundg (nk L r * (n + 1) + (n - r))
                          case measure => have := HMEA.out; omega
                          case rel => exact ⟨r, i2, j2, L, rfl, rfl, rfl, by omega, by omega, by omega, rfl, HL, HSL, HS2⟩
            · as_aux_lemma =>
                have HQB : Hid (q = n ∨ L.getD q 0 = 32) := by
                  show _ ∨ _
                  by_cases e : q = n
                  · exact .inl e
                  · exact .inr (Classical.byContradiction fun h => hm ⟨by omega, h⟩)
                clear hm
                obtain ⟨a, HA⟩ : ∃ a : Nat, Hid ((if op = 45 then i else j) = a) := ⟨_, rfl⟩
                obtain ⟨ls, HLS⟩ : ∃ ls, Hid ((if op = 45 then fs else ts) = ls) := ⟨_, rfl⟩
                obtain ⟨lv, HLV⟩ : ∃ lv, Hid ((if op = 45 then fv else tv) = lv) := ⟨_, rfl⟩
                have ha6 : a ≤ 65536 := by rw [← HA.out]; split <;> omega
                have hls6 : ls.length ≤ 65536 := by rw [← HLS.out]; split <;> omega
                have HLVW : Hid (Lv wF B lv ls) := by
                  have h1 := HFV.out.below HSL.out.bl
                  have h2 := HTV.out.below HSL.out.bl
                  rw [← HLV.out, ← HLS.out]
                  show Lv _ _ _ _
                  split
                  · exact h1
                  · exact h2
                have HLSZ : Hid (∀ k, (ls.getD k ByteArray.empty).size ≤ 9223372036854775807) := by
                  intro k
                  by_cases hk : k < ls.length
                  · rw [List.getD_eq_getElem?_getD, List.getElem?_eq_getElem hk]
                    apply HSZ.out
                    have hm : ls[k] ∈ ls := List.getElem_mem hk
                    rw [List.mem_append]
                    have h3 : ls = fs ∨ ls = ts := by
                      rw [← HLS.out]
                      split
                      · exact .inl rfl
                      · exact .inr rfl
                    rcases h3 with h3 | h3
                    · left; show ls[k] ∈ fs; rw [← h3]; exact hm
                    · right; show ls[k] ∈ ts; rw [← h3]; exact hm
                  · rw [List.getD_eq_getElem?_getD, List.getElem?_eq_none (by omega)]
                    decide
                obtain ⟨m, hqp⟩ : ∃ m : Nat, (q : Int) - p = m := ⟨q - p, by omega⟩
                have hm0 : 0 < m := by omega
                have hqm : q = p + m := by omega
                have HQM : Hid (q = p + m) := hqm
                have hqle : q ≤ n := hqn
                clear hqm
                have HFW : Hid (∀ c, q + c ≤ n → (∀ t, t < c → L.getD (q + t) 0 = 32) → a + m + c ≤ ls.length) := fun c hc hk => by
                  rw [← HA.out, ← HLS.out]
                  have := HQM.out
                  exact ed_fwd HO2.out (by rw [HL.out]; omega) HSI.out.e2 (fun t ht => HRU.out (p + t) (by omega) (by omega)) (fun t ht => by rw [show p + m + t = q + t by omega]; exact hk t ht)
                have HBK : Hid (∀ c, c ≤ p → (∀ t, t < c → L.getD (p - 1 - t) 0 = 32) → c ≤ a) := fun c hc hk => by
                  have := ed_back (by rw [HL.out]; omega) HSI.out.e1 hc hk
                  rw [← HA.out]
                  split <;> omega
                have c0 := HSL.out.st.s.c0
                have c1 := HSL.out.st.s.c1
                have bqx : Hid True := trivial
                go_upto_region 9 with fail
                go_cut [66] (fun s66 wy => s66 = .bool false ∧ wy = wF)
                case first =>
                  rcases HQB.out with h | h
                  · have hqi : ¬ (q : Int) < n := by omega
                    clear h
                    as_aux_lemma =>
                      go_wp2
                      go_meet
                      exact ⟨rfl, rfl⟩
                  · by_cases h9 : q < n
                    · have hqi : (q : Int) < n := by omega
                      have cq := HSL.out.c q (by rw [HL.out]; exact h9)
                      rw [h] at cq
                      clear h
                      as_aux_lemma =>
                        go_wp2
                        go_meet
                        exact ⟨rfl, rfl⟩
                    · have hqi : ¬ (q : Int) < n := by omega
                      clear h
                      as_aux_lemma =>
                        go_wp2
                        go_meet
                        exact ⟨rfl, rfl⟩
                case rest =>
                  as_aux_lemma =>
                    obtain ⟨rfl, hw⟩ := hcut
                    have hw := hw.symm
                    subst hw
                    go_upto_if 95 with fail
                    go_cut [8, 9] (fun s8 s9 wy => s8 = lv ∧ s9 = .int .i64 a ∧ wy = wF)
                    case first =>
                      rcases HO2.out with h | h
                      · have b45 : (op == 45) = true := beq_iff_eq.2 h
                        have E1 := HLV
                        have E2 := HA
                        rw [if_pos h] at E1 E2
                        clear h
                        as_aux_lemma =>
                          go_wp2
                          go_meet
                          exact ⟨E1.out, by rw [← E2.out], rfl⟩
                      · have b45 : (op == 45) = false := beq_eq_false_iff_ne.2 (by omega)
                        have E1 := HLV
                        have E2 := HA
                        rw [if_neg (by omega)] at E1 E2
                        clear h
                        as_aux_lemma =>
                          go_wp2
                          go_meet
                          exact ⟨E1.out, by rw [← E2.out], rfl⟩
                    case rest =>
                      as_aux_lemma =>
                        obtain ⟨h8, rfl, hw⟩ := hcut
                        have h8 := h8.symm
                        subst h8
                        have hw := hw.symm
                        subst hw
                        clear c0 c1 cp
                        have hmf : ∀ (fn : Fn) (first cap : Array Value) (w : World), (Instr.makeFunc fn first cap).run Tryd.prog w = .ok (.func fn first cap) w := fun _ _ _ _ => rfl
                        go_wp2
                        go_loopg [12] p (fun gh a12 wr => ∃ up : Nat, a12 = .int .i64 up ∧ up ≤ p ∧ gh = p - up ∧ Hid (up ≤ a ∧ (∀ t, t < up → L.getD (p - 1 - t) 0 = 32) ∧ (up = 0 ∨ up = p ∨ L.getD (p - up - 1) 0 = 32) ∧ ∀ t, t < up → ls.getD (a - up + t) ByteArray.empty = ls.getD (a - up + t + m) ByteArray.empty) ∧ Hid (Sl w wr B S Fg Bg X fv tv D g cap L FL BL))
                        case atStart => exact ⟨0, rfl, Nat.zero_le _, rfl, ⟨Nat.zero_le _, fun t ht => by omega, .inl rfl, fun t ht => by omega⟩, HSL⟩
                        case round =>
                          obtain ⟨up, rfl, hup, rfl, HUP, HSU⟩ := hrel
                          obtain ⟨wU, rfl⟩ : ∃ x, x = wr := ⟨_, rfl⟩
                          clear HSL
                          have cx := HSU.out.cx
                          rw [HL.out] at cx
                          have HLU : Hid (Lv wU B lv ls) := by
                            have h1 := HFV.out.below HSU.out.bl
                            have h2 := HTV.out.below HSU.out.bl
                            rw [← HLV.out, ← HLS.out]
                            show Lv _ _ _ _
                            split
                            · exact h1
                            · exact h2
                          have HKU : Hid (∀ (k : Nat) (i : Int), Calls Tryd.prog 20 #[.int .i64 i, .pointer (some ⟨X, 0, none⟩)] (wU.drewN k) fun e w' => e = .returned (.bool (kp L i)) ∧ w' = wU.drewN k) := fun k i => (HSU.out.drewN k).kept (by rw [HL.out]; exact hn) i
                          obtain ⟨b, HBS⟩ : ∃ b : Bool, Hid ((b = true ∧ UpC L ls p m a up) ∨ (b = false ∧ ¬ UpC L ls p m a up)) := by
                            by_cases h : UpC L ls p m a up
                            · exact ⟨true, .inl ⟨rfl, h⟩⟩
                            · exact ⟨false, .inr ⟨rfl, h⟩⟩
                          go_upto_region 21 with fail
                          go_cut [144] (fun s144 wy => s144 = .bool b ∧ Hid (∃ q, wy = wU.drewN q))
                          case first =>
                            by_cases t1 : up < p
                            · obtain ⟨i1, hi1⟩ : ∃ i1 : Nat, (p : Int) - up - 1 = i1 := ⟨p - up - 1, by omega⟩
                              have d1 : decide ((0 : Int) ≤ i1) = true := decide_eq_true (by omega)
                              have w1 : IntKind.i64.wrap ((p : Int) - up) = p - up := IntWalk.i64_in _ ⟨by omega, by omega⟩
                              have w2 : IntKind.i64.wrap (i1 : Int) = i1 := IntWalk.i64_in _ ⟨by omega, by omega⟩
                              have w3 : IntKind.i64.wrap ((p : Int) - up - 2) = p - up - 2 := IntWalk.i64_in _ ⟨by omega, by omega⟩
                              have hi1n : i1 < n := by omega
                              cases k1 : kp L i1 with
                              | false =>
                                rcases HBS.out with ⟨rfl, h⟩ | ⟨rfl, -⟩
                                · exfalso
                                  have h1 := h.2.1
                                  rw [show p - up - 1 = i1 by omega] at h1
                                  rw [kp_of (.inr h1)] at k1
                                  cases k1
                                · as_aux_lemma =>
                                    go_quiet (first | (go_at_call 20; exact Calls.quiet_of_same (HKU.out _ _)))
                                    go_wp2
                                    go_meet
                                    exact ⟨rfl, _, rfl⟩
                              | true =>
                                have hk1 : L.getD (p - up - 1) 0 = 32 := by
                                  rcases kp_nat k1 with h | h
                                  · rw [HL.out] at h; omega
                                  · rw [show p - up - 1 = i1 by omega]; exact h
                                cases k2 : kp L ((p : Int) - up - 2) with
                                | false =>
                                  rcases HBS.out with ⟨rfl, h⟩ | ⟨rfl, -⟩
                                  · exfalso
                                    rcases h.2.2.1 with h2 | h2
                                    · rw [kp_neg (by omega)] at k2; cases k2
                                    · by_cases e : p = up + 1
                                      · rw [kp_neg (by omega)] at k2; cases k2
                                      · rw [show (p : Int) - up - 2 = ((p - up - 2 : Nat) : Int) by omega, kp_of (.inr h2)] at k2
                                        cases k2
                                  · as_aux_lemma =>
                                      go_quiet (first | (go_at_call 20; exact Calls.quiet_of_same (HKU.out _ _)))
                                      go_wp2
                                      go_meet
                                      exact ⟨rfl, _, rfl⟩
                                | true =>
                                  have hk2 : p = up + 1 ∨ L.getD (p - up - 2) 0 = 32 := by
                                    by_cases e : p = up + 1
                                    · exact .inl e
                                    · right
                                      rw [show (p : Int) - up - 2 = ((p - up - 2 : Nat) : Int) by omega] at k2
                                      rcases kp_nat k2 with h | h
                                      · rw [HL.out] at h; omega
                                      · exact h
                                  have hua : up + 1 ≤ a := HBK.out (up + 1) (by omega) (fun t ht => by
                                    by_cases e : t = up
                                    · subst e; rw [show p - 1 - t = p - t - 1 by omega]; exact hk1
                                    · exact HUP.out.2.1 t (by omega))
                                  have hal : a + m ≤ ls.length := by have := HFW.out 0 (by omega) (fun t ht => by omega); omega
                                  obtain ⟨j1, hj1⟩ : ∃ j1 : Nat, (a : Int) - up - 1 = j1 := ⟨a - up - 1, by omega⟩
                                  obtain ⟨j2, hj2⟩ : ∃ j2 : Nat, (j1 : Int) + m = j2 := ⟨j1 + m, by omega⟩
                                  have hj1l : j1 < ls.length := by omega
                                  have hj2l : j2 < ls.length := by omega
                                  have w4 : IntKind.i64.wrap ((a : Int) - up) = a - up := IntWalk.i64_in _ ⟨by omega, by omega⟩
                                  have w5 : IntKind.i64.wrap (j1 : Int) = j1 := IntWalk.i64_in _ ⟨by omega, by omega⟩
                                  have w6 : IntKind.i64.wrap (j2 : Int) = j2 := IntWalk.i64_in _ ⟨by omega, by omega⟩
                                  obtain ⟨gl, hgl, -, HLB⟩ := HLU.out.some (by omega)
                                  have s1 := HLB.c j1 hj1l
                                  have s2 := HLB.c j2 hj2l
                                  have HEQ : Hid (UpC L ls p m a up ↔ ls.getD j1 ByteArray.empty = ls.getD j2 ByteArray.empty) := by
                                    show _ ↔ _
                                    unfold UpC
                                    rw [show a - up - 1 = j1 by omega, show j1 + m = j2 by omega]
                                    exact ⟨fun h => h.2.2.2, fun h => ⟨t1, hk1, hk2, h⟩⟩
                                  clear HLB hk1 hk2
                                  subst hgl
                                  rcases HBS.out with ⟨rfl, h⟩ | ⟨rfl, h⟩
                                  · have e := HEQ.out.1 h
                                    rw [← e] at s2
                                    generalize ls.getD j1 ByteArray.empty = x1 at s1 s2
                                    have d3 : (x1.toList == x1.toList) = true := beq_self_eq_true _
                                    clear h e HEQ
                                    as_aux_lemma =>
                                      go_quiet (first | (go_at_call 20; exact Calls.quiet_of_same (HKU.out _ _)))
                                      go_wp2
                                      go_meet
                                      exact ⟨rfl, _, rfl⟩
                                  · have d3 := str_ne2 (fun e => h (HEQ.out.2 e))
                                    generalize ls.getD j1 ByteArray.empty = x1 at s1 d3
                                    generalize ls.getD j2 ByteArray.empty = x2 at s2 d3
                                    clear h HEQ
                                    as_aux_lemma =>
                                      go_quiet (first | (go_at_call 20; exact Calls.quiet_of_same (HKU.out _ _)))
                                      go_wp2
                                      go_meet
                                      exact ⟨rfl, _, rfl⟩
                            · have hupp : up = p := by omega
                              rcases HBS.out with ⟨rfl, h⟩ | ⟨rfl, -⟩
                              · exact absurd h.1 t1
                              · subst hupp
                                as_aux_lemma =>
                                  go_quiet (fail)
                                  go_wp2
                                  go_meet
                                  exact ⟨rfl, _, rfl⟩
                          case rest =>
                            as_aux_lemma =>
                              obtain ⟨rfl, HQ⟩ := hcut
                              obtain ⟨wV, rfl⟩ : ∃ x, x = wc := ⟨_, rfl⟩
                              have HSV : Hid (Sl w wV B S Fg Bg X fv tv D g cap L FL BL) := by obtain ⟨q1, hq1⟩ := HQ.out; rw [hq1]; exact HSU.out.drewN _
                              clear HQ HSU cx HLU HKU
                              cases b with
                              | true =>
                                have HC : Hid (UpC L ls p m a up) := by
                                  rcases HBS.out with ⟨-, h⟩ | ⟨h, -⟩
                                  · exact h
                                  · cases h
                                have hupp := HC.out.1
                                have HUP2 : Hid (up + 1 ≤ a ∧ (∀ t, t < up + 1 → L.getD (p - 1 - t) 0 = 32) ∧ (up + 1 = 0 ∨ up + 1 = p ∨ L.getD (p - (up + 1) - 1) 0 = 32) ∧ ∀ t, t < up + 1 → ls.getD (a - (up + 1) + t) ByteArray.empty = ls.getD (a - (up + 1) + t + m) ByteArray.empty) := by
                                  have hk : ∀ t, t < up + 1 → L.getD (p - 1 - t) 0 = 32 := fun t ht => by
                                    by_cases e : t = up
                                    · subst e; rw [show p - 1 - t = p - t - 1 by omega]; exact HC.out.2.1
                                    · exact HUP.out.2.1 t (by omega)
                                  have hua := HBK.out (up + 1) (by omega) hk
                                  refine ⟨hua, hk, .inr ?_, fun t ht => ?_⟩
                                  · rcases HC.out.2.2.1 with h | h
                                    · exact .inl h.symm
                                    · right; rw [show p - (up + 1) - 1 = p - up - 2 by omega]; exact h
                                  · cases t with
                                    | zero => rw [Nat.add_zero, show a - (up + 1) = a - up - 1 by omega]; exact HC.out.2.2.2
                                    | succ t => have := HUP.out.2.2.2 t (by omega); rw [show a - (up + 1) + (t + 1) = a - up + t by omega]; exact this
                                clear HBS
                                as_aux_lemma =>
                                  go_wp2
                                  go_roundg (p - (up + 1))
                                  case measure => omega
                                  case rel => exact ⟨up + 1, by go_num, by omega, rfl, HUP2, HSV⟩
                              | false =>
                                have HC : Hid (¬ UpC L ls p m a up) := by
                                  rcases HBS.out with ⟨h, -⟩ | ⟨-, h⟩
                                  · cases h
                                  · exact h
                                clear HBS
                                go_wp2
                                go_loopg [13] (n - q) (fun gh a13 wr => ∃ dn : Nat, a13 = .int .i64 dn ∧ q + dn ≤ n ∧ gh = n - q - dn ∧ Hid ((∀ t, t < dn → L.getD (q + t) 0 = 32) ∧ (dn = 0 ∨ q + dn = n ∨ L.getD (q + dn) 0 = 32) ∧ ∀ t, t < dn → ls.getD (a + t) ByteArray.empty = ls.getD (a + t + m) ByteArray.empty) ∧ Hid (Sl w wr B S Fg Bg X fv tv D g cap L FL BL))
                                case atStart => exact ⟨0, rfl, by omega, by omega, ⟨fun t ht => by omega, .inl rfl, fun t ht => by omega⟩, HSV⟩
                                case round =>
                                  obtain ⟨dn, rfl, hdn, rfl, HDN, HSU⟩ := hrel
                                  obtain ⟨wU, rfl⟩ : ∃ x, x = wr := ⟨_, rfl⟩
                                  clear HSV
                                  have cx := HSU.out.cx
                                  rw [HL.out] at cx
                                  have HLU : Hid (Lv wU B lv ls) := by
                                    have h1 := HFV.out.below HSU.out.bl
                                    have h2 := HTV.out.below HSU.out.bl
                                    rw [← HLV.out, ← HLS.out]
                                    show Lv _ _ _ _
                                    split
                                    · exact h1
                                    · exact h2
                                  have HKU : Hid (∀ (k : Nat) (i : Int), Calls Tryd.prog 20 #[.int .i64 i, .pointer (some ⟨X, 0, none⟩)] (wU.drewN k) fun e w' => e = .returned (.bool (kp L i)) ∧ w' = wU.drewN k) := fun k i => (HSU.out.drewN k).kept (by rw [HL.out]; exact hn) i
                                  obtain ⟨b, HBS⟩ : ∃ b : Bool, Hid ((b = true ∧ DnC L ls q n m a dn) ∨ (b = false ∧ ¬ DnC L ls q n m a dn)) := by
                                    by_cases h : DnC L ls q n m a dn
                                    · exact ⟨true, .inl ⟨rfl, h⟩⟩
                                    · exact ⟨false, .inr ⟨rfl, h⟩⟩
                                  go_upto_region 24 with fail
                                  go_cut [184] (fun s184 wy => s184 = .bool b ∧ Hid (∃ q, wy = wU.drewN q))
                                  case first =>
                                    obtain ⟨i1, hi1⟩ : ∃ i1 : Nat, (q : Int) + dn = i1 := ⟨q + dn, by omega⟩
                                    have w1 : IntKind.i64.wrap (i1 : Int) = i1 := IntWalk.i64_in _ ⟨by omega, by omega⟩
                                    by_cases t1 : q + dn < n
                                    · have d1 : decide ((i1 : Int) < n) = true := decide_eq_true (by omega)
                                      have hi1n : i1 < n := by omega
                                      cases k1 : kp L i1 with
                                      | false =>
                                        rcases HBS.out with ⟨rfl, h⟩ | ⟨rfl, -⟩
                                        · exfalso
                                          have h1 := h.2.1
                                          rw [show q + dn = i1 by omega] at h1
                                          rw [kp_of (.inr h1)] at k1
                                          cases k1
                                        · as_aux_lemma =>
                                            go_quiet (first | (go_at_call 20; exact Calls.quiet_of_same (HKU.out _ _)))
                                            go_wp2
                                            go_meet
                                            exact ⟨rfl, _, rfl⟩
                                      | true =>
                                        have hk1 : L.getD (q + dn) 0 = 32 := by
                                          rcases kp_nat k1 with h | h
                                          · rw [HL.out] at h; omega
                                          · rw [show q + dn = i1 by omega]; exact h
                                        obtain ⟨i2, hi2⟩ : ∃ i2 : Nat, (i1 : Int) + 1 = i2 := ⟨i1 + 1, by omega⟩
                                        have w2 : IntKind.i64.wrap (i2 : Int) = i2 := IntWalk.i64_in _ ⟨by omega, by omega⟩
                                        cases k2 : kp L i2 with
                                        | false =>
                                          rcases HBS.out with ⟨rfl, h⟩ | ⟨rfl, -⟩
                                          · exfalso
                                            have h2 := h.2.2.1
                                            rw [show q + dn + 1 = i2 by omega] at h2
                                            rw [kp_of (by rw [HL.out]; exact h2.imp (fun h => by omega) id)] at k2
                                            cases k2
                                          · as_aux_lemma =>
                                              go_quiet (first | (go_at_call 20; exact Calls.quiet_of_same (HKU.out _ _)))
                                              go_wp2
                                              go_meet
                                              exact ⟨rfl, _, rfl⟩
                                        | true =>
                                          have hk2 : q + dn + 1 = n ∨ L.getD (q + dn + 1) 0 = 32 := by
                                            rw [show q + dn + 1 = i2 by omega]
                                            rcases kp_nat k2 with h | h
                                            · rw [HL.out] at h; left; omega
                                            · right; exact h
                                          have hal : a + m + (dn + 1) ≤ ls.length := HFW.out (dn + 1) (by omega) (fun t ht => by
                                            by_cases e : t = dn
                                            · subst e; exact hk1
                                            · exact HDN.out.1 t (by omega))
                                          obtain ⟨j1, hj1⟩ : ∃ j1 : Nat, (a : Int) + dn = j1 := ⟨a + dn, by omega⟩
                                          obtain ⟨j2, hj2⟩ : ∃ j2 : Nat, (j1 : Int) + m = j2 := ⟨j1 + m, by omega⟩
                                          have hj1l : j1 < ls.length := by omega
                                          have hj2l : j2 < ls.length := by omega
                                          have w5 : IntKind.i64.wrap (j1 : Int) = j1 := IntWalk.i64_in _ ⟨by omega, by omega⟩
                                          have w6 : IntKind.i64.wrap (j2 : Int) = j2 := IntWalk.i64_in _ ⟨by omega, by omega⟩
                                          obtain ⟨gl, hgl, -, HLB⟩ := HLU.out.some (by omega)
                                          have s1 := HLB.c j1 hj1l
                                          have s2 := HLB.c j2 hj2l
                                          have HEQ : Hid (DnC L ls q n m a dn ↔ ls.getD j1 ByteArray.empty = ls.getD j2 ByteArray.empty) := by
                                            show _ ↔ _
                                            unfold DnC
                                            rw [show a + dn = j1 by omega, show j1 + m = j2 by omega]
                                            exact ⟨fun h => h.2.2.2, fun h => ⟨t1, hk1, hk2, h⟩⟩
                                          clear HLB hk1 hk2
                                          subst hgl
                                          rcases HBS.out with ⟨rfl, h⟩ | ⟨rfl, h⟩
                                          · have e := HEQ.out.1 h
                                            rw [← e] at s2
                                            generalize ls.getD j1 ByteArray.empty = x1 at s1 s2
                                            have d3 : (x1.toList == x1.toList) = true := beq_self_eq_true _
                                            clear h e HEQ
                                            as_aux_lemma =>
                                              go_quiet (first | (go_at_call 20; exact Calls.quiet_of_same (HKU.out _ _)))
                                              go_wp2
                                              go_meet
                                              exact ⟨rfl, _, rfl⟩
                                          · have d3 := str_ne2 (fun e => h (HEQ.out.2 e))
                                            generalize ls.getD j1 ByteArray.empty = x1 at s1 d3
                                            generalize ls.getD j2 ByteArray.empty = x2 at s2 d3
                                            clear h HEQ
                                            as_aux_lemma =>
                                              go_quiet (first | (go_at_call 20; exact Calls.quiet_of_same (HKU.out _ _)))
                                              go_wp2
                                              go_meet
                                              exact ⟨rfl, _, rfl⟩
                                    · have hin : i1 = n := by omega
                                      rcases HBS.out with ⟨rfl, h⟩ | ⟨rfl, -⟩
                                      · exact absurd h.1 t1
                                      · subst hin
                                        have d1 : decide ((i1 : Int) < i1) = false := decide_eq_false (by omega)
                                        as_aux_lemma =>
                                          go_quiet (fail)
                                          go_wp2
                                          go_meet
                                          exact ⟨rfl, _, rfl⟩
                                  case rest =>
                                    as_aux_lemma =>
                                      obtain ⟨rfl, HQ⟩ := hcut
                                      obtain ⟨wV, rfl⟩ : ∃ x, x = wc := ⟨_, rfl⟩
                                      have HSV : Hid (Sl w wV B S Fg Bg X fv tv D g cap L FL BL) := by obtain ⟨q1, hq1⟩ := HQ.out; rw [hq1]; exact HSU.out.drewN _
                                      clear HQ HSU cx HLU HKU
                                      cases b with
                                      | true =>
                                        have HC2 : Hid (DnC L ls q n m a dn) := by
                                          rcases HBS.out with ⟨-, h⟩ | ⟨h, -⟩
                                          · exact h
                                          · cases h
                                        have hdnn := HC2.out.1
                                        have HDN2 : Hid ((∀ t, t < dn + 1 → L.getD (q + t) 0 = 32) ∧ (dn + 1 = 0 ∨ q + (dn + 1) = n ∨ L.getD (q + (dn + 1)) 0 = 32) ∧ ∀ t, t < dn + 1 → ls.getD (a + t) ByteArray.empty = ls.getD (a + t + m) ByteArray.empty) := by
                                          refine ⟨fun t ht => ?_, .inr HC2.out.2.2.1, fun t ht => ?_⟩
                                          · by_cases e : t = dn
                                            · subst e; exact HC2.out.2.1
                                            · exact HDN.out.1 t (by omega)
                                          · by_cases e : t = dn
                                            · subst e; exact HC2.out.2.2.2
                                            · exact HDN.out.2.2 t (by omega)
                                        clear HBS
                                        as_aux_lemma =>
                                          go_wp2
                                          go_roundg (n - q - (dn + 1))
                                          case measure => omega
                                          case rel => exact ⟨dn + 1, by go_num, by omega, rfl, HDN2, HSV⟩
                                      | false =>
                                        clear HBS
                                        have HPU : Hid (up ≤ a) := HUP.out.1
                                        have hua := HPU.out
                                        have hal : a + m + dn ≤ ls.length := HFW.out dn hdn HDN.out.1
                                        go_wp2
                                        go_loopg [14, 15] (up + dn) (fun gh a14 a15 wr => ∃ (sh d : Int), a14 = .int .i64 sh ∧ a15 = .int .i64 d ∧ -(up : Int) ≤ sh ∧ sh < d ∧ d ≤ dn + 1 ∧ gh = ((dn : Int) + 1 - d).toNat ∧ Hid (∀ t : Int, -(up : Int) ≤ t → t < d → ind (ls.getD ((a : Int) + sh).toNat ByteArray.empty) ≤ ind (ls.getD ((a : Int) + t).toNat ByteArray.empty)) ∧ Hid (Sl w wr B S Fg Bg X fv tv D g cap L FL BL))
                                        case atStart => exact ⟨-(up : Int), -(up : Int) + 1, rfl, by go_num, by omega, by omega, by omega, by omega, fun t h1 h2 => by rw [show t = -(up : Int) by omega]; exact Nat.le_refl _, HSV⟩
                                        case round =>
                                          obtain ⟨sh, d, rfl, rfl, hsh1, hsh2, hd1, rfl, HMN, HSD⟩ := hrel
                                          clear HSV
                                          obtain ⟨wD, rfl⟩ : ∃ x, x = wr := ⟨_, rfl⟩
                                          by_cases hdd : d ≤ dn
                                          · obtain ⟨j1, hj1⟩ : ∃ j1 : Nat, (a : Int) + d = j1 := ⟨((a : Int) + d).toNat, by omega⟩
                                            obtain ⟨j2, hj2⟩ : ∃ j2 : Nat, (a : Int) + sh = j2 := ⟨((a : Int) + sh).toNat, by omega⟩
                                            have hj1l : j1 < ls.length := by omega
                                            have hj2l : j2 < ls.length := by omega
                                            have HLU : Hid (Lv wD B lv ls) := by
                                              have h1 := HFV.out.below HSD.out.bl
                                              have h2 := HTV.out.below HSD.out.bl
                                              rw [← HLV.out, ← HLS.out]
                                              show Lv _ _ _ _
                                              split
                                              · exact h1
                                              · exact h2
                                            obtain ⟨gl, hgl, -, HLB⟩ := HLU.out.some (by omega)
                                            have s1 := HLB.c j1 hj1l
                                            have s2 := HLB.c j2 hj2l
                                            have HI1 : Hid (∀ k : Nat, Calls Tryd.prog 21 #[.string (ls.getD j1 ByteArray.empty)] (wD.drewN k) fun e w' => e = .returned (.int .i64 (ind (ls.getD j1 ByteArray.empty))) ∧ w' = wD.drewN k) := fun k => indent_any _ (wD.drewN k) (HLSZ.out j1)
                                            have HI2 : Hid (∀ k : Nat, Calls Tryd.prog 21 #[.string (ls.getD j2 ByteArray.empty)] (wD.drewN k) fun e w' => e = .returned (.int .i64 (ind (ls.getD j2 ByteArray.empty))) ∧ w' = wD.drewN k) := fun k => indent_any _ (wD.drewN k) (HLSZ.out j2)
                                            have w5 : IntKind.i64.wrap (j1 : Int) = j1 := IntWalk.i64_in _ ⟨by omega, by omega⟩
                                            have w6 : IntKind.i64.wrap (j2 : Int) = j2 := IntWalk.i64_in _ ⟨by omega, by omega⟩
                                            have HJJ : Hid (((a : Int) + d).toNat = j1 ∧ ((a : Int) + sh).toNat = j2) := ⟨by omega, by omega⟩
                                            clear HLB HLU
                                            subst hgl
                                            by_cases hcmp : ind (ls.getD j1 ByteArray.empty) ≤ ind (ls.getD j2 ByteArray.empty)
                                            · have HMN2 : Hid (∀ t : Int, -(up : Int) ≤ t → t < d + 1 → ind (ls.getD ((a : Int) + d).toNat ByteArray.empty) ≤ ind (ls.getD ((a : Int) + t).toNat ByteArray.empty)) := fun t h1 h2 => by
                                                by_cases e : t = d
                                                · subst e; exact Nat.le_refl _
                                                · have := HMN.out t h1 (by omega)
                                                  rw [HJJ.out.2] at this
                                                  rw [HJJ.out.1]
                                                  omega
                                              have dc : (ind (ls.getD j1 ByteArray.empty) : Int) ≤ (ind (ls.getD j2 ByteArray.empty) : Int) := by omega
                                              generalize ind (ls.getD j1 ByteArray.empty) = n1 at HI1 dc
                                              generalize ind (ls.getD j2 ByteArray.empty) = n2 at HI2 dc
                                              generalize ls.getD j1 ByteArray.empty = x1 at s1 HI1
                                              generalize ls.getD j2 ByteArray.empty = x2 at s2 HI2
                                              clear hcmp HJJ
                                              as_aux_lemma =>
                                                go_wp2
                                                go_quiet (first | (go_at_call_of 21 (Value.string x1); exact Calls.quiet_of_same (HI1.out _)) | (go_at_call_of 21 (Value.string x2); exact Calls.quiet_of_same (HI2.out _)))
                                                go_wp2
                                                go_roundg ((dn : Int) + 1 - (d + 1)).toNat
                                                case measure => omega
                                                case rel => exact ⟨d, d + 1, rfl, by go_num, by omega, by omega, by omega, rfl, HMN2, HSD.out.drewN _⟩
                                            · have HMN2 : Hid (∀ t : Int, -(up : Int) ≤ t → t < d + 1 → ind (ls.getD ((a : Int) + sh).toNat ByteArray.empty) ≤ ind (ls.getD ((a : Int) + t).toNat ByteArray.empty)) := fun t h1 h2 => by
                                                by_cases e : t = d
                                                · subst e; rw [HJJ.out.1, HJJ.out.2]; omega
                                                · exact HMN.out t h1 (by omega)
                                              have dc : ¬ (ind (ls.getD j1 ByteArray.empty) : Int) ≤ (ind (ls.getD j2 ByteArray.empty) : Int) := by omega
                                              generalize ind (ls.getD j1 ByteArray.empty) = n1 at HI1 dc
                                              generalize ind (ls.getD j2 ByteArray.empty) = n2 at HI2 dc
                                              generalize ls.getD j1 ByteArray.empty = x1 at s1 HI1
                                              generalize ls.getD j2 ByteArray.empty = x2 at s2 HI2
                                              clear hcmp HJJ
                                              as_aux_lemma =>
                                                go_wp2
                                                go_quiet (first | (go_at_call_of 21 (Value.string x1); exact Calls.quiet_of_same (HI1.out _)) | (go_at_call_of 21 (Value.string x2); exact Calls.quiet_of_same (HI2.out _)))
                                                go_wp2
                                                go_roundg ((dn : Int) + 1 - (d + 1)).toNat
                                                case measure => omega
                                                case rel => exact ⟨sh, d + 1, rfl, by go_num, by omega, by omega, by omega, rfl, HMN2, HSD.out.drewN _⟩
                                          · as_aux_lemma =>
                                              have HFD : Hid (Fd L ls p q a up dn op) := by
                                                refine ⟨hpq2, by rw [HL.out]; exact hdn, HRU.out, by rw [HL.out]; exact HQB.out, hup, hua, HUP.out.2.1, ?_, HDN.out.1, ?_, fun t ht => ?_, ?_⟩
                                                · rcases HUP.out.2.2.1 with h | h | h
                                                  · subst h
                                                    rcases HSI.out.b with h2 | h2 | h2 | h2
                                                    · left; omega
                                                    · right; rw [show p - 0 - 1 = p - 1 by omega]; exact h2
                                                    · rw [HL.out] at h2; omega
                                                    · rw [HOP.out] at h2; exact absurd h2 hop
                                                  · left; exact h
                                                  · right; exact h
                                                · rw [HL.out]
                                                  rcases HDN.out.2.1 with h | h | h
                                                  · subst h
                                                    rcases HQB.out with h2 | h2
                                                    · left; omega
                                                    · right; exact h2
                                                  · left; exact h
                                                  · right; exact h
                                                · rw [show q - p = m by omega]
                                                  by_cases e : t < up
                                                  · exact HUP.out.2.2.2 t e
                                                  · have := HDN.out.2.2 (t - up) (by omega)
                                                    rw [show a + (t - up) = a - up + t by omega] at this
                                                    exact this
                                                · rw [show q - p = m by omega]
                                                  intro h
                                                  apply HC.out
                                                  obtain ⟨h1, h2, h3, h4, h5⟩ := h
                                                  refine ⟨by omega, by rw [show p - up - 1 = p - (up + 1) by omega]; exact h3, ?_, by rw [show a - up - 1 = a - (up + 1) by omega]; exact h5⟩
                                                  rcases h4 with h4 | h4
                                                  · left; omega
                                                  · right; rw [show p - up - 2 = p - (up + 1) - 1 by omega]; exact h4
                                              obtain ⟨s, hs⟩ : ∃ s : Nat, sh = (s : Int) - up := ⟨(sh + up).toNat, by omega⟩
                                              have hsle : s ≤ up + dn := by omega
                                              have HSS : Hid (SI fs ts (fill (fill L (p - up) (q + dn) 32) (p - up + s) (p - up + s + (q - p)) op) (p - up + s + (q - p)) (i - up + s + (if op = 45 then q - p else 0)) (j - up + s + (if op = 45 then 0 else q - p))) := by
                                                refine si_slide HSI.out HO2.out (by rw [HA.out, HLS.out]; exact HFD.out) hsle (fun t ht => ?_)
                                                rw [HA.out, HLS.out]
                                                have := HMN.out ((t : Int) - up) (by omega) (by omega)
                                                rw [show ((a : Int) + sh).toNat = a - up + s by omega, show ((a : Int) + ((t : Int) - up)).toNat = a - up + t by omega] at this
                                                exact this
                                              have HUI : Hid (up ≤ i ∧ up ≤ j) := ed_back (by rw [HL.out]; omega) HSI.out.e1 hup HUP.out.2.1
                                              have hui := HUI.out.1
                                              have huj := HUI.out.2
                                              have HNS : Hid (nk (fill (fill L (p - up) (q + dn) 32) (p - up + s) (p - up + s + (q - p)) op) (p - up + s + (q - p)) < nk L p) := by
                                                have h := nk_slide (L := L) (P := p - up) (up := up) (n := m) (dn := dn) (s := s) (op := op) hsle (by rw [HL.out]; omega) hm0 (by rw [show p - up + up = p by omega, HOP.out]; exact hop)
                                                rw [show p - up + up + m + dn = q + dn by omega, show p - up + up = p by omega, show m = q - p by omega] at h
                                                exact h
                                              have HLE : Hid (i - up + s + (if op = 45 then q - p else 0) ≤ 65536 ∧ j - up + s + (if op = 45 then 0 else q - p) ≤ 65536) := by
                                                have h := HSS.out.e2.len
                                                constructor <;> omega
                                              clear HFD HMN HC HDN
                                              subst hs
                                              go_wp2
                                              obtain ⟨lo, hlo⟩ : ∃ lo : Nat, (p : Int) - up = lo := ⟨p - up, by omega⟩
                                              obtain ⟨hi9, hhi⟩ : ∃ hi9 : Nat, (q : Int) + dn = hi9 := ⟨q + dn, by omega⟩
                                              go_loopg [16] (hi9 - lo) (fun gh a16 wr => ∃ (x : Nat), a16 = .int .i64 x ∧ lo ≤ x ∧ x ≤ hi9 ∧ gh = hi9 - x ∧ Hid (Sl w wr B S Fg Bg X fv tv D g cap (fill L lo x 32) FL BL))
                                              case atStart => exact ⟨lo, by go_num, Nat.le_refl _, by omega, rfl, by rw [fill_self]; exact HSD⟩
                                              case round =>
                                                obtain ⟨x, rfl, hx1, hx2, rfl, HSX⟩ := hrel
                                                clear HSD
                                                have lF : (fill L lo x 32).length = n := by rw [fill_length _ _ _ _ hx1 (by rw [HL.out]; omega)]; exact HL.out
                                                have HLF : Hid ((fill L lo x 32).length = n) := lF
                                                clear lF
                                                have cx := HSX.out.cx
                                                rw [HLF.out] at cx
                                                by_cases hx : x < hi9
                                                · have hxi : (x : Int) < hi9 := by omega
                                                  have cc := HSX.out.c x (by rw [HLF.out]; omega)
                                                  have ff := HSX.out.fz x (by rw [HLF.out]; omega)
                                                  generalize (fill L lo x 32).getD x 0 = z at cc
                                                  have hxn : x < n := by omega
                                                  have HSY : Hid (Sl w (wr.setCell ⟨g, x, none⟩ (.int .u8 32)) B S Fg Bg X fv tv D g cap (fill L lo (x + 1) 32) FL BL) := by
                                                    have := HSX.out.set x (by rw [HLF.out]; omega) 32
                                                    rw [fill_next _ _ _ _ hx1 (by rw [HL.out]; omega)] at this
                                                    exact this
                                                  as_aux_lemma =>
                                                    go_wp2
                                                    go_roundg (hi9 - (x + 1))
                                                    case measure => omega
                                                    case rel => exact ⟨x + 1, by go_num, by omega, by omega, rfl, HSY⟩
                                                · have hxi : ¬ (x : Int) < hi9 := by omega
                                                  obtain rfl : x = hi9 := by omega
                                                  clear cx
                                                  go_wp2
                                                  obtain ⟨lo2, hlo2⟩ : ∃ lo2 : Nat, (p : Int) + ((s : Int) - up) = lo2 := ⟨p - up + s, by omega⟩
                                                  obtain ⟨hi2, hhi2⟩ : ∃ hi2 : Nat, (q : Int) + ((s : Int) - up) = hi2 := ⟨q - up + s, by omega⟩
                                                  go_loopg [17] (hi2 - lo2) (fun gh a17 wr => ∃ (y : Nat), a17 = .int .i64 y ∧ lo2 ≤ y ∧ y ≤ hi2 ∧ gh = hi2 - y ∧ Hid (Sl w wr B S Fg Bg X fv tv D g cap (fill (fill L lo x 32) lo2 y op) FL BL))
                                                  case atStart => exact ⟨lo2, by go_num, Nat.le_refl _, by omega, rfl, by rw [fill_self]; exact HSX⟩
                                                  case round =>
                                                    obtain ⟨y, rfl, hy1, hy2, rfl, HSY⟩ := hrel
                                                    clear HSX
                                                    have HLG : Hid ((fill (fill L lo x 32) lo2 y op).length = n) := by
                                                      show _ = _
                                                      rw [fill_length _ _ _ _ hy1 (by rw [HLF.out]; omega)]; exact HLF.out
                                                    have cx := HSY.out.cx
                                                    rw [HLG.out] at cx
                                                    by_cases hy : y < hi2
                                                    · have hyi : (y : Int) < hi2 := by omega
                                                      have cc := HSY.out.c y (by rw [HLG.out]; omega)
                                                      have ff := HSY.out.fz y (by rw [HLG.out]; omega)
                                                      generalize (fill (fill L lo x 32) lo2 y op).getD y 0 = z at cc
                                                      have hyn : y < n := by omega
                                                      have HSZ2 : Hid (Sl w (wr.setCell ⟨g, y, none⟩ (.int .u8 op)) B S Fg Bg X fv tv D g cap (fill (fill L lo x 32) lo2 (y + 1) op) FL BL) := by
                                                        have := HSY.out.set y (by rw [HLG.out]; omega) op
                                                        rw [fill_next _ _ _ _ hy1 (by rw [HLF.out]; omega)] at this
                                                        exact this
                                                      as_aux_lemma =>
                                                        go_wp2
                                                        go_roundg (hi2 - (y + 1))
                                                        case measure => omega
                                                        case rel => exact ⟨y + 1, by go_num, by omega, by omega, rfl, HSZ2⟩
                                                    · have hyi : ¬ (y : Int) < hi2 := by omega
                                                      obtain rfl : y = hi2 := by omega
                                                      clear cx
                                                      have elo : p - up = lo := by omega
                                                      have ehi : q + dn = x := by omega
                                                      have elo2 : p - up + s = lo2 := by omega
                                                      have ehi2 : p - up + s + (q - p) = y := by omega
                                                      rw [elo, ehi] at HSS HNS
                                                      rw [← elo, elo2, ← elo2, ehi2, elo2, elo] at HSS HNS
                                                      obtain ⟨L2, HL2⟩ : ∃ L2, Hid (fill (fill L lo x 32) lo2 y op = L2) := ⟨_, rfl⟩
                                                      rw [HL2.out] at HSS HNS HSY HLG
                                                      have HMES : Hid (nk L2 y * (n + 1) + (n - y) < nk L p * (n + 1) + (n - p)) := by
                                                        have h1 : (nk L2 y + 1) * (n + 1) ≤ nk L p * (n + 1) := Nat.mul_le_mul_right _ HNS.out
                                                        rw [Nat.add_mul] at h1
                                                        show _ < _
                                                        omega
                                                      obtain ⟨i9, hi9'⟩ : ∃ i9 : Nat, (i : Int) + ((s : Int) - up) = i9 := ⟨i - up + s, by omega⟩
                                                      obtain ⟨j9, hj9'⟩ : ∃ j9 : Nat, (j : Int) + ((s : Int) - up) = j9 := ⟨j - up + s, by omega⟩
                                                      rw [show i - up + s = i9 by omega, show j - up + s = j9 by omega] at HSS HLE
                                                      have hLE := HLE.out
                                                      rcases HO2.out with h | h
                                                      · have b45 : (op == 45) = true := beq_iff_eq.2 h
                                                        rw [if_pos h, if_pos h, show q - p = m by omega] at HSS hLE
                                                        have hle1 := hLE.1
                                                        have hle2 := hLE.2
                                                        clear h hLE HLE
                                                        as_aux_lemma =>
                                                          go_wp2
                                                          go_roundg (nk L2 y * (n + 1) + (n - y))
                                                          case measure => exact HMES.out
                                                          case rel => exact ⟨y, i9 + m, j9, L2, by go_num, by go_num, by go_num, by omega, by omega, by omega, rfl, HLG, HSY, HSS⟩
                                                      · have b45 : (op == 45) = false := beq_eq_false_iff_ne.2 (by omega)
                                                        rw [if_neg (by omega), if_neg (by omega), show q - p = m by omega] at HSS hLE
                                                        have hle1 := hLE.1
                                                        have hle2 := hLE.2
                                                        clear h hLE HLE
                                                        as_aux_lemma =>
                                                          go_wp2
                                                          go_roundg (nk L2 y * (n + 1) + (n - y))
                                                          case measure => exact HMES.out
                                                          case rel => exact ⟨y, i9, j9 + m, L2, by go_num, by go_num, by go_num, by omega, by omega, by omega, rfl, HLG, HSY, HSS⟩
    · have hpi : ¬ (p : Int) < n := by omega
      have hpe : p = n := by omega
      as_aux_lemma =>
        go_wp2
        go_end0
        exact ⟨rfl, ⟨L, i, j, HSL.out.st, HL.out, by rw [← hpe]; exact HSI.out⟩, HSL.out.bl⟩
end Go.Proofs.Qxb6606346aDoor
