import Derived.Test.Qxb6606027aDoorS6
namespace Go.Proofs.Qxb6606027aDoor
open Go.RowKit

/-! ### IndexAny, ContainsAny whole -/
theorem indexAny_all (ch : ByteArray) (ca cb : UInt8) (p : Option Addr) (n c : Nat) (xs : List Int) (m : Int) (w : World) (hT : Two ch ca cb) (hnb : n ≤ 1048576) (h : Sl w p n c xs)
    (hU : Lib.Utf8Tabs 1 2 w) (hm : w.cell? ⟨0, 0, none⟩ = some (.int .i64 m)) :
    Calls Tryd.prog 27 #[.slice p n c, .string ch] w fun e w' => e = .returned (.int .i64 (ia xs ca.toNat cb.toNat)) ∧ Below w.heap.size w w' := by
  by_cases h0 : n = 0
  · subst h0
    obtain rfl : xs = [] := List.eq_nil_of_length_eq_zero h.len
    exact (ia_zero ch ca cb p c w hT).mono fun e w' ⟨he, hw⟩ => ⟨he, hw ▸ Below.refl _ _⟩
  obtain ⟨b, o, rfl, hc⟩ := h.at (by omega)
  by_cases h1 : n = 1
  · subst h1
    have hx := h.len
    match xs, hx with
    | [x], _ =>
      have hb := h.byt x (by simp)
      exact ia_one ch ca cb b o c x w hT hb.1 hb.2 (by simpa using hc 0 (by omega))
  by_cases h8 : n ≤ 8
  · exact ia_short ch ca cb b o n c xs m w hT (by omega) h8 h hU hm
  · exact ia_long ch ca cb b o n c xs w hT (by omega) hnb h

set_option maxHeartbeats 400000 in
theorem containsAny_all (ch : ByteArray) (ca cb : UInt8) (p : Option Addr) (n c : Nat) (xs : List Int) (m : Int) (w : World) (hT : Two ch ca cb) (hnb : n ≤ 1048576) (h : Sl w p n c xs)
    (hU : Lib.Utf8Tabs 1 2 w) (hm : w.cell? ⟨0, 0, none⟩ = some (.int .i64 m)) :
    Calls Tryd.prog 26 #[.slice p n c, .string ch] w fun e w' => e = .returned (.bool (decide (0 ≤ ia xs ca.toNat cb.toNat))) ∧ Below w.heap.size w w' := by
  have HI : Hid (Calls Tryd.prog 27 #[.slice p n c, .string ch] w fun e w' => e = .returned (.int .i64 (ia xs ca.toNat cb.toNat)) ∧ Below w.heap.size w w') := indexAny_all ch ca cb p n c xs m w hT hnb h hU hm
  clear hT h hU hm
  generalize ia xs ca.toNat cb.toNat = I at HI ⊢
  go_enter Tryd.func26, Tryd.ntmps26
  go_wp2_with fail
  refine HI.out.mono ?_
  rintro e w' ⟨rfl, hw⟩
  go_wp2
  go_ret
  exact ⟨rfl, hw⟩

/-! ### the library's searches in plain words -/
theorem u8_eq (x : Int) (k : Nat) (h0 : 0 ≤ x) (h1 : x < 256) (hk : k < 256) : (UInt8.ofNat x.toNat = UInt8.ofNat k) ↔ x = k := by
  constructor
  · intro e
    have := congrArg UInt8.toNat e
    simp at this
    omega
  · rintro rfl; simp
theorem indexByte_ia (k : Nat) (hk : k < 256) : ∀ xs : List Int, (∀ x ∈ xs, 0 ≤ x ∧ x < 256) → Lib.indexByte (Lib.bytesOf xs) (UInt8.ofNat k) = ia xs k k
  | [], _ => rfl
  | x :: r, h => by
    have hx := h x (by simp)
    have ih := indexByte_ia k hk r (fun y hy => h y (by simp [hy]))
    have e : Lib.bytesOf (x :: r) = UInt8.ofNat x.toNat :: Lib.bytesOf r := rfl
    rw [e, Lib.indexByte, ih, ia]
    by_cases hxk : x = k
    · rw [if_pos (beq_iff_eq.2 ((u8_eq x k hx.1 hx.2 hk).2 hxk)), if_pos (.inl hxk)]
    · have hb : (UInt8.ofNat x.toNat == UInt8.ofNat k) = false := beq_eq_false_iff_ne.2 (fun hh => hxk ((u8_eq x k hx.1 hx.2 hk).1 hh))
      have hn : ¬ (x = (k : Int) ∨ x = (k : Int)) := fun hh => hxk (hh.elim id id)
      simp only [hb, hn, if_false, Bool.false_eq_true, beq_iff_eq]
/-- where "]:" first stands -/
def ix2 : List Int → Int
  | [] => -1
  | x :: r => if x = 93 ∧ r.head? = some 58 then 0 else if ix2 r = -1 then -1 else ix2 r + 1
theorem ix2_ge : ∀ xs : List Int, -1 ≤ ix2 xs
  | [] => Int.le_refl _
  | x :: r => by
    have := ix2_ge r
    unfold ix2
    split
    · omega
    · split <;> omega
theorem index_ix2 : ∀ xs : List Int, (∀ x ∈ xs, 0 ≤ x ∧ x < 256) → Lib.index (Lib.bytesOf xs) (Lib.bytesOf [93, 58]) = ix2 xs
  | [], _ => rfl
  | x :: r, h => by
    have hx := h x (by simp)
    have ih := index_ix2 r (fun y hy => h y (by simp [hy]))
    have e : Lib.bytesOf (x :: r) = UInt8.ofNat x.toNat :: Lib.bytesOf r := rfl
    have hp : (Lib.bytesOf [93, 58]).isPrefixOf (UInt8.ofNat x.toNat :: Lib.bytesOf r) = true ↔ (x = 93 ∧ r.head? = some 58) := by
      have e2 : Lib.bytesOf [93, 58] = [UInt8.ofNat 93, UInt8.ofNat 58] := rfl
      rw [e2]
      cases r with
      | nil => simp [Lib.bytesOf, List.isPrefixOf]
      | cons y s =>
        have hy := h y (by simp)
        have e3 : Lib.bytesOf (y :: s) = UInt8.ofNat y.toNat :: Lib.bytesOf s := rfl
        rw [e3]
        simp only [List.isPrefixOf, Bool.and_eq_true, beq_iff_eq, List.head?_cons, Option.some.injEq, and_true]
        rw [eq_comm (a := UInt8.ofNat 93), eq_comm (a := UInt8.ofNat 58), u8_eq x 93 hx.1 hx.2 (by omega), u8_eq y 58 hy.1 hy.2 (by omega)]
        rfl
    rw [e, Lib.index, ih, ix2]
    by_cases hxk : x = 93 ∧ r.head? = some 58
    · rw [if_pos (hp.2 hxk), if_pos hxk]
    · rw [if_neg (fun hh => hxk (hp.1 hh)), if_neg hxk]
      by_cases hi : ix2 r = -1
      · rw [if_pos (beq_iff_eq.2 hi), if_pos hi]
      · rw [if_neg (fun hh => hi (beq_iff_eq.1 hh)), if_neg hi]
theorem ix2_room : ∀ xs : List Int, 0 ≤ ix2 xs → ix2 xs + 2 ≤ xs.length
  | [], h => by simp [ix2] at h
  | x :: r, h => by
    have ih := ix2_room r
    rw [ix2] at h ⊢
    split at h
    · rename_i hh
      rw [if_pos hh]
      cases r with
      | nil => simp at hh
      | cons y s => simp; omega
    · rename_i hh
      rw [if_neg hh]
      split at h
      · omega
      · rename_i h2
        rw [if_neg h2]
        have := ix2_ge r
        have := ih (by omega)
        simp; omega

theorem cutPre_yes (p : Option Addr) (n c B : Nat) (xs : List Int) (w : World) (h : Sl w p n c xs) (hB : w.cell? ⟨B, 0, none⟩ = some (.int .u8 91)) (hh : xs.head? = some 91) :
    Calls Tryd.prog 22 #[.slice p n c, .slice (some ⟨B, 0, none⟩) 1 1] w fun e w' => e = .returned (.tuple #[Lib.fromV p n c 1, .bool true]) ∧ w' = w := by
  have hk := Any.bytes_CutPrefix_all Tryd.laysPre p (some ⟨B, 0, none⟩) n c 1 1 xs [91] w h.len rfl h.cap h.cells (fun _ => ⟨B, 0, rfl, fun i hi => by obtain rfl : i = 0 := (by omega); exact hB⟩)
  cases xs with
  | nil => simp at hh
  | cons x r =>
    obtain rfl : x = 91 := by simpa using hh
    have hn : 0 < n := by have := h.len; simp at this; omega
    obtain ⟨b, o, rfl, -⟩ := h.at hn
    have e1 : Lib.hasPrefix (Lib.bytesOf (91 :: r)) (Lib.bytesOf [91]) = true := by simp [Lib.hasPrefix, Lib.bytesOf, List.isPrefixOf]
    have e2 : Lib.trimPrefixV (some ⟨b, o, none⟩) n c (91 :: r) [91] = Lib.fromV (some ⟨b, o, none⟩) n c 1 := by
      rw [fromV_some]
      simp only [Lib.trimPrefixV, Lib.bytesTrimPrefix, e1, if_true, Lib.sliceFrom]
      rfl
    rw [e1, e2] at hk
    exact hk
theorem cutPre_no (p : Option Addr) (n c B : Nat) (xs : List Int) (w : World) (h : Sl w p n c xs) (hB : w.cell? ⟨B, 0, none⟩ = some (.int .u8 91)) (hh : xs.head? ≠ some 91) :
    ∃ V, Calls Tryd.prog 22 #[.slice p n c, .slice (some ⟨B, 0, none⟩) 1 1] w fun e w' => e = .returned (.tuple #[V, .bool false]) ∧ w' = w := by
  have hk := Any.bytes_CutPrefix_all Tryd.laysPre p (some ⟨B, 0, none⟩) n c 1 1 xs [91] w h.len rfl h.cap h.cells (fun _ => ⟨B, 0, rfl, fun i hi => by obtain rfl : i = 0 := (by omega); exact hB⟩)
  have e1 : Lib.hasPrefix (Lib.bytesOf xs) (Lib.bytesOf [91]) = false := by
    cases xs with
    | nil => rfl
    | cons x r =>
      have hx := h.byt x (by simp)
      have hne : ¬ x = 91 := fun e => hh (by simp [e])
      have e2 : Lib.bytesOf [91] = [UInt8.ofNat 91] := rfl
      have e3 : Lib.bytesOf (x :: r) = UInt8.ofNat x.toNat :: Lib.bytesOf r := rfl
      rw [e2, e3]
      simp only [Lib.hasPrefix, List.isPrefixOf, Bool.and_true]
      refine beq_eq_false_iff_ne.2 (fun e => hne ?_)
      exact (u8_eq x 91 hx.1 hx.2 (by omega)).1 e.symm
  rw [e1] at hk
  exact ⟨_, hk⟩
theorem cut_no (p : Option Addr) (n c B : Nat) (xs : List Int) (m : Int) (w : World) (hnb : n ≤ 1048576) (h : Sl w p n c xs) (hB0 : w.cell? ⟨B, 0, none⟩ = some (.int .u8 93)) (hB1 : w.cell? ⟨B, 1, none⟩ = some (.int .u8 58)) (hm : w.cell? ⟨0, 0, none⟩ = some (.int .i64 m)) (hh : ix2 xs = -1) :
    Calls Tryd.prog 24 #[.slice p n c, .slice (some ⟨B, 0, none⟩) 2 2] w fun e w' => e = .returned (.tuple #[.slice p n c, .slice none 0 0, .bool false]) ∧ ∃ q, w' = w.drewN q := by
  have hk := Any.bytes_Cut_all Tryd.laysCut p (some ⟨B, 0, none⟩) n c 2 2 xs [93, 58] m w h.len rfl h.byt (by simp) h.cells (fun _ => ⟨B, 0, rfl, fun i hi => by
    match i, hi with
    | 0, _ => exact hB0
    | 1, _ => exact hB1⟩) h.nil h.cap (by omega) (by omega) hm
  rw [index_ix2 xs h.byt, hh] at hk
  exact hk
theorem cut_yes (p : Option Addr) (n c B i : Nat) (xs : List Int) (m : Int) (w : World) (hnb : n ≤ 1048576) (h : Sl w p n c xs) (hB0 : w.cell? ⟨B, 0, none⟩ = some (.int .u8 93)) (hB1 : w.cell? ⟨B, 1, none⟩ = some (.int .u8 58)) (hm : w.cell? ⟨0, 0, none⟩ = some (.int .i64 m)) (hh : ix2 xs = i) :
    Calls Tryd.prog 24 #[.slice p n c, .slice (some ⟨B, 0, none⟩) 2 2] w fun e w' => e = .returned (.tuple #[.slice p i c, Lib.fromV p n c (i + 2), .bool true]) ∧ ∃ q, w' = w.drewN q := by
  have hk := Any.bytes_Cut_all Tryd.laysCut p (some ⟨B, 0, none⟩) n c 2 2 xs [93, 58] m w h.len rfl h.byt (by simp) h.cells (fun _ => ⟨B, 0, rfl, fun i hi => by
    match i, hi with
    | 0, _ => exact hB0
    | 1, _ => exact hB1⟩) h.nil h.cap (by omega) (by omega) hm
  rw [index_ix2 xs h.byt, hh] at hk
  unfold Lib.cutV at hk
  rw [if_pos (by omega), Int.toNat_natCast] at hk
  exact hk
theorem indexByte_all (p : Option Addr) (n c : Nat) (xs : List Int) (w : World) (hn : 0 < n) (h : Sl w p n c xs) :
    Calls Tryd.prog 28 #[.slice p n c, .int .u8 62] w fun e w' => e = .returned (.int .i64 (ia xs 62 62)) ∧ w' = w := by
  obtain ⟨b, o, rfl, hc⟩ := h.at hn
  have hk := Any.bytes_IndexByte Tryd.laysByte b o n c xs 62 w h.len hc
  rw [show ((62 : Int)).toNat.toUInt8 = UInt8.ofNat 62 from rfl, indexByte_ia 62 (by omega) xs h.byt] at hk
  exact hk
end Go.Proofs.Qxb6606027aDoor
