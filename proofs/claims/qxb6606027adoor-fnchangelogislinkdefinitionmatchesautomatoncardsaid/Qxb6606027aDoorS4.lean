import Derived.Test.Qxb6606027aDoorP1
namespace Go.Proofs.Qxb6606027aDoor
open Go.RowKit

/-- two ASCII bytes -/
structure Two (ch : ByteArray) (ca cb : UInt8) : Prop where
  l : ch.data.toList = [ca, cb]
  a : ca.toNat < 128
  b : cb.toNat < 128
theorem Two.size {ch : ByteArray} {ca cb : UInt8} (h : Two ch ca cb) : ch.size = 2 := by rw [Lib.size_eq, h.l]; rfl
theorem Two.emp {ch : ByteArray} {ca cb : UInt8} (h : Two ch ca cb) : ch.toList.isEmpty = false := by rw [Lib.toList_data, h.l]; rfl

set_option maxHeartbeats 1000000 in
theorem should_any (n : Int) (w : World) : Calls Tryd.prog 39 #[.int .i64 n] w fun e w' => e = .returned (.bool (decide (8 < n))) ∧ w' = w := by
  go_enter Tryd.func39, Tryd.ntmps39
  go_wp2
  go_ret
  exact ⟨rfl, rfl⟩

set_option maxHeartbeats 4000000 in
set_option maxRecDepth 100000 in
theorem ia_zero (ch : ByteArray) (ca cb : UInt8) (p : Option Addr) (c : Nat) (w : World) (hT : Two ch ca cb) :
    Calls Tryd.prog 27 #[.slice p 0 c, .string ch] w fun e w' => e = .returned (.int .i64 (-1)) ∧ w' = w := by
  have hemp := hT.emp
  have hs := hT.size
  have hn1 : ((ch.size : Int) == 1) = false := beq_eq_false_iff_ne.2 (by omega)
  clear hs
  go_enter Tryd.func27, Tryd.ntmps27
  go_wp2_with fail
  refine (should_any _ _).mono ?_
  rintro e w1 ⟨rfl, hw⟩
  obtain rfl := hw.symm
  go_wp2
  go_loop [11, 12] (fun a b => a = .int .i64 0 ∧ b = .int .i64 0) (fun _ _ => 0)
  case atStart => exact ⟨rfl, rfl⟩
  case round =>
    obtain ⟨rfl, rfl⟩ := hrel
    go_wp2
    go_ret
    exact ⟨rfl, rfl⟩

theorem ix_two {ch : ByteArray} {ca cb : UInt8} (h : Two ch ca cb) (x : Int) (h0 : 0 ≤ x) (h1 : x < 256) : (0 ≤ Lib.indexByte ch.data.toList x.toNat.toUInt8) ↔ (x = ca.toNat ∨ x = cb.toNat) := by
  rw [h.l]
  have e : ∀ c : UInt8, c = x.toNat.toUInt8 ↔ x = (c.toNat : Int) := fun c => by
    constructor
    · rintro rfl; simp; omega
    · intro hx
      apply UInt8.toNat_inj.1
      simp
      omega
  have d := Lib.contains_iff_indexByte [ca, cb] x.toNat.toUInt8
  rw [← decide_eq_true_iff (p := 0 ≤ _), ← d]
  simp
  rw [eq_comm, e ca, eq_comm (a := x.toNat.toUInt8) (b := cb), e cb]

theorem nx_two {ch : ByteArray} {ca cb : UInt8} (h : Two ch ca cb) (W : World) (i : Nat) (hi : i < 2) :
    ∃ r : Nat, r < 128 ∧ ∀ ty, (Instr.next (.pointer (some ⟨W.heap.size, 0, none⟩)) true ty).run Tryd.prog (W.iter ch i) = .ok (.tuple #[.bool true, .int .i64 i, .int .i32 r]) (W.iter ch (i + 1)) := by
  have hs := h.size
  have hd := Lib.data_getElem? ch i (by omega)
  rw [h.l] at hd
  have hlt : (ch[i]'(by omega)).toNat < 128 := by
    have h1 := h.a
    have h2 := h.b
    match i, hi with
    | 0, _ => have : ca = ch[0]'(by omega) := by simpa using hd
              rw [← this]; exact h1
    | 1, _ => have : cb = ch[1]'(by omega) := by simpa using hd
              rw [← this]; exact h2
  exact ⟨_, hlt, fun ty => run_next_ascii (P := Tryd.prog) W ch i ty (by omega) hlt⟩
theorem nx_end {ch : ByteArray} {ca cb : UInt8} (h : Two ch ca cb) (W : World) :
    ∀ ty, (Instr.next (.pointer (some ⟨W.heap.size, 0, none⟩)) true ty).run Tryd.prog (W.iter ch 2) = .ok (.tuple #[.bool false]) (W.iter ch 2) :=
  fun ty => run_next_end (P := Tryd.prog) W ch 2 ty (by rw [h.size]; omega)

set_option maxHeartbeats 4000000 in
set_option maxRecDepth 100000 in
theorem ia_one (ch : ByteArray) (ca cb : UInt8) (b o c : Nat) (x : Int) (w : World) (hT : Two ch ca cb) (hx0 : 0 ≤ x) (hx1 : x < 256) (hc : w.cell? ⟨b, o, none⟩ = some (.int .u8 x)) :
    Calls Tryd.prog 27 #[.slice (some ⟨b, o, none⟩) 1 c, .string ch] w fun e w' => e = .returned (.int .i64 (ia [x] ca.toNat cb.toNat)) ∧ Below w.heap.size w w' := by
  have HX : Hid ((0 ≤ Lib.indexByte ch.data.toList x.toNat.toUInt8) ↔ (x = ca.toNat ∨ x = cb.toNat)) := ix_two hT x hx0 hx1
  have HT : Hid (Two ch ca cb) := hT
  have hr := Lib.run_indexByteString (P := Tryd.prog) ch x
  have hemp := hT.emp
  clear hT
  by_cases h128 : 128 ≤ x
  · have HA : Hid (ia [x] ca.toNat cb.toNat = -1) := ia_none (fun j hj => by
      have : j = 0 := by simp at hj; exact hj
      subst this
      have h1 := HT.out.a
      have h2 := HT.out.b
      simp; omega)
    clear hr
    go_enter Tryd.func27, Tryd.ntmps27
    go_wp2
    go_loopg [5] 3 (fun g _ wx => ∃ i : Nat, i + g = 3 ∧ i ≤ 2 ∧ wx = w.iter ch i)
    case atStart => exact ⟨0, by omega, by omega, rfl⟩
    case round =>
      obtain ⟨i, hig, hi2, rfl⟩ := hrel
      by_cases hi : i < 2
      · obtain ⟨r, hr, hnx⟩ := nx_two HT.out w i hi
        have hne : ((r : Int) == 65533) = false := beq_eq_false_iff_ne.2 (by omega)
        go_wp2
        go_roundg (2 - i)
        case measure => omega
        case rel => exact ⟨i + 1, by omega, by omega, rfl⟩
      · obtain rfl : i = 2 := by omega
        have hnx := nx_end HT.out w
        go_wp2
        go_ret
        exact ⟨by rw [HA.out]; rfl, (Below.refl _ _).alloc (Nat.le_refl _) _⟩
  · obtain ⟨I, HI⟩ : ∃ I, Hid (Lib.indexByte ch.data.toList x.toNat.toUInt8 = I) := ⟨_, rfl⟩
    rw [HI.out] at HX hr
    by_cases hI : 0 ≤ I
    · have HA : Hid (ia [x] ca.toNat cb.toNat = 0) := ia_hit (i := 0) (NoPQ.zero _ _ _) (by simp) (by simpa using HX.out.1 hI)
      go_enter Tryd.func27, Tryd.ntmps27
      go_wp2
      rw [run_callFunc_extern Tryd.func37 (by kernel_rfl) (by kernel_rfl) (by kernel_rfl) (e := Extern.BytealgIndexByte.indexByte) (by kernel_rfl), hr]
      simp only [Result.andThen]
      rw [Oper.upon_value]
      go_wp2
      go_ret
      exact ⟨by rw [HA.out]; rfl, Below.refl _ _⟩
    · have HA : Hid (ia [x] ca.toNat cb.toNat = -1) := ia_none (fun j hj => by
        have : j = 0 := by simp at hj; exact hj
        subst this
        have h3 : ¬ (x = ca.toNat ∨ x = cb.toNat) := fun h => hI (HX.out.2 h)
        exact ⟨fun e => h3 (.inl (by simpa using e)), fun e => h3 (.inr (by simpa using e))⟩)
      go_enter Tryd.func27, Tryd.ntmps27
      go_wp2
      rw [run_callFunc_extern Tryd.func37 (by kernel_rfl) (by kernel_rfl) (by kernel_rfl) (e := Extern.BytealgIndexByte.indexByte) (by kernel_rfl), hr]
      simp only [Result.andThen]
      rw [Oper.upon_value]
      go_wp2
      go_ret
      exact ⟨by rw [HA.out]; rfl, Below.refl _ _⟩
end Go.Proofs.Qxb6606027aDoor
