import Derived.Test.Qxb6606027aDoorRows
import Derived.WalkKit
import Derived.WalkSpells
import Derived.WalkLawsBesides
import Derived.Deep.QuietTactic
import Derived.BigQuiet
import Derived.Deep.LoopGhost
import Derived.Handy
import Derived.Shelf.Bytes.SlCut
namespace Go.Proofs.Qxb6606027aDoor
open Go.RowKit

/-! ### plain -/
/-- a space or a tab -/
def bl (x : Int) : Bool := x == 32 || x == 9
theorem bl_yes {x : Int} (h : x = 32 ∨ x = 9) : bl x = true := by unfold bl; rcases h with rfl | rfl <;> decide
theorem bl_no {x : Int} (h1 : x ≠ 32) (h2 : x ≠ 9) : bl x = false := by unfold bl; simp [h1, h2]
/-- how many blanks lead -/
def lead (xs : List Int) : Nat := (xs.takeWhile bl).length
theorem lead_le : ∀ xs : List Int, lead xs ≤ xs.length
  | [] => Nat.le_refl _
  | x :: xs => by
    unfold lead
    rw [List.takeWhile_cons]
    split
    · have := lead_le xs; unfold lead at this; simp; exact this
    · simp
theorem lead_of : ∀ (xs : List Int) (k : Nat), (∀ j, j < k → bl (xs.getD j 0) = true) → k ≤ xs.length → (k = xs.length ∨ bl (xs.getD k 0) = false) → lead xs = k
  | [], k, _, hk, _ => by simp at hk; subst hk; rfl
  | x :: xs, 0, _, _, h => by
    rcases h with h | h
    · simp at h
    · have h : bl x = false := by simpa using h
      simp [lead, h]
  | x :: xs, k + 1, h, hk, hs => by
    have h0 : bl x = true := by simpa using h 0 (by omega)
    have := lead_of xs k (fun j hj => by simpa using h (j + 1) (by omega)) (by simpa using hk) (by rcases hs with hs | hs; exact .inl (by simpa using hs); exact .inr (by simpa using hs))
    unfold lead at this ⊢
    simp [h0, this]
theorem lead_is (xs : List Int) : (∀ j, j < lead xs → bl (xs.getD j 0) = true) ∧ (lead xs = xs.length ∨ bl (xs.getD (lead xs) 0) = false) := by
  induction xs with
  | nil => exact ⟨fun j hj => by simp [lead] at hj, .inl rfl⟩
  | cons x xs ih =>
    cases hb : bl x with
    | false =>
      have : lead (x :: xs) = 0 := by simp [lead, hb]
      rw [this]
      exact ⟨fun j hj => by omega, .inr (by simpa using hb)⟩
    | true =>
      have : lead (x :: xs) = lead xs + 1 := by simp [lead, hb]
      rw [this]
      refine ⟨fun j hj => ?_, ?_⟩
      · cases j with
        | zero => simpa using hb
        | succ j => simpa using ih.1 j (by omega)
      · rcases ih.2 with h | h
        · exact .inl (by simp [h])
        · exact .inr (by simpa using h)

/-! ### the small walks -/
set_option maxHeartbeats 400000 in
theorem bound_any (p : Option Addr) (n c : Nat) (w : World) (hn : n ≤ 9223372036854775807) :
    Calls Tryd.prog 7 #[.slice p n c] w fun e w' => e = .returned (.bool (decide (n ≤ 1048576))) ∧ w' = w := by
  by_cases h : 1048576 < n
  · have hi : (1048576 : Int) < (n : Int) := by omega
    have hd : Hid (decide (n ≤ 1048576) = false) := decide_eq_false (by omega)
    go_enter Tryd.func7, Tryd.ntmps7
    go_wp2
    go_ret
    exact ⟨by rw [hd.out]; rfl, rfl⟩
  · have hi : ¬ (1048576 : Int) < (n : Int) := by omega
    have hd : Hid (decide (n ≤ 1048576) = true) := decide_eq_true (by omega)
    go_enter Tryd.func7, Tryd.ntmps7
    go_wp2
    go_ret
    exact ⟨by rw [hd.out]; rfl, rfl⟩

set_option maxHeartbeats 400000 in
theorem blank_any (x : Int) (w : World) (h0 : 0 ≤ x) (h1 : x < 256) :
    Calls Tryd.prog 14 #[.int .u8 x] w fun e w' => e = .returned (.bool (bl x)) ∧ w' = w := by
  by_cases a : x = 32
  · subst a
    go_enter Tryd.func14, Tryd.ntmps14
    go_wp2
    go_ret
    exact ⟨rfl, rfl⟩
  · by_cases b : x = 9
    · subst b
      go_enter Tryd.func14, Tryd.ntmps14
      go_wp2
      go_ret
      exact ⟨rfl, rfl⟩
    · have q1 : (x == 32) = false := by simpa using a
      have q2 : (x == 9) = false := by simpa using b
      have hd : Hid (bl x = false) := bl_no a b
      clear a b
      go_enter Tryd.func14, Tryd.ntmps14
      go_wp2
      go_ret
      exact ⟨by rw [hd.out]; rfl, rfl⟩

theorem fromV_some (b o n c j : Nat) : Lib.fromV (some ⟨b, o, none⟩) n c j = .slice (if c = j then some ⟨b, o, none⟩ else some ⟨b, o + j, none⟩) (n - j) (c - j) := by
  unfold Lib.fromV; by_cases hj : j = 0
  · subst hj; simp [Addr.add]
  · simp [Addr.add, hj]
theorem fromV_zero (p : Option Addr) (n c : Nat) : Lib.fromV p n c 0 = .slice p n c := by
  unfold Lib.fromV
  have : p.map (fun x => x.add 0) = p := by cases p <;> rfl
  rw [this]; split <;> rfl
theorem fromV_end (b o n c j : Nat) (h : c = j) : Lib.fromV (some ⟨b, o, none⟩) n c j = .slice (some ⟨b, o, none⟩) (n - j) (c - j) := by rw [fromV_some, if_pos h]
theorem fromV_in (b o n c j : Nat) (h : c ≠ j) : Lib.fromV (some ⟨b, o, none⟩) n c j = .slice (some ⟨b, o + j, none⟩) (n - j) (c - j) := by rw [fromV_some, if_neg h]

set_option maxHeartbeats 1000000 in
theorem trimIndent_some (b o n c : Nat) (xs : List Int) (w : World) (hx : xs.length = n) (hn0 : 0 < n) (hnc : n ≤ c) (hcb : c ≤ 9223372036854775807)
    (hc : ∀ i, i < n → w.cell? ⟨b, o + i, none⟩ = some (.int .u8 (xs.getD i 0))) :
    Calls Tryd.prog 23 #[.slice (some ⟨b, o, none⟩) n c] w fun e w' => e = .returned (Lib.fromV (some ⟨b, o, none⟩) n c (lead xs)) ∧ w' = w := by
  have HX : Hid (xs.length = n) := hx
  have HC : Hid (∀ i, i < n → w.cell? ⟨b, o + i, none⟩ = some (.int .u8 (xs.getD i 0))) := hc
  clear hx hc
  obtain ⟨L, HL⟩ : ∃ L, Hid (lead xs = L) := ⟨_, rfl⟩
  rw [HL.out]
  go_enter Tryd.func23, Tryd.ntmps23
  go_wp2
  go_loop [3] (fun s => ∃ k : Nat, k ≤ n ∧ s = .int .i64 k ∧ Hid (∀ j, j < k → bl (xs.getD j 0) = true)) (fun i => n - (intOf i).toNat)
  case atStart => exact ⟨0, by omega, rfl, fun j hj => absurd hj (by omega)⟩
  case round =>
    obtain ⟨k, hk, rfl, HK⟩ := hrel
    have hfin : (k = n ∨ bl (xs.getD k 0) = false) → L = k := fun h => by
      rw [← HL.out]; exact lead_of xs k HK.out (by rw [HX.out]; exact hk) (by rw [HX.out]; exact h)
    have HF : Hid ((k = n ∨ bl (xs.getD k 0) = false) → L = k) := hfin
    clear hfin
    by_cases hlt : k < n
    · obtain ⟨x, HXK⟩ : ∃ x, Hid (xs.getD k 0 = x) := ⟨_, rfl⟩
      have hck := HC.out k (by omega)
      rw [HXK.out] at hck
      have hki : (k : Int) < (n : Int) := by omega
      by_cases hb : x = 32 ∨ x = 9
      · have HK2 : Hid (∀ j, j < k + 1 → bl (xs.getD j 0) = true) := fun j hj => by
          by_cases e : j = k
          · rw [e, HXK.out]; exact bl_yes hb
          · exact HK.out j (by omega)
        rcases hb with rfl | rfl
        all_goals
          go_wp2
          go_round
          case rel => exact ⟨k + 1, by omega, by go_num, HK2⟩
          case measure => simp [intOf]; omega
      · have q1 : (x == 32) = false := beq_eq_false_iff_ne.2 (fun e => hb (.inl e))
        have q2 : (x == 9) = false := beq_eq_false_iff_ne.2 (fun e => hb (.inr e))
        have HLk : Hid (L = k) := HF.out (.inr (by rw [HXK.out]; exact bl_no (fun e => hb (.inl e)) (fun e => hb (.inr e))))
        have HV : Hid (Lib.fromV (some ⟨b, o, none⟩) n c L = .slice (some ⟨b, o + k, none⟩) (n - k) (c - k)) := by rw [HLk.out]; exact fromV_in b o n c k (by omega)
        clear hb
        have hck2 : ¬ c = k := by omega
        go_wp2
        go_ret
        rw [HV.out]
        exact ⟨rfl, rfl⟩
    · obtain rfl : k = n := by omega
      have HLk : Hid (L = k) := HF.out (.inl rfl)
      clear hlt
      by_cases hcn : c = k
      · have HV : Hid (Lib.fromV (some ⟨b, o, none⟩) k c L = .slice (some ⟨b, o, none⟩) (k - k) (c - k)) := by rw [HLk.out]; exact fromV_end b o k c k hcn
        subst hcn
        go_wp2
        go_ret
        rw [HV.out]
        simp only [Nat.sub_self, and_true]
        rfl
      · have HV : Hid (Lib.fromV (some ⟨b, o, none⟩) k c L = .slice (some ⟨b, o + k, none⟩) (k - k) (c - k)) := by rw [HLk.out]; exact fromV_in b o k c k hcn
        go_wp2
        go_ret
        rw [HV.out]
        simp only [Nat.sub_self, and_true]
        rfl

set_option maxHeartbeats 400000 in
theorem trimIndent_none (w : World) :
    Calls Tryd.prog 23 #[.slice none 0 0] w fun e w' => e = .returned (.slice none 0 0) ∧ w' = w := by
  go_enter Tryd.func23, Tryd.ntmps23
  go_wp2
  go_loop [3] (fun s => s = .int .i64 0) (fun i => 0)
  case atStart => rfl
  case round =>
    subst hrel
    go_wp2
    go_ret
    exact ⟨rfl, rfl⟩
set_option maxHeartbeats 400000 in
theorem trimIndent_empty (b o c : Nat) (w : World) :
    Calls Tryd.prog 23 #[.slice (some ⟨b, o, none⟩) 0 c] w fun e w' => e = .returned (.slice (some ⟨b, o, none⟩) 0 c) ∧ w' = w := by
  go_enter Tryd.func23, Tryd.ntmps23
  go_wp2
  go_loop [3] (fun s => s = .int .i64 0) (fun i => 0)
  case atStart => rfl
  case round =>
    subst hrel
    go_wp2
    all_goals go_ret
    all_goals exact ⟨rfl, rfl⟩

/-- a slice of bytes: nil, or at an address -/
structure Sl (w : World) (p : Option Addr) (n c : Nat) (xs : List Int) : Prop where
  len : xs.length = n
  cap : n ≤ c
  top : c ≤ 4611686018427387904
  byt : ∀ x ∈ xs, 0 ≤ x ∧ x < 256
  nil : p = none → c = 0
  ad : ∀ a, p = some a → ∃ b o, a = ⟨b, o, none⟩
  cells : Lib.BytesIn w p n xs
theorem Sl.same {w w' : World} {p : Option Addr} {n c : Nat} {xs : List Int} (h : Sl w p n c xs) (hw : ∀ (a : Addr) v, w.cell? a = some v → w'.cell? a = some v) : Sl w' p n c xs :=
  { h with cells := fun hn => by obtain ⟨b, o, e, hc⟩ := h.cells hn; exact ⟨b, o, e, fun i hi => hw _ _ (hc i hi)⟩ }
theorem Sl.at {w : World} {p : Option Addr} {n c : Nat} {xs : List Int} (h : Sl w p n c xs) (hn : 0 < n) : ∃ b o, p = some ⟨b, o, none⟩ ∧ ∀ i, i < n → w.cell? ⟨b, o + i, none⟩ = some (.int .u8 (xs.getD i 0)) := h.cells hn
/-- 's[j:]' -/
theorem Sl.drop {w : World} {p : Option Addr} {n c : Nat} {xs : List Int} (h : Sl w p n c xs) (j : Nat) (hj : j ≤ n) : ∃ p', Lib.fromV p n c j = .slice p' (n - j) (c - j) ∧ Sl w p' (n - j) (c - j) (xs.drop j) := by
  refine ⟨_, rfl, by simp [h.len], by have := h.cap; omega, by have := h.top; omega, fun x hx => h.byt x (List.mem_of_mem_drop hx), ?_, ?_, ?_⟩
  · intro e
    split at e
    · have := h.nil e; omega
    · cases p with
      | none => have := h.nil rfl; omega
      | some a => simp at e
  · intro a e
    split at e
    · exact h.ad a e
    · cases p with
      | none => simp at e
      | some a' =>
        obtain ⟨b, o, rfl⟩ := h.ad a' rfl
        simp [Addr.add] at e
        exact ⟨b, o + j, by rw [← e]; by_cases hj : j = 0 <;> simp [hj]⟩
  · intro hn
    obtain ⟨b, o, rfl, hc⟩ := h.cells (by omega)
    have hcap := h.cap
    rw [if_neg (by omega)]
    refine ⟨b, o + j, by simp [Addr.add], fun i hi => ?_⟩
    rw [Nat.add_assoc, hc (j + i) (by omega)]
    simp [List.getD_eq_getElem?_getD, List.getElem?_drop]
/-- 's[:j]' -/
theorem Sl.take {w : World} {p : Option Addr} {n c : Nat} {xs : List Int} (h : Sl w p n c xs) (j : Nat) (hj : j ≤ n) : Sl w p j c (xs.take j) := by
  refine ⟨by simp [h.len]; omega, by have := h.cap; omega, h.top, fun x hx => h.byt x (List.mem_of_mem_take hx), h.nil, h.ad, fun hn => ?_⟩
  obtain ⟨b, o, rfl, hc⟩ := h.cells (by omega)
  refine ⟨b, o, rfl, fun i hi => ?_⟩
  rw [hc i (by omega)]
  simp [List.getD_eq_getElem?_getD, hi]
theorem Sl.inB {w : World} {p : Option Addr} {n c : Nat} {xs : List Int} (h : Sl w p n c xs) (i : Nat) : 0 ≤ xs.getD i 0 ∧ xs.getD i 0 < 256 := by
  by_cases hi : i < xs.length
  · rw [List.getD_eq_getElem?_getD, List.getElem?_eq_getElem hi]; exact h.byt _ (List.getElem_mem hi)
  · rw [List.getD_eq_getElem?_getD, List.getElem?_eq_none (by omega)]; simp

theorem lead_zero {xs : List Int} (h : xs.length = 0) : lead xs = 0 := by
  obtain rfl : xs = [] := List.eq_nil_of_length_eq_zero h
  rfl
/-- **trimIndent** -/
theorem trimIndent_any (p : Option Addr) (n c : Nat) (xs : List Int) (w : World) (h : Sl w p n c xs) :
    Calls Tryd.prog 23 #[.slice p n c] w fun e w' => e = .returned (Lib.fromV p n c (lead xs)) ∧ w' = w := by
  have htop := h.top
  by_cases hn : 0 < n
  · obtain ⟨b, o, rfl, hc⟩ := h.at hn
    exact trimIndent_some b o n c xs w h.len hn h.cap (by omega) hc
  · obtain rfl : n = 0 := by omega
    rw [lead_zero h.len, fromV_zero]
    cases p with
    | none =>
      obtain rfl := h.nil rfl
      exact trimIndent_none w
    | some a =>
      obtain ⟨b, o, rfl⟩ := h.ad a rfl
      exact trimIndent_empty b o c w

set_option maxHeartbeats 400000 in
/-- **isBlank** -/
theorem isBlank_any (p : Option Addr) (n c : Nat) (xs : List Int) (w : World) (h : Sl w p n c xs) :
    Calls Tryd.prog 25 #[.slice p n c] w fun e w' => e = .returned (.bool (decide (lead xs = n))) ∧ w' = w := by
  have hT := trimIndent_any p n c xs w h
  have hle : lead xs ≤ n := by have := lead_le xs; rw [h.len] at this; exact this
  obtain ⟨p', hv, -⟩ := h.drop (lead xs) hle
  rw [hv] at hT
  have HT : Hid (Calls Tryd.prog 23 #[.slice p n c] w fun e w' => e = .returned (.slice p' (n - lead xs) (c - lead xs)) ∧ w' = w) := hT
  clear hT hv h
  generalize lead xs = L at HT hle
  obtain ⟨d, HD⟩ : ∃ d, Hid (n - L = d) := ⟨_, rfl⟩
  rw [HD.out] at HT
  by_cases hL : d = 0
  · have HA : Hid (decide (L = n) = true) := decide_eq_true (by have := HD.out; omega)
    subst hL
    clear hle
    go_enter Tryd.func25, Tryd.ntmps25
    go_wp2_with fail
    refine HT.out.mono ?_
    rintro e w' ⟨rfl, hw⟩
    obtain rfl := hw.symm
    go_wp2
    go_ret
    exact ⟨by rw [HA.out]; rfl, rfl⟩
  · have HA : Hid (decide (L = n) = false) := decide_eq_false (by have := HD.out; omega)
    have hd : ((d : Int) == 0) = false := beq_eq_false_iff_ne.2 (by omega)
    clear hle
    go_enter Tryd.func25, Tryd.ntmps25
    go_wp2_with fail
    refine HT.out.mono ?_
    rintro e w' ⟨rfl, hw⟩
    obtain rfl := hw.symm
    go_wp2
    go_ret
    exact ⟨by rw [HA.out]; rfl, rfl⟩
end Go.Proofs.Qxb6606027aDoor
