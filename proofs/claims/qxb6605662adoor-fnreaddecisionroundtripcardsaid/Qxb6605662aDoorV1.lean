import Derived.Test.Qxb6605662aDoorR5
import Derived.Lib.EndianBits
import Derived.Lib.Endian
import Derived.RegionTactic
import Derived.Lib.ValidAsc
import Derived.Laws.BitsAllLaws
namespace Go.Proofs.Qxb6605662aDoor
open Go.RowKit

def u8 (x : Int) : UInt8 := UInt8.ofNat x.toNat
theorem u8_toNat (x : Int) (h0 : 0 ≤ x) (h1 : x < 256) : ((u8 x).toNat : Int) = x := by unfold u8; simp; omega
/-- eight bytes as a word, the least first -/
def wd (l : List Int) (k : Nat) : Nat := Lib.leNat [u8 (l.getD k 0), u8 (l.getD (k + 1) 0), u8 (l.getD (k + 2) 0), u8 (l.getD (k + 3) 0), u8 (l.getD (k + 4) 0), u8 (l.getD (k + 5) 0), u8 (l.getD (k + 6) 0), u8 (l.getD (k + 7) 0)]
def InB (l : List Int) : Prop := ∀ i, 0 ≤ l.getD i 0 ∧ l.getD i 0 < 256
theorem wd_asc (l : List Int) (k : Nat) (hb : InB l) (h : wd l k &&& 9259542123273814144 = 0) : ∀ i, i < 8 → l.getD (k + i) 0 < 128 := by
  have ha := (Lib.word_asc ⟨#[u8 (l.getD k 0), u8 (l.getD (k + 1) 0), u8 (l.getD (k + 2) 0), u8 (l.getD (k + 3) 0), u8 (l.getD (k + 4) 0), u8 (l.getD (k + 5) 0), u8 (l.getD (k + 6) 0), u8 (l.getD (k + 7) 0)]⟩ (Nat.le_refl 8)).1 h
  unfold Lib.Asc at ha
  intro i hi
  have hm : u8 (l.getD (k + i) 0) ∈ [u8 (l.getD k 0), u8 (l.getD (k + 1) 0), u8 (l.getD (k + 2) 0), u8 (l.getD (k + 3) 0), u8 (l.getD (k + 4) 0), u8 (l.getD (k + 5) 0), u8 (l.getD (k + 6) 0), u8 (l.getD (k + 7) 0)] := by
    match i, hi with
    | 0, _ => simp
    | 1, _ => simp
    | 2, _ => simp
    | 3, _ => simp
    | 4, _ => simp
    | 5, _ => simp
    | 6, _ => simp
    | 7, _ => simp
  have h1 := ha _ hm
  have h2 := u8_toNat _ (hb (k + i)).1 (hb (k + i)).2
  omega
theorem wd_lt (l : List Int) (k : Nat) : wd l k < 18446744073709551616 := Lib.word_lt ⟨#[u8 (l.getD k 0), u8 (l.getD (k + 1) 0), u8 (l.getD (k + 2) 0), u8 (l.getD (k + 3) 0), u8 (l.getD (k + 4) 0), u8 (l.getD (k + 5) 0), u8 (l.getD (k + 6) 0), u8 (l.getD (k + 7) 0)]⟩

set_option maxHeartbeats 8000000 in
set_option maxRecDepth 100000 in
theorem word_any (b o m cap k : Nat) (l : List Int) (w : World) (hm : 8 ≤ m) (hmb : m ≤ 2147483648) (hb : InB l) (hc : ∀ i, i < 8 → w.cell? ⟨b, o + i, none⟩ = some (.int .u8 (l.getD (k + i) 0))) :
    Calls Tryd.prog 54 #[.slice (some ⟨b, o, none⟩) m cap] w fun e w' => e = .returned (.int .u64 (wd l k)) ∧ ∃ q, w' = w.drewN q := by
  have c0 := hc 0 (by omega)
  have c1 := hc 1 (by omega)
  have c2 := hc 2 (by omega)
  have c3 := hc 3 (by omega)
  have c4 := hc 4 (by omega)
  have c5 := hc 5 (by omega)
  have c6 := hc 6 (by omega)
  have c7 := hc 7 (by omega)
  rw [Nat.add_zero, Nat.add_zero] at c0
  have hv : ((wd l k : Nat) : Int) = l.getD k 0 + l.getD (k + 1) 0 * 256 + l.getD (k + 2) 0 * 65536 + l.getD (k + 3) 0 * 16777216 + l.getD (k + 4) 0 * 4294967296 + l.getD (k + 5) 0 * 1099511627776 + l.getD (k + 6) 0 * 281474976710656 + l.getD (k + 7) 0 * 72057594037927936 := by
    unfold wd
    simp only [Lib.leNat]
    push_cast
    rw [u8_toNat _ (hb _).1 (hb _).2, u8_toNat _ (hb _).1 (hb _).2, u8_toNat _ (hb _).1 (hb _).2, u8_toNat _ (hb _).1 (hb _).2, u8_toNat _ (hb _).1 (hb _).2, u8_toNat _ (hb _).1 (hb _).2, u8_toNat _ (hb _).1 (hb _).2, u8_toNat _ (hb _).1 (hb _).2]
    omega
  have b0 := hb k
  have b1 := hb (k + 1)
  have b2 := hb (k + 2)
  have b3 := hb (k + 3)
  have b4 := hb (k + 4)
  have b5 := hb (k + 5)
  have b6 := hb (k + 6)
  have b7 := hb (k + 7)
  generalize wd l k = V at hv ⊢
  generalize l.getD k 0 = x0 at c0 hv b0
  generalize l.getD (k + 1) 0 = x1 at c1 hv b1
  generalize l.getD (k + 2) 0 = x2 at c2 hv b2
  generalize l.getD (k + 3) 0 = x3 at c3 hv b3
  generalize l.getD (k + 4) 0 = x4 at c4 hv b4
  generalize l.getD (k + 5) 0 = x5 at c5 hv b5
  generalize l.getD (k + 6) 0 = x6 at c6 hv b6
  generalize l.getD (k + 7) 0 = x7 at c7 hv b7
  obtain ⟨g0, i0⟩ := b0
  obtain ⟨g1, i1⟩ := b1
  obtain ⟨g2, i2⟩ := b2
  obtain ⟨g3, i3⟩ := b3
  obtain ⟨g4, i4⟩ := b4
  obtain ⟨g5, i5⟩ := b5
  obtain ⟨g6, i6⟩ := b6
  obtain ⟨g7, i7⟩ := b7
  have HV : Hid ((V : Int) = x0 + x1 * 256 + x2 * 65536 + x3 * 16777216 + x4 * 4294967296 + x5 * 1099511627776 + x6 * 281474976710656 + x7 * 72057594037927936) := hv
  clear hv hc hb
  have q0 : (0 : Int) < (m : Int) := by omega
  have q1 : (1 : Int) < (m : Int) := by omega
  have q2 : (2 : Int) < (m : Int) := by omega
  have q3 : (3 : Int) < (m : Int) := by omega
  have q4 : (4 : Int) < (m : Int) := by omega
  have q5 : (5 : Int) < (m : Int) := by omega
  have q6 : (6 : Int) < (m : Int) := by omega
  have q7 : (7 : Int) < (m : Int) := by omega
  go_enter Tryd.func54, Tryd.ntmps54
  go_wp2
  go_quiet (fail)
  go_wp2
  go_ret
  refine ⟨?_, _, rfl⟩
  simp (disch := omega) only [u64_or8, u64_or16, u64_or24, u64_or32, u64_or40, u64_or48, u64_or56]
  rw [HV.out]
  rfl
end Go.Proofs.Qxb6605662aDoor
