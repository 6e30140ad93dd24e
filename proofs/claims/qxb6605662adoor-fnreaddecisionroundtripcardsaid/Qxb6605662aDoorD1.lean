import Derived.Test.Qxb6605662aDoorD0
namespace Go.Proofs.Qxb6605662aDoor
open Go.RowKit

/-! ### GiveUp, Once -/
def offW (R : Nat) (w : World) : World := w.setCell ⟨R, 2, none⟩ (.bool true)
theorem giveUpA (R n c : Nat) (p : Option Addr) (A : Option Nat) (op : Bool) (w : World) (hS : RS w R p n c A op) :
    Calls Tryd.prog 44 #[.pointer (some ⟨R, 0, none⟩)] w fun e w' => e = .returned (.tuple #[]) ∧ w' = offW R w := by
  have c2 := hS.c2
  have f2 := hS.fz 2
  clear hS
  go_enter Tryd.func44, Tryd.ntmps44
  go_wp2
  go_returns
  exact ⟨rfl, rfl⟩
/-- a block of one counter of keys -/
def Sn (w : World) (S v : Nat) : Prop := w.heap[S]? = some (.cells #[.int .u64 v] 67 (0, 0))
theorem Sn.c {w : World} {S v : Nat} (h : Sn w S v) : w.cell? ⟨S, 0, none⟩ = some (.int .u64 v) := cell_of_row w S 0 _ 67 (0, 0) h
theorem Sn.fz {w : World} {S v : Nat} (h : Sn w S v) : w.frozen? ⟨S, 0, none⟩ = false := frozen_of_row w S 0 _ 67 h
theorem Sn.lt {w : World} {S v : Nat} (h : Sn w S v) : S < w.heap.size := by
  rcases Nat.lt_or_ge S w.heap.size with hl | hl
  · exact hl
  · rw [Sn, Array.getElem?_eq_none hl] at h; cases h
theorem Sn.set {w : World} {S v : Nat} (h : Sn w S v) (x : Nat) : Sn (w.setCell ⟨S, 0, none⟩ (.int .u64 x)) S x := heap_setCell_same w S 0 _ 67 (.int .u64 x) h
theorem Sn.grown {w w' : World} {S v : Nat} (h : Sn w S v) {row : Option Nat} (hg : w.grownBy w' row) (hr : some S ≠ row) : Sn w' S v := (hg.block S h.lt hr).trans h
/-- the world behind Once -/
def onW (R S v pl : Nat) (w : World) : World := (if v.testBit pl then offW R w else w).setCell ⟨S, 0, none⟩ (.int .u64 ((v ||| 2 ^ pl : Nat) : Int))
theorem mask_and (v pl : Nat) (hv : v < 16) (hpl : pl < 4) : (bits .and .u64 (v : Int) (IntKind.u64.wrap (2 ^ pl)) != 0) = v.testBit pl := by
  have : ∀ v : Fin 16, ∀ pl : Fin 4, (bits .and .u64 ((v.val : Nat) : Int) (IntKind.u64.wrap (2 ^ pl.val)) != 0) = v.val.testBit pl.val := by decide
  exact this ⟨v, hv⟩ ⟨pl, hpl⟩
theorem mask_or (v pl : Nat) (hv : v < 16) (hpl : pl < 4) : bits .or .u64 (v : Int) (IntKind.u64.wrap (2 ^ pl)) = ((v ||| 2 ^ pl : Nat) : Int) := by
  have : ∀ v : Fin 16, ∀ pl : Fin 4, bits .or .u64 ((v.val : Nat) : Int) (IntKind.u64.wrap (2 ^ pl.val)) = ((v.val ||| 2 ^ pl.val : Nat) : Int) := by decide
  exact this ⟨v, hv⟩ ⟨pl, hpl⟩
theorem mask_lt (v pl : Nat) (hv : v < 16) (hpl : pl < 4) : v ||| 2 ^ pl < 16 := by
  have : ∀ v : Fin 16, ∀ pl : Fin 4, v.val ||| 2 ^ pl.val < 16 := by decide
  exact this ⟨v, hv⟩ ⟨pl, hpl⟩
set_option maxHeartbeats 1000000 in
theorem onceA (R S n c v pl : Nat) (p : Option Addr) (A : Option Nat) (op : Bool) (w : World) (hv : v < 16) (hpl : pl < 4) (hSR : S ≠ R) (hS : RS w R p n c A op) (hN : Sn w S v) :
    Calls Tryd.prog 41 #[.pointer (some ⟨S, 0, none⟩), .pointer (some ⟨R, 0, none⟩), .int .u64 pl] w fun e w' => e = .returned (.tuple #[]) ∧ w' = onW R S v pl w := by
  have hg := giveUpA R n c p A op w hS
  have HG : Hid (Calls Tryd.prog 44 #[.pointer (some ⟨R, 0, none⟩)] w fun e w' => e = .returned (.tuple #[]) ∧ w' = offW R w) := hg
  have hN2 : Sn (offW R w) S v := hN.grown (upd_set w R 2 (.bool true)) (by simpa using hSR)
  have c1 := hN.c
  have f1 := hN.fz
  have c2 := hN2.c
  have f2 := hN2.fz
  have ha := mask_and v pl hv hpl
  have ho := mask_or v pl hv hpl
  have HW : Hid (onW R S v pl w = (if v.testBit pl then offW R w else w).setCell ⟨S, 0, none⟩ (.int .u64 ((v ||| 2 ^ pl : Nat) : Int))) := rfl
  generalize onW R S v pl w = W at HW ⊢
  generalize v ||| 2 ^ pl = V at HW ho
  clear hg hS hN hN2
  cases hb : v.testBit pl with
  | true =>
    rw [hb] at ha HW
    clear hb
    go_enter Tryd.func41, Tryd.ntmps41
    go_wp2_with fail
    refine HG.out.mono ?_
    rintro e w1 ⟨rfl, hw⟩; obtain rfl := hw.symm
    go_wp2_with fail
    go_returns
    refine ⟨rfl, ?_⟩
    rw [HW.out]; rfl
  | false =>
    rw [hb] at ha HW
    clear hb
    go_enter Tryd.func41, Tryd.ntmps41
    go_wp2_with fail
    go_returns
    refine ⟨rfl, ?_⟩
    rw [HW.out]; rfl

theorem upd_fresh {w w1 : World} {R b : Nat} (h : w.grownBy w1 (some R)) (hb : w.heap.size ≤ b) (j : Nat) (v : Value) : w.grownBy (w1.setCell ⟨b, j, none⟩ v) (some R) :=
  ⟨h.os, h.tape, h.output, by simpa using h.size, fun k hk hr => (heap_setCell_other w1 ⟨b, j, none⟩ k v (fun e => by simp at e; omega)).trans (h.block k hk hr)⟩
theorem onW_grown {w w1 : World} {R S : Nat} (v pl : Nat) (h : w.grownBy w1 (some R)) (hb : w.heap.size ≤ S) : w.grownBy (onW R S v pl w1) (some R) := by
  unfold onW
  refine upd_fresh ?_ hb 0 _
  split
  · exact h.trans (upd_set _ R 2 _)
  · exact h
theorem RS.set {w : World} {R : Nat} {p : Option Addr} {n c : Nat} {A : Option Nat} {op : Bool} (h : RS w R p n c A op) {b : Nat} (hb : b ≠ R) (j : Nat) (v : Value) : RS (w.setCell ⟨b, j, none⟩ v) R p n c A op := h.grown (upd_set w b j v) (by simpa using hb.symm)
theorem onW_RS {w : World} {R S : Nat} {p : Option Addr} {n c : Nat} {A : Option Nat} {op : Bool} (v pl : Nat) (h : RS w R p n c A op) (hb : S ≠ R) : RS (onW R S v pl w) R p n c (onA v pl A) op := by
  unfold onW onA
  refine RS.set ?_ hb 0 _
  split
  · exact h.off
  · exact h
theorem onW_Sn {w : World} {R S v : Nat} (pl : Nat) (h : Sn w S v) (hb : S ≠ R) : Sn (onW R S v pl w) S (v ||| 2 ^ pl) := by
  unfold onW
  refine Sn.set (v := v) ?_ _
  split
  · exact h.grown (upd_set w R 2 _) (by simpa using hb)
  · exact h
theorem onW_other {w : World} {R S v : Nat} (pl k : Nat) (hR : k ≠ R) (hS : k ≠ S) : (onW R S v pl w).heap[k]? = w.heap[k]? := by
  unfold onW
  rw [heap_setCell_other _ ⟨S, 0, none⟩ k _ hS]
  split
  · exact heap_setCell_other _ ⟨R, 2, none⟩ k _ hR
  · rfl
theorem onW_size (R S v pl : Nat) (w : World) : (onW R S v pl w).heap.size = w.heap.size := by
  unfold onW offW
  split <;> simp

/-! ### readOrigin -/
def Db (w : World) (D : Nat) (tx co ci : ByteArray) (st : Int) (uv : Value) : Prop := w.heap[D]? = some (.cells #[.string tx, .string co, .string ci, .int .u64 st, uv] 38 (0, 0))
section
variable {w w' : World} {D : Nat} {tx co ci : ByteArray} {st : Int} {uv : Value}
theorem Db.c (h : Db w D tx co ci st uv) (j : Nat) : w.cell? ⟨D, j, none⟩ = #[.string tx, .string co, .string ci, .int .u64 st, uv][j]? := cell_of_row w D j _ 38 (0, 0) h
theorem Db.fz (h : Db w D tx co ci st uv) (j : Nat) : w.frozen? ⟨D, j, none⟩ = false := frozen_of_row w D j _ 38 h
theorem Db.lt (h : Db w D tx co ci st uv) : D < w.heap.size := by
  rcases Nat.lt_or_ge D w.heap.size with hl | hl
  · exact hl
  · rw [Db, Array.getElem?_eq_none hl] at h; cases h
theorem Db.grown (h : Db w D tx co ci st uv) {row : Option Nat} (hg : w.grownBy w' row) (hr : some D ≠ row) : Db w' D tx co ci st uv := (hg.block D h.lt hr).trans h
theorem Db.set0 (h : Db w D tx co ci st uv) (x : ByteArray) : Db (w.setCell ⟨D, 0, none⟩ (.string x)) D x co ci st uv := heap_setCell_same w D 0 _ 38 _ h
theorem Db.set1 (h : Db w D tx co ci st uv) (x : ByteArray) : Db (w.setCell ⟨D, 1, none⟩ (.string x)) D tx x ci st uv := heap_setCell_same w D 1 _ 38 _ h
theorem Db.set2 (h : Db w D tx co ci st uv) (x : ByteArray) : Db (w.setCell ⟨D, 2, none⟩ (.string x)) D tx co x st uv := heap_setCell_same w D 2 _ 38 _ h
end
def OrOut (xs : List Int) (R S D n c v : Nat) (p : Option Addr) (A : Option Nat) (op : Bool) (K : ByteArray) (w : World) (e : Ending) (w' : World) : Prop :=
  (K = kCo ∧ e = .returned (.bool true) ∧ ∃ w2, (onW R S v 0 w).grownBy w2 (some R) ∧ RS w2 R p n c (stS xs (onA v 0 A)) op ∧ w' = w2.setCell ⟨D, 1, none⟩ (.string (stV xs (onA v 0 A)))) ∨
  (K = kCi ∧ e = .returned (.bool true) ∧ ∃ w2, (onW R S v 1 w).grownBy w2 (some R) ∧ RS w2 R p n c (stS xs (onA v 1 A)) op ∧ w' = w2.setCell ⟨D, 2, none⟩ (.string (stV xs (onA v 1 A)))) ∨
  (K ≠ kCo ∧ K ≠ kCi ∧ e = .returned (.bool false) ∧ w' = w)
theorem str_eq {K L : ByteArray} {l : List UInt8} (hl : L.data.toList = l) (h : K = L) : (K.toList == l) = true := by subst h; rw [ByteArray.toList_eq, hl]; exact beq_self_eq_true _
theorem str_ne {K L : ByteArray} {l : List UInt8} (hl : L.data.toList = l) (h : ¬ K = L) : (K.toList == l) = false := by
  rw [ByteArray.toList_eq]
  refine beq_eq_false_iff_ne.2 fun e => h ?_
  exact ByteArray.ext (Array.toList_inj.mp (by rw [e, hl]))
theorem kCi_ne : ¬ kCi = kCo := by decide
/-- what the methods ask of the data: as they lay at the entrance of the function at hand -/
structure En (w0 : World) (R n c : Nat) (p : Option Addr) (xs : List Int) : Prop where
  hn : n ≤ 2147483648
  hcap : n ≤ c
  hcb : c ≤ 9223372036854775807
  hx : xs.length = n
  dat : Dat w0 p n xs R
  vok : VOK w0 R n c p xs
theorem En.grown {w0 w : World} {R n c : Nat} {p : Option Addr} {xs : List Int} (h : En w0 R n c p xs) (hg : w0.grownBy w (some R)) : En w R n c p xs := ⟨h.hn, h.hcap, h.hcb, h.hx, h.dat.grown hg, h.vok.grown hg⟩

set_option maxHeartbeats 2000000 in
theorem originA (R S D n c v b o s q : Nat) (p : Option Addr) (xs : List Int) (A : Option Nat) (op : Bool) (w0 w : World) (tx co ci : ByteArray) (st : Int) (uv : Value)
    (hE : En w0 R n c p xs) (hG : w0.grownBy w (some R)) (hv : v < 16) (hSR : S ≠ R) (hDR : D ≠ R) (hSD : S ≠ D) (hS0 : w0.heap.size ≤ S) (hS : RS w R p n c A op) (hN : Sn w S v) (hD : Db w D tx co ci st uv)
    (hp : p = some ⟨b, o, none⟩) (hsq : s ≤ q) (hqn : q < n) :
    Calls Tryd.prog 40 #[.pointer (some ⟨R, 0, none⟩), .slice (some ⟨b, o + s, none⟩) (q - s) (c - s), .pointer (some ⟨D, 1, none⟩), .pointer (some ⟨S, 0, none⟩)] w fun e w' => OrOut xs R S D n c v p A op (strOfNums (sub xs s q)) w e w' := by
  subst hp
  have hEw := hE.grown hG
  have hl := hE.hx
  have kc := run_convert_bytes_arg (P := Tryd.prog) w 22 5 Tryd.underlying22 Tryd.underlying5 b (o + s) (q - s) (c - s) (sub xs s q) (sub_length xs s q hsq (by omega)) (fun i hi => by
      obtain ⟨b', o', hp', _, hcell⟩ := hEw.dat (s + i) (by omega)
      simp only [Option.some.injEq, Addr.mk.injEq, and_true] at hp'
      obtain ⟨rfl, rfl⟩ := hp'
      rw [sub_at xs s q i hi, Nat.add_assoc]
      exact hcell) 9 Tryd.underlying9
  have HO : Hid (∀ pl : Nat, pl < 4 → Calls Tryd.prog 41 #[.pointer (some ⟨S, 0, none⟩), .pointer (some ⟨R, 0, none⟩), .int .u64 pl] w fun e w' => e = .returned (.tuple #[]) ∧ w' = onW R S v pl w) :=
    fun pl hpl => onceA R S n c v pl _ A op w hv hpl hSR hS hN
  have HST : Hid (∀ pl : Nat, Calls Tryd.prog 42 #[.pointer (some ⟨R, 0, none⟩)] (onW R S v pl w) fun e w' => e = .returned (.string (stV xs (onA v pl A))) ∧ RS w' R (some ⟨b, o, none⟩) n c (stS xs (onA v pl A)) op ∧ (onW R S v pl w).grownBy w' (some R)) := fun pl => by
    have hg := hE.grown (onW_grown v pl hG hS0)
    exact stringA R n c _ xs (onA v pl A) op (onW R S v pl w) hg.hn hg.hcap hg.hcb hg.hx (onW_RS v pl hS hSR) hg.dat hg.vok
  have HDB : Hid (∀ pl w2, (onW R S v pl w).grownBy w2 (some R) → Db w2 D tx co ci st uv) := fun pl w2 hg => by
    have h1 : Db (onW R S v pl w) D tx co ci st uv := (onW_other pl D hDR hSD.symm).trans hD
    exact h1.grown hg (by simpa using hDR)
  clear hE hG hS hN hD hEw hl hS0
  generalize strOfNums (sub xs s q) = K at kc ⊢
  by_cases hK : K = kCo
  · subst hK
    have hb1 : (kCo.toList == [99, 111, 111, 114, 100, 105, 110, 97, 116, 111, 114]) = true := str_eq rfl rfl
    have h0 := HO.out 0 (by omega)
    have HO0 : Hid (Calls Tryd.prog 41 #[.pointer (some ⟨S, 0, none⟩), .pointer (some ⟨R, 0, none⟩), .int .u64 0] w fun e w' => e = .returned (.tuple #[]) ∧ w' = onW R S v 0 w) := h0
    clear h0
    go_enter Tryd.func40, Tryd.ntmps40
    go_wp2_with fail
    refine HO0.out.mono ?_
    rintro e w1 ⟨rfl, hw⟩; obtain rfl := hw.symm
    go_wp2_with fail
    refine (HST.out 0).mono ?_
    rintro e w2 ⟨rfl, hS2, hG2⟩
    have hd := HDB.out 0 w2 hG2
    have d1 := hd.c 1
    have e1 := hd.fz 1
    have HS2 : Hid (RS w2 R (some ⟨b, o, none⟩) n c (stS xs (onA v 0 A)) op) := hS2
    have HG2 : Hid ((onW R S v 0 w).grownBy w2 (some R)) := hG2
    clear hS2 hG2 hd
    simp at d1
    go_wp2_with fail
    go_ret
    exact .inl ⟨rfl, rfl, w2, HG2.out, HS2.out, rfl⟩
  · by_cases hK2 : K = kCi
    · subst hK2
      have hb1 : (kCi.toList == [99, 111, 111, 114, 100, 105, 110, 97, 116, 111, 114]) = false := str_ne (L := kCo) rfl kCi_ne
      have hb2 : (kCi.toList == [99, 111, 111, 114, 100, 105, 110, 97, 116, 111, 114, 95, 105, 100]) = true := str_eq rfl rfl
      have h0 := HO.out 1 (by omega)
      have HO0 : Hid (Calls Tryd.prog 41 #[.pointer (some ⟨S, 0, none⟩), .pointer (some ⟨R, 0, none⟩), .int .u64 1] w fun e w' => e = .returned (.tuple #[]) ∧ w' = onW R S v 1 w) := h0
      clear h0 hK
      go_enter Tryd.func40, Tryd.ntmps40
      go_wp2_with fail
      refine HO0.out.mono ?_
      rintro e w1 ⟨rfl, hw⟩; obtain rfl := hw.symm
      go_wp2_with fail
      refine (HST.out 1).mono ?_
      rintro e w2 ⟨rfl, hS2, hG2⟩
      have hd := HDB.out 1 w2 hG2
      have d1 := hd.c 2
      have e1 := hd.fz 2
      have HS2 : Hid (RS w2 R (some ⟨b, o, none⟩) n c (stS xs (onA v 1 A)) op) := hS2
      have HG2 : Hid ((onW R S v 1 w).grownBy w2 (some R)) := hG2
      clear hS2 hG2 hd
      simp at d1
      go_wp2_with fail
      go_ret
      exact .inr (.inl ⟨rfl, rfl, w2, HG2.out, HS2.out, rfl⟩)
    · have hb1 : (K.toList == [99, 111, 111, 114, 100, 105, 110, 97, 116, 111, 114]) = false := str_ne (L := kCo) rfl hK
      have hb2 : (K.toList == [99, 111, 111, 114, 100, 105, 110, 97, 116, 111, 114, 95, 105, 100]) = false := str_ne (L := kCi) rfl hK2
      have HK : Hid (K ≠ kCo ∧ K ≠ kCi) := ⟨hK, hK2⟩
      clear hK hK2
      go_enter Tryd.func40, Tryd.ntmps40
      go_wp2_with fail
      go_ret
      exact .inr (.inr ⟨HK.out.1, HK.out.2, rfl, rfl⟩)
end Go.Proofs.Qxb6605662aDoor
