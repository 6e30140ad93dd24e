import Derived.Test.Qxb6605477aDoorW3
namespace Go.Proofs.Qxb6605477aDoor
open Go.RowKit

set_option maxHeartbeats 400000 in
theorem law_big (p : Option Addr) (n c : Nat) (w : World) (hn : 1048576 < n) :
    Calls Tryd.prog 3 #[.slice p n c] w fun e w' => e = .returned (.bool true) ∧ Below w.heap.size w w' := by
  go_enter Tryd.func3, Tryd.ntmps3
  go_wp2
  go_ret
  exact ⟨rfl, Below.refl _ _⟩

set_option maxHeartbeats 400000 in
theorem law_nil (w : World) :
    Calls Tryd.prog 3 #[.slice none 0 0] w fun e w' => e = .returned (.bool true) ∧ Below w.heap.size w w' := by
  have hzz : ∀ w, Calls Tryd.prog 5 #[.slice none 0 0] w fun e w' => e = .returned (.bool true) ∧ w' = w := by
    intro w
    go_enter Tryd.func5, Tryd.ntmps5
    go_wp2
    go_ret
    exact ⟨rfl, rfl⟩
  go_enter Tryd.func3, Tryd.ntmps3
  go_wp2_with fail
  refine (hzz _).mono ?_
  rintro e w1 ⟨rfl, hw⟩; obtain rfl := hw.symm
  go_wp2_with fail
  refine (clone_nil _).mono ?_
  rintro e w1 ⟨rfl, hw⟩; obtain rfl := hw.symm
  go_wp2_with fail
  refine (model_nil _).mono ?_
  rintro e w1 ⟨rfl, hw⟩; obtain rfl := hw.symm
  go_wp2_with (first | (go_at_call 13; refine (parse_nil _).mono ?_; rintro e w2 ⟨rfl, hb⟩) | go_in)
  go_ret
  exact ⟨rfl, hb⟩

set_option maxHeartbeats 400000 in
theorem law_some (a : Addr) (n c : Nat) (xs : List Int) (w : World) (hn : n ≤ 1048576) (hx : xs.length = n) (hr : ∀ x ∈ xs, 0 ≤ x ∧ x < 256)
    (hc : ∀ i, i < n → w.cell? (a.add i) = some (.int .u8 (xs.getD i 0))) :
    Calls Tryd.prog 3 #[.slice (some a) n c] w fun e w' => e = .returned (.bool true) ∧ Below w.heap.size w w' := by
  have hzz : ∀ w, Calls Tryd.prog 5 #[.slice (some a) n c] w fun e w' => e = .returned (.bool true) ∧ w' = w := by
    intro w
    go_enter Tryd.func5, Tryd.ntmps5
    go_wp2
    go_ret
    exact ⟨rfl, rfl⟩
  obtain ⟨E, hE⟩ := exists_cut xs
  obtain ⟨T, hT⟩ := exists_trim xs E
  have hcl := clone_some a n c xs w hn hx hc
  have HR : Hid (∀ x ∈ xs, 0 ≤ x ∧ x < 256) := hr
  have HX : Hid (xs.length = n) := hx
  have HE : Hid (IsCut xs E) := hE
  have HT : Hid (IsTrim xs E T) := hT
  clear hr hx hE hT hc
  go_enter Tryd.func3, Tryd.ntmps3
  go_wp2_with fail
  refine (hzz _).mono ?_
  rintro e w1 ⟨rfl, hw⟩; obtain rfl := hw.symm
  go_wp2_with fail
  refine hcl.mono ?_
  rintro e w1 ⟨rfl, ho, hb⟩
  have hc1 : ∀ i, i < n → w1.cell? ((⟨w.heap.size, 0, none⟩ : Addr).add i) = some (.int .u8 (xs.getD i 0)) := by
    intro i hi
    have h := ho.cellAt i (by omega)
    have hl := HX.out
    rw [List.getElem?_map, List.getElem?_eq_getElem (by omega)] at h
    rw [List.getD_eq_getElem?_getD, List.getElem?_eq_getElem (by omega)]
    rw [Go.WideShapes.add_plain, Nat.zero_add]
    simpa using h
  have hm := model_any ⟨w.heap.size, 0, none⟩ n n E T xs w1 hn HX.out HE.out HT.out hc1
  have hp := parse_any ⟨w.heap.size, 0, none⟩ n n E T xs w1 hn (Nat.le_refl _) hn HX.out HR.out HE.out HT.out hc1
  have HP : Hid (Calls Tryd.prog 13 #[.slice (some ⟨w.heap.size, 0, none⟩) n n] w1 fun e w' => AnsE xs T e ∧ Below w1.heap.size w1 w') := hp
  clear ho hcl hzz hp hc1
  go_wp2_with fail
  refine hm.mono ?_
  rintro e w2 ⟨⟨r, b, rfl, hA⟩, hw⟩; obtain rfl := hw.symm
  have HA : Hid (Ans xs T r b) := hA
  clear hA hm
  go_wp2_with (first | (go_at_call 13; refine HP.out.mono ?_; rintro e w2 ⟨⟨r', b', he, hA'⟩, hb'⟩; obtain ⟨h1, h2⟩ := Ans.unique HA.out hA'; subst he; subst h1; subst h2) | go_in)
  go_ret
  exact ⟨rfl, hb.trans (hb'.mono hb.size)⟩
end Go.Proofs.Qxb6605477aDoor
