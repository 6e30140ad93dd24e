import Derived.Test.Qxb6606027aDoorS2
namespace Go.Proofs.Qxb6606027aDoor
open Go.RowKit
set_option linter.unusedSimpArgs false

/-! ### the automaton -/
def stp (s : Nat) (cl c : Int) : Option (Nat × Int) :=
  match s with
  | 0 => if c = 91 then some (1, cl) else if bl c = true then some (0, cl) else none
  | 1 => if c = 91 then none else if c = 93 then none else if bl c = true then some (1, cl) else some (2, cl)
  | 2 => if c = 91 then none else if c = 93 then some (3, cl) else some (2, cl)
  | 3 => if c = 58 then some (4, cl) else none
  | 4 => if c = 60 then some (5, cl) else if bl c = true then some (4, cl) else some (7, cl)
  | 5 => if c = 62 then some (6, cl) else some (5, cl)
  | 6 => if bl c = true then some (8, cl) else none
  | 7 => if bl c = true then some (8, cl) else some (7, cl)
  | 8 => if c = 34 then some (9, c) else if c = 39 then some (9, c) else if c = 40 then some (9, 41) else if bl c = true then some (8, cl) else none
  | 9 => if c = cl then some (10, cl) else some (9, cl)
  | _ => if bl c = true then some (10, cl) else if c = cl then some (10, cl) else some (9, cl)
def fin (s : Nat) : Bool := s == 6 || s == 7 || s == 8 || s == 10
def au : List Int → Nat → Int → Bool
  | [], s, _ => fin s
  | c :: r, s, cl => match stp s cl c with
    | none => false
    | some (s', cl') => au r s' cl'
theorem au_at (xs : List Int) (k s : Nat) (cl : Int) (h : k < xs.length) : au (xs.drop k) s cl = (match stp s cl (xs.getD k 0) with | none => false | some (s', cl') => au (xs.drop (k + 1)) s' cl') := by
  rw [List.drop_eq_getElem_cons h, List.getD_eq_getElem?_getD, List.getElem?_eq_getElem h]
  rfl
theorem au_none {xs : List Int} {k s : Nat} {cl x : Int} {A : Bool} (h : k < xs.length) (hx : xs.getD k 0 = x) (hv : au (xs.drop k) s cl = A) (hs : stp s cl x = none) : A = false := by
  rw [← hv, au_at xs k s cl h, hx, hs]
theorem au_some {xs : List Int} {k s s' : Nat} {cl cl' x : Int} {A : Bool} (h : k < xs.length) (hx : xs.getD k 0 = x) (hv : au (xs.drop k) s cl = A) (hs : stp s cl x = some (s', cl')) : au (xs.drop (k + 1)) s' cl' = A := by
  rw [← hv, au_at xs k s cl h, hx, hs]

set_option maxHeartbeats 40000000 in
set_option maxRecDepth 100000 in
theorem auto_some (b o n c : Nat) (xs : List Int) (w : World) (hn0 : 0 < n) (hnb : n ≤ 1048576) (h : Sl w (some ⟨b, o, none⟩) n c xs) :
    Calls Tryd.prog 10 #[.slice (some ⟨b, o, none⟩) n c] w fun e w' => e = .returned (.bool (au xs 0 0)) ∧ w' = w := by
  have HX : Hid (xs.length = n) := h.len
  have HI : Hid (∀ i, 0 ≤ xs.getD i 0 ∧ xs.getD i 0 < 256) := h.inB
  have HC : Hid (∀ i, i < n → w.cell? ⟨b, o + i, none⟩ = some (.int .u8 (xs.getD i 0))) := by
    obtain ⟨b', o', e, hc⟩ := h.at hn0
    cases e
    exact hc
  clear h
  obtain ⟨A, HA⟩ : ∃ A, Hid (au xs 0 0 = A) := ⟨_, rfl⟩
  rw [HA.out]
  go_enter Tryd.func10, Tryd.ntmps10
  go_wp2
  go_loop [3, 4, 5] (fun s l i => ∃ (k S : Nat) (cl : Int), k ≤ n ∧ S ≤ 10 ∧ s = .int .i64 S ∧ l = .int .u8 cl ∧ i = .int .i64 k ∧ Hid (au (xs.drop k) S cl = A) ∧ 0 ≤ cl ∧ cl < 256) (fun _ _ i => n - (intOf i).toNat)
  case atStart => exact ⟨0, 0, 0, by omega, by omega, rfl, rfl, rfl, HA, by omega, by omega⟩
  case round =>
    obtain ⟨k, S, cl, hk, hS, rfl, rfl, rfl, HV, hl0, hl1⟩ := hrel
    by_cases hlt : k < n
    · obtain ⟨x, HXK⟩ : ∃ x, Hid (xs.getD k 0 = x) := ⟨_, rfl⟩
      have hck := HC.out k (by omega)
      have hkx : Hid (k < xs.length) := by show k < xs.length; rw [HX.out]; exact hlt
      rw [HXK.out] at hck
      have hx0 : 0 ≤ x := by have := (HI.out k).1; rw [HXK.out] at this; exact this
      have hx1 : x < 256 := by have := (HI.out k).2; rw [HXK.out] at this; exact this
      have hki : (k : Int) < (n : Int) := by omega
      have HBc : Hid (Calls Tryd.prog 14 #[.int .u8 x] w fun e w' => e = .returned (.bool (bl x)) ∧ w' = w) := blank_any x w hx0 hx1
      obtain ⟨B, HBL⟩ : ∃ B, Hid (bl x = B) := ⟨_, rfl⟩
      rw [HBL.out] at HBc
      have hcase : S = 0 ∨ S = 1 ∨ S = 2 ∨ S = 3 ∨ S = 4 ∨ S = 5 ∨ S = 6 ∨ S = 7 ∨ S = 8 ∨ S = 9 ∨ S = 10 := by omega
      rcases hcase with rfl | rfl | rfl | rfl | rfl | rfl | rfl | rfl | rfl | rfl | rfl
      · rcases Decidable.em (x = 91) with y91 | n91
        · have q91 : (x == 91) = true := beq_iff_eq.2 y91
          have HN : Hid (au (xs.drop (k + 1)) 1 cl = A) := au_some hkx.out HXK.out HV.out (by simp [stp, y91])
          clear y91
          go_wp2_with fail
          refine HBc.out.mono ?_
          rintro e w' ⟨rfl, hw⟩
          obtain rfl := hw.symm
          go_wp2
          go_round
          case rel => exact ⟨k + 1, 1, cl, by omega, by omega, rfl, rfl, by go_num, HN, hl0, hl1⟩
          case measure => simp [intOf]; omega
        · have q91 : (x == 91) = false := beq_eq_false_iff_ne.2 n91
          cases B with
          | true =>
            have HN : Hid (au (xs.drop (k + 1)) 0 cl = A) := au_some hkx.out HXK.out HV.out (by simp [stp, n91, HBL.out])
            clear n91
            go_wp2_with fail
            refine HBc.out.mono ?_
            rintro e w' ⟨rfl, hw⟩
            obtain rfl := hw.symm
            go_wp2
            go_round
            case rel => exact ⟨k + 1, 0, cl, by omega, by omega, rfl, rfl, by go_num, HN, hl0, hl1⟩
            case measure => simp [intOf]; omega
          | false =>
            have HN : Hid (A = false) := au_none hkx.out HXK.out HV.out (by simp [stp, n91, HBL.out])
            clear n91
            go_wp2_with fail
            refine HBc.out.mono ?_
            rintro e w' ⟨rfl, hw⟩
            obtain rfl := hw.symm
            go_wp2
            go_ret
            exact ⟨by rw [HN.out]; rfl, rfl⟩
      · rcases Decidable.em (x = 91) with y91 | n91
        · have q91 : (x == 91) = true := beq_iff_eq.2 y91
          have HN : Hid (A = false) := au_none hkx.out HXK.out HV.out (by simp [stp, y91])
          clear y91
          go_wp2_with fail
          refine HBc.out.mono ?_
          rintro e w' ⟨rfl, hw⟩
          obtain rfl := hw.symm
          go_wp2
          go_ret
          exact ⟨by rw [HN.out]; rfl, rfl⟩
        · have q91 : (x == 91) = false := beq_eq_false_iff_ne.2 n91
          rcases Decidable.em (x = 93) with y93 | n93
          · have q93 : (x == 93) = true := beq_iff_eq.2 y93
            have HN : Hid (A = false) := au_none hkx.out HXK.out HV.out (by simp [stp, n91, y93])
            clear n91 y93
            go_wp2_with fail
            refine HBc.out.mono ?_
            rintro e w' ⟨rfl, hw⟩
            obtain rfl := hw.symm
            go_wp2
            go_ret
            exact ⟨by rw [HN.out]; rfl, rfl⟩
          · have q93 : (x == 93) = false := beq_eq_false_iff_ne.2 n93
            cases B with
            | true =>
              have HN : Hid (au (xs.drop (k + 1)) 1 cl = A) := au_some hkx.out HXK.out HV.out (by simp [stp, n91, n93, HBL.out])
              clear n91 n93
              go_wp2_with fail
              refine HBc.out.mono ?_
              rintro e w' ⟨rfl, hw⟩
              obtain rfl := hw.symm
              go_wp2
              go_round
              case rel => exact ⟨k + 1, 1, cl, by omega, by omega, rfl, rfl, by go_num, HN, hl0, hl1⟩
              case measure => simp [intOf]; omega
            | false =>
              have HN : Hid (au (xs.drop (k + 1)) 2 cl = A) := au_some hkx.out HXK.out HV.out (by simp [stp, n91, n93, HBL.out])
              clear n91 n93
              go_wp2_with fail
              refine HBc.out.mono ?_
              rintro e w' ⟨rfl, hw⟩
              obtain rfl := hw.symm
              go_wp2
              go_round
              case rel => exact ⟨k + 1, 2, cl, by omega, by omega, rfl, rfl, by go_num, HN, hl0, hl1⟩
              case measure => simp [intOf]; omega
      · rcases Decidable.em (x = 91) with y91 | n91
        · have q91 : (x == 91) = true := beq_iff_eq.2 y91
          have HN : Hid (A = false) := au_none hkx.out HXK.out HV.out (by simp [stp, y91])
          clear y91
          go_wp2_with fail
          refine HBc.out.mono ?_
          rintro e w' ⟨rfl, hw⟩
          obtain rfl := hw.symm
          go_wp2
          go_ret
          exact ⟨by rw [HN.out]; rfl, rfl⟩
        · have q91 : (x == 91) = false := beq_eq_false_iff_ne.2 n91
          rcases Decidable.em (x = 93) with y93 | n93
          · have q93 : (x == 93) = true := beq_iff_eq.2 y93
            have HN : Hid (au (xs.drop (k + 1)) 3 cl = A) := au_some hkx.out HXK.out HV.out (by simp [stp, n91, y93])
            clear n91 y93
            go_wp2_with fail
            refine HBc.out.mono ?_
            rintro e w' ⟨rfl, hw⟩
            obtain rfl := hw.symm
            go_wp2
            go_round
            case rel => exact ⟨k + 1, 3, cl, by omega, by omega, rfl, rfl, by go_num, HN, hl0, hl1⟩
            case measure => simp [intOf]; omega
          · have q93 : (x == 93) = false := beq_eq_false_iff_ne.2 n93
            have HN : Hid (au (xs.drop (k + 1)) 2 cl = A) := au_some hkx.out HXK.out HV.out (by simp [stp, n91, n93])
            clear n91 n93
            go_wp2_with fail
            refine HBc.out.mono ?_
            rintro e w' ⟨rfl, hw⟩
            obtain rfl := hw.symm
            go_wp2
            go_round
            case rel => exact ⟨k + 1, 2, cl, by omega, by omega, rfl, rfl, by go_num, HN, hl0, hl1⟩
            case measure => simp [intOf]; omega
      · rcases Decidable.em (x = 58) with y58 | n58
        · have q58 : (x == 58) = true := beq_iff_eq.2 y58
          have HN : Hid (au (xs.drop (k + 1)) 4 cl = A) := au_some hkx.out HXK.out HV.out (by simp [stp, y58])
          clear y58
          go_wp2_with fail
          refine HBc.out.mono ?_
          rintro e w' ⟨rfl, hw⟩
          obtain rfl := hw.symm
          go_wp2
          go_round
          case rel => exact ⟨k + 1, 4, cl, by omega, by omega, rfl, rfl, by go_num, HN, hl0, hl1⟩
          case measure => simp [intOf]; omega
        · have q58 : (x == 58) = false := beq_eq_false_iff_ne.2 n58
          have HN : Hid (A = false) := au_none hkx.out HXK.out HV.out (by simp [stp, n58])
          clear n58
          go_wp2_with fail
          refine HBc.out.mono ?_
          rintro e w' ⟨rfl, hw⟩
          obtain rfl := hw.symm
          go_wp2
          go_ret
          exact ⟨by rw [HN.out]; rfl, rfl⟩
      · rcases Decidable.em (x = 60) with y60 | n60
        · have q60 : (x == 60) = true := beq_iff_eq.2 y60
          have HN : Hid (au (xs.drop (k + 1)) 5 cl = A) := au_some hkx.out HXK.out HV.out (by simp [stp, y60])
          clear y60
          go_wp2_with fail
          refine HBc.out.mono ?_
          rintro e w' ⟨rfl, hw⟩
          obtain rfl := hw.symm
          go_wp2
          go_round
          case rel => exact ⟨k + 1, 5, cl, by omega, by omega, rfl, rfl, by go_num, HN, hl0, hl1⟩
          case measure => simp [intOf]; omega
        · have q60 : (x == 60) = false := beq_eq_false_iff_ne.2 n60
          cases B with
          | true =>
            have HN : Hid (au (xs.drop (k + 1)) 4 cl = A) := au_some hkx.out HXK.out HV.out (by simp [stp, n60, HBL.out])
            clear n60
            go_wp2_with fail
            refine HBc.out.mono ?_
            rintro e w' ⟨rfl, hw⟩
            obtain rfl := hw.symm
            go_wp2
            go_round
            case rel => exact ⟨k + 1, 4, cl, by omega, by omega, rfl, rfl, by go_num, HN, hl0, hl1⟩
            case measure => simp [intOf]; omega
          | false =>
            have HN : Hid (au (xs.drop (k + 1)) 7 cl = A) := au_some hkx.out HXK.out HV.out (by simp [stp, n60, HBL.out])
            clear n60
            go_wp2_with fail
            refine HBc.out.mono ?_
            rintro e w' ⟨rfl, hw⟩
            obtain rfl := hw.symm
            go_wp2
            go_round
            case rel => exact ⟨k + 1, 7, cl, by omega, by omega, rfl, rfl, by go_num, HN, hl0, hl1⟩
            case measure => simp [intOf]; omega
      · rcases Decidable.em (x = 62) with y62 | n62
        · have q62 : (x == 62) = true := beq_iff_eq.2 y62
          have HN : Hid (au (xs.drop (k + 1)) 6 cl = A) := au_some hkx.out HXK.out HV.out (by simp [stp, y62])
          clear y62
          go_wp2_with fail
          refine HBc.out.mono ?_
          rintro e w' ⟨rfl, hw⟩
          obtain rfl := hw.symm
          go_wp2
          go_round
          case rel => exact ⟨k + 1, 6, cl, by omega, by omega, rfl, rfl, by go_num, HN, hl0, hl1⟩
          case measure => simp [intOf]; omega
        · have q62 : (x == 62) = false := beq_eq_false_iff_ne.2 n62
          have HN : Hid (au (xs.drop (k + 1)) 5 cl = A) := au_some hkx.out HXK.out HV.out (by simp [stp, n62])
          clear n62
          go_wp2_with fail
          refine HBc.out.mono ?_
          rintro e w' ⟨rfl, hw⟩
          obtain rfl := hw.symm
          go_wp2
          go_round
          case rel => exact ⟨k + 1, 5, cl, by omega, by omega, rfl, rfl, by go_num, HN, hl0, hl1⟩
          case measure => simp [intOf]; omega
      · cases B with
        | true =>
          have HN : Hid (au (xs.drop (k + 1)) 8 cl = A) := au_some hkx.out HXK.out HV.out (by simp [stp, HBL.out])
          skip
          go_wp2_with fail
          refine HBc.out.mono ?_
          rintro e w' ⟨rfl, hw⟩
          obtain rfl := hw.symm
          go_wp2
          go_round
          case rel => exact ⟨k + 1, 8, cl, by omega, by omega, rfl, rfl, by go_num, HN, hl0, hl1⟩
          case measure => simp [intOf]; omega
        | false =>
          have HN : Hid (A = false) := au_none hkx.out HXK.out HV.out (by simp [stp, HBL.out])
          skip
          go_wp2_with fail
          refine HBc.out.mono ?_
          rintro e w' ⟨rfl, hw⟩
          obtain rfl := hw.symm
          go_wp2
          go_ret
          exact ⟨by rw [HN.out]; rfl, rfl⟩
      · cases B with
        | true =>
          have HN : Hid (au (xs.drop (k + 1)) 8 cl = A) := au_some hkx.out HXK.out HV.out (by simp [stp, HBL.out])
          skip
          go_wp2_with fail
          refine HBc.out.mono ?_
          rintro e w' ⟨rfl, hw⟩
          obtain rfl := hw.symm
          go_wp2
          go_round
          case rel => exact ⟨k + 1, 8, cl, by omega, by omega, rfl, rfl, by go_num, HN, hl0, hl1⟩
          case measure => simp [intOf]; omega
        | false =>
          have HN : Hid (au (xs.drop (k + 1)) 7 cl = A) := au_some hkx.out HXK.out HV.out (by simp [stp, HBL.out])
          skip
          go_wp2_with fail
          refine HBc.out.mono ?_
          rintro e w' ⟨rfl, hw⟩
          obtain rfl := hw.symm
          go_wp2
          go_round
          case rel => exact ⟨k + 1, 7, cl, by omega, by omega, rfl, rfl, by go_num, HN, hl0, hl1⟩
          case measure => simp [intOf]; omega
      · rcases Decidable.em (x = 34) with y34 | n34
        · have q34 : (x == 34) = true := beq_iff_eq.2 y34
          have HN : Hid (au (xs.drop (k + 1)) 9 x = A) := au_some hkx.out HXK.out HV.out (by simp [stp, y34])
          clear y34
          go_wp2_with fail
          refine HBc.out.mono ?_
          rintro e w' ⟨rfl, hw⟩
          obtain rfl := hw.symm
          go_wp2
          go_round
          case rel => exact ⟨k + 1, 9, x, by omega, by omega, rfl, rfl, by go_num, HN, hx0, hx1⟩
          case measure => simp [intOf]; omega
        · have q34 : (x == 34) = false := beq_eq_false_iff_ne.2 n34
          rcases Decidable.em (x = 39) with y39 | n39
          · have q39 : (x == 39) = true := beq_iff_eq.2 y39
            have HN : Hid (au (xs.drop (k + 1)) 9 x = A) := au_some hkx.out HXK.out HV.out (by simp [stp, n34, y39])
            clear n34 y39
            go_wp2_with fail
            refine HBc.out.mono ?_
            rintro e w' ⟨rfl, hw⟩
            obtain rfl := hw.symm
            go_wp2
            go_round
            case rel => exact ⟨k + 1, 9, x, by omega, by omega, rfl, rfl, by go_num, HN, hx0, hx1⟩
            case measure => simp [intOf]; omega
          · have q39 : (x == 39) = false := beq_eq_false_iff_ne.2 n39
            rcases Decidable.em (x = 40) with y40 | n40
            · have q40 : (x == 40) = true := beq_iff_eq.2 y40
              have HN : Hid (au (xs.drop (k + 1)) 9 41 = A) := au_some hkx.out HXK.out HV.out (by simp [stp, n34, n39, y40])
              clear n34 n39 y40
              go_wp2_with fail
              refine HBc.out.mono ?_
              rintro e w' ⟨rfl, hw⟩
              obtain rfl := hw.symm
              go_wp2
              go_round
              case rel => exact ⟨k + 1, 9, 41, by omega, by omega, rfl, rfl, by go_num, HN, by omega, by omega⟩
              case measure => simp [intOf]; omega
            · have q40 : (x == 40) = false := beq_eq_false_iff_ne.2 n40
              cases B with
              | true =>
                have HN : Hid (au (xs.drop (k + 1)) 8 cl = A) := au_some hkx.out HXK.out HV.out (by simp [stp, n34, n39, n40, HBL.out])
                clear n34 n39 n40
                go_wp2_with fail
                refine HBc.out.mono ?_
                rintro e w' ⟨rfl, hw⟩
                obtain rfl := hw.symm
                go_wp2
                go_round
                case rel => exact ⟨k + 1, 8, cl, by omega, by omega, rfl, rfl, by go_num, HN, hl0, hl1⟩
                case measure => simp [intOf]; omega
              | false =>
                have HN : Hid (A = false) := au_none hkx.out HXK.out HV.out (by simp [stp, n34, n39, n40, HBL.out])
                clear n34 n39 n40
                go_wp2_with fail
                refine HBc.out.mono ?_
                rintro e w' ⟨rfl, hw⟩
                obtain rfl := hw.symm
                go_wp2
                go_ret
                exact ⟨by rw [HN.out]; rfl, rfl⟩
      · rcases Decidable.em (x = cl) with ycl | ncl
        · have qcl : (x == cl) = true := beq_iff_eq.2 ycl
          have HN : Hid (au (xs.drop (k + 1)) 10 cl = A) := au_some hkx.out HXK.out HV.out (by simp [stp, ycl])
          clear ycl
          go_wp2_with fail
          refine HBc.out.mono ?_
          rintro e w' ⟨rfl, hw⟩
          obtain rfl := hw.symm
          go_wp2
          go_round
          case rel => exact ⟨k + 1, 10, cl, by omega, by omega, rfl, rfl, by go_num, HN, hl0, hl1⟩
          case measure => simp [intOf]; omega
        · have qcl : (x == cl) = false := beq_eq_false_iff_ne.2 ncl
          have HN : Hid (au (xs.drop (k + 1)) 9 cl = A) := au_some hkx.out HXK.out HV.out (by simp [stp, ncl])
          clear ncl
          go_wp2_with fail
          refine HBc.out.mono ?_
          rintro e w' ⟨rfl, hw⟩
          obtain rfl := hw.symm
          go_wp2
          go_round
          case rel => exact ⟨k + 1, 9, cl, by omega, by omega, rfl, rfl, by go_num, HN, hl0, hl1⟩
          case measure => simp [intOf]; omega
      · cases B with
        | true =>
          have HN : Hid (au (xs.drop (k + 1)) 10 cl = A) := au_some hkx.out HXK.out HV.out (by simp [stp, HBL.out])
          skip
          go_wp2_with fail
          refine HBc.out.mono ?_
          rintro e w' ⟨rfl, hw⟩
          obtain rfl := hw.symm
          go_wp2
          go_round
          case rel => exact ⟨k + 1, 10, cl, by omega, by omega, rfl, rfl, by go_num, HN, hl0, hl1⟩
          case measure => simp [intOf]; omega
        | false =>
          rcases Decidable.em (x = cl) with ycl | ncl
          · have qcl : (x == cl) = true := beq_iff_eq.2 ycl
            have HN : Hid (au (xs.drop (k + 1)) 10 cl = A) := au_some hkx.out HXK.out HV.out (by simp [stp, HBL.out, ycl])
            clear ycl
            go_wp2_with fail
            refine HBc.out.mono ?_
            rintro e w' ⟨rfl, hw⟩
            obtain rfl := hw.symm
            go_wp2
            go_round
            case rel => exact ⟨k + 1, 10, cl, by omega, by omega, rfl, rfl, by go_num, HN, hl0, hl1⟩
            case measure => simp [intOf]; omega
          · have qcl : (x == cl) = false := beq_eq_false_iff_ne.2 ncl
            have HN : Hid (au (xs.drop (k + 1)) 9 cl = A) := au_some hkx.out HXK.out HV.out (by simp [stp, HBL.out, ncl])
            clear ncl
            go_wp2_with fail
            refine HBc.out.mono ?_
            rintro e w' ⟨rfl, hw⟩
            obtain rfl := hw.symm
            go_wp2
            go_round
            case rel => exact ⟨k + 1, 9, cl, by omega, by omega, rfl, rfl, by go_num, HN, hl0, hl1⟩
            case measure => simp [intOf]; omega
    · have HN : Hid (A = fin S) := by
        have h := HV.out
        rw [List.drop_eq_nil_of_le (by rw [HX.out]; omega)] at h
        exact h.symm
      have hcase : S = 0 ∨ S = 1 ∨ S = 2 ∨ S = 3 ∨ S = 4 ∨ S = 5 ∨ S = 6 ∨ S = 7 ∨ S = 8 ∨ S = 9 ∨ S = 10 := by omega
      rcases hcase with rfl | rfl | rfl | rfl | rfl | rfl | rfl | rfl | rfl | rfl | rfl
      all_goals
        go_wp2
        go_ret
        exact ⟨by rw [HN.out]; rfl, rfl⟩
set_option maxHeartbeats 1000000 in
theorem auto_zero (p : Option Addr) (c : Nat) (w : World) :
    Calls Tryd.prog 10 #[.slice p 0 c] w fun e w' => e = .returned (.bool (au [] 0 0)) ∧ w' = w := by
  go_enter Tryd.func10, Tryd.ntmps10
  go_wp2
  go_loop [3, 4, 5] (fun s l i => s = .int .i64 0 ∧ l = .int .u8 0 ∧ i = .int .i64 0) (fun _ _ _ => 0)
  case atStart => exact ⟨rfl, rfl, rfl⟩
  case round =>
    obtain ⟨rfl, rfl, rfl⟩ := hrel
    go_wp2
    go_ret
    exact ⟨rfl, rfl⟩
theorem auto_any (p : Option Addr) (n c : Nat) (xs : List Int) (w : World) (hnb : n ≤ 1048576) (h : Sl w p n c xs) :
    Calls Tryd.prog 10 #[.slice p n c] w fun e w' => e = .returned (.bool (au xs 0 0)) ∧ w' = w := by
  by_cases hn : 0 < n
  · obtain ⟨b, o, rfl, -⟩ := h.at hn
    exact auto_some b o n c xs w hn hnb h
  · obtain rfl : n = 0 := by omega
    obtain rfl : xs = [] := List.eq_nil_of_length_eq_zero h.len
    exact auto_zero p c w
end Go.Proofs.Qxb6606027aDoor
