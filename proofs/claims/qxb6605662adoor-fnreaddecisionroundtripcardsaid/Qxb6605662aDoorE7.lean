import Derived.Test.Qxb6605662aDoorE4
set_option linter.unusedVariables false
set_option linter.unusedSimpArgs false
namespace Go.Proofs.Qxb6605662aDoor
open Go.RowKit

theorem ws34 : ws 34 = false := by decide
theorem key_at {xs b : List Int} {W K : ByteArray} {p : Nat} (hW : Blank (nums W)) (hK : PT K) (h : At xs p (nums W ++ (qs K ++ (cl W ++ b)))) :
    ∃ s q m, keyP xs p = some (s, q, m) ∧ strOfNums (sub xs s q) = K ∧ At xs m (nums W ++ b) := by
  have e : qs K ++ (cl W ++ b) = 34 :: (nums K ++ ([34] ++ (cl W ++ b))) := by unfold qs; simp
  have h' : At xs p (nums W ++ 34 :: (nums K ++ ([34] ++ (cl W ++ b)))) := by rw [← e]; exact h
  obtain ⟨e1, e2⟩ := sk_at hW ws34 h'
  rw [← e] at e2
  obtain ⟨f1, f2, f3⟩ := pl_at hK e2
  have f4 : At xs (p + (nums W).length + 1 + K.size + 1) (nums W ++ 58 :: (nums W ++ b)) := by
    have : cl W ++ b = nums W ++ 58 :: (nums W ++ b) := by unfold cl; simp
    rw [← this]; exact f2
  obtain ⟨g1, _, _, g4, _⟩ := ex_at hW (by decide) f4
  refine ⟨p + (nums W).length + 1, p + (nums W).length + 1 + K.size, _, ?_, ?_, g4⟩
  · unfold keyP
    rw [e1, f1]
    simp only
    rw [g1]
    rfl
  · rw [f3, strOf_nums]
theorem str_at {xs b : List Int} {W s : ByteArray} {m : Nat} (hW : Blank (nums W)) (hs : PT s) (h : At xs m (nums W ++ (qs s ++ b))) :
    ∃ x y, stR xs (some m) = some (x, y) ∧ strOfNums (sub xs x y) = s ∧ At xs (y + 1) b := by
  have e : qs s ++ b = 34 :: (nums s ++ ([34] ++ b)) := by unfold qs; simp
  have h' : At xs m (nums W ++ 34 :: (nums s ++ ([34] ++ b))) := by rw [← e]; exact h
  obtain ⟨e1, e2⟩ := sk_at hW ws34 h'
  rw [← e] at e2
  obtain ⟨f1, f2, f3⟩ := pl_at hs e2
  exact ⟨_, _, by simp only [stR]; rw [e1]; exact f1, by rw [f3, strOf_nums], f2⟩
/-! ### the list of numbers -/
def tailE (W : ByteArray) : List Int → List Int
  | [] => []
  | u :: us => nums W ++ ([44] ++ (nums W ++ (dn u.toNat ++ tailE W us)))
theorem tailE_snoc (W : ByteArray) (us : List Int) (u : Int) : tailE W (us ++ [u]) = tailE W us ++ (nums W ++ ([44] ++ (nums W ++ dn u.toNat))) := by
  induction us with
  | nil => simp [tailE]
  | cons a us ih => simp only [List.cons_append, tailE, ih, List.append_assoc]
theorem take_snoc (us : List Int) (j : Nat) (h : j < us.length) : us.take (j + 1) = us.take j ++ [us.getD j 0] := by
  rw [List.take_succ_eq_append_getElem h, List.getD_eq_getElem?_getD, List.getElem?_eq_getElem h]
  rfl
theorem elsN_eq (W : ByteArray) (u0 : Int) (us : List Int) : ∀ j, j ≤ us.length → elsN W (u0 :: us) (j + 1) = nums W ++ (dn u0.toNat ++ tailE W (us.take j)) := by
  intro j
  induction j with
  | zero => intro _; simp [elsN, tailE]
  | succ j ih =>
    intro h
    rw [elsN, ih (by omega), take_snoc us j (by omega), tailE_snoc, if_pos (by omega)]
    simp
theorem tailE_le (W : ByteArray) (us : List Int) : us.length ≤ (tailE W us).length := by
  induction us with
  | nil => simp [tailE]
  | cons a r ih => simp [tailE]; omega
theorem nodig {W : ByteArray} (hW : Blank (nums W)) {c : Int} (hc : isd c = false) (b : List Int) : ∃ d t, nums W ++ c :: b = d :: t ∧ isd d = false := by
  cases hn : nums W with
  | nil => exact ⟨c, b, rfl, hc⟩
  | cons a l =>
    refine ⟨a, l ++ c :: b, rfl, ?_⟩
    have := hW a (by rw [hn]; exact List.mem_cons_self ..)
    unfold ws at this
    rw [isd_no]
    simp at this
    omega
theorem hdA_at {xs b : List Int} {W : ByteArray} (hW : Blank (nums W)) : ∀ (rem : List Int) (g k : Nat) (acc : List Int), (∀ u ∈ rem, 0 ≤ u ∧ u < 18446744073709551616) → rem.length ≤ g → At xs k (tailE W rem ++ (nums W ++ 93 :: b)) →
    ∃ m, hdA xs g (some k) false acc = some (m, acc ++ rem) ∧ At xs m b := by
  intro rem
  induction rem with
  | nil =>
    intro g k acc _ _ h
    obtain ⟨_, g2, _, g4, g5⟩ := ex_at (c := 93) hW (by decide) h
    refine ⟨_, ?_, g4⟩
    unfold hdA
    simp only
    rw [g2, if_pos rfl, g5, List.append_nil]
  | cons u rem ih =>
    intro g k acc hu hg h
    have hu0 := hu u (List.mem_cons_self ..)
    have h1 : At xs k (nums W ++ 44 :: (nums W ++ (dn u.toNat ++ (tailE W rem ++ (nums W ++ 93 :: b))))) := by
      have e : tailE W (u :: rem) ++ (nums W ++ 93 :: b) = nums W ++ 44 :: (nums W ++ (dn u.toNat ++ (tailE W rem ++ (nums W ++ 93 :: b)))) := by simp [tailE]
      rw [← e]; exact h
    obtain ⟨g1, _, g3, g4, _⟩ := ex_at (c := 44) hW (by decide) h1
    obtain ⟨g', rfl⟩ : ∃ g', g = g' + 1 := ⟨g - 1, by simp at hg; omega⟩
    have hd : ∃ d t, tailE W rem ++ (nums W ++ 93 :: b) = d :: t ∧ isd d = false := by
      cases rem with
      | nil => exact nodig hW (by decide) b
      | cons a r =>
        have := nodig hW (c := 44) (by decide) (nums W ++ (dn a.toNat ++ (tailE W r ++ (nums W ++ 93 :: b))))
        simpa [tailE] using this
    obtain ⟨d, t, hdt, hdd⟩ := hd
    rw [hdt] at g4
    obtain ⟨f1, f2⟩ := ui_at hW (by omega) hdd g4
    rw [← hdt] at f2
    obtain ⟨m, e1, e2⟩ := ih g' _ (acc ++ [u]) (fun v hv => hu v (List.mem_cons_of_mem _ hv)) (by simpa using hg) f2
    refine ⟨m, ?_, e2⟩
    unfold hdA
    simp only
    rw [(g3 93 (by decide)).1, g1]
    simp only [Bool.false_eq_true, if_false]
    rw [arrT_succ, f1]
    simp only
    rw [show ((u.toNat : Nat) : Int) = u by omega, e1]
    simp
theorem arr_at {xs b : List Int} {W : ByteArray} {us : List Int} {k : Nat} (hW : Blank (nums W)) (hu : ∀ u ∈ us, 0 ≤ u ∧ u < 18446744073709551616) (h : At xs k (nums W ++ 91 :: (elsN W us us.length ++ (nums W ++ 93 :: b)))) :
    ∃ m, arrR xs (some k) = some (m, us) ∧ At xs m b := by
  obtain ⟨g1, _, _, g4, _⟩ := ex_at (c := 91) hW (by decide) h
  unfold arrR
  rw [g1]
  cases us with
  | nil =>
    have h0 : At xs (k + (nums W).length + 1) (nums W ++ 93 :: b) := by simpa [elsN] using g4
    obtain ⟨_, f2, _, f4, f5⟩ := ex_at (c := 93) hW (by decide) h0
    refine ⟨_, ?_, f4⟩
    unfold hdA
    simp only
    rw [f2, if_pos rfl, f5]
  | cons u0 us =>
    rw [List.length_cons, elsN_eq W u0 us us.length (Nat.le_refl _), List.take_length] at g4
    have hu0 := hu u0 (List.mem_cons_self ..)
    have h1 : At xs (k + (nums W).length + 1) (nums W ++ (dn u0.toNat ++ (tailE W us ++ (nums W ++ 93 :: b)))) := by simpa using g4
    have hd : ∃ d t, tailE W us ++ (nums W ++ 93 :: b) = d :: t ∧ isd d = false := by
      cases us with
      | nil => exact nodig hW (by decide) b
      | cons a r =>
        have := nodig hW (c := 44) (by decide) (nums W ++ (dn a.toNat ++ (tailE W r ++ (nums W ++ 93 :: b))))
        simpa [tailE] using this
    obtain ⟨d, t, hdt, hdd⟩ := hd
    rw [hdt] at h1
    obtain ⟨f1, f2⟩ := ui_at hW (by omega) hdd h1
    rw [← hdt] at f2
    have hlen := f2.len
    have htl := tailE_le W us
    obtain ⟨m, e1, e2⟩ := hdA_at hW us (xs.length) _ ([] ++ [u0]) (fun v hv => hu v (List.mem_cons_of_mem _ hv)) (by rw [List.length_append] at hlen; omega) f2
    refine ⟨m, ?_, e2⟩
    -- the first sign is a digit: no bracket closes here
    have hnb : isA xs 93 (some (k + (nums W).length + 1)) = false := by
      cases hi : isA xs 93 (some (k + (nums W).length + 1)) with
      | false => rfl
      | true =>
        exfalso
        unfold isA at hi
        simp at hi
        simp only [uiA] at f1
        unfold dgR at f1
        rw [dN_stop (by rw [List.getD_eq_getElem?_getD, hi.2]; exact fun hh => absurd hh.2 (by decide))] at f1
        simp at f1
    unfold hdA
    simp only
    rw [hnb]
    simp only [Bool.false_eq_true, if_false, if_true]
    rw [arrT_succ, f1]
    simp only
    rw [show ((u0.toNat : Nat) : Int) = u0 by omega, e1]
    simp
/-! ### the horizon -/
theorem pt_of (s : ByteArray) (h : ((nums s).all fun x => decide (x ≠ 34 ∧ ¬ (x = 92 ∨ x < 32))) = true) (hv : vu (nums s) = true) : PT s := ⟨fun i hi => by
  have hi' : i < (nums s).length := by rw [nums_length]; exact hi
  have := List.all_eq_true.1 h _ (List.getElem_mem hi')
  rw [List.getD_eq_getElem?_getD, List.getElem?_eq_getElem hi']
  exact of_decide_eq_true this, hv⟩
theorem ptTx : PT bTx := pt_of _ (by decide) (by decide)
theorem ptCo : PT bCo := pt_of _ (by decide) (by decide)
theorem ptCi : PT bCi := pt_of _ (by decide) (by decide)
theorem ptHo : PT bHo := pt_of _ (by decide) (by decide)
theorem ptSe : PT bSe := pt_of _ (by decide) (by decide)
theorem ptUn : PT bUn := pt_of _ (by decide) (by decide)
/-- behind a value: a comma, or the end -/
theorem hd_comma {σ : Type} {xs b : List Int} {W : ByteArray} {m : Nat} (step : ByteArray → Nat → σ → Option (Nat × σ)) (g : Nat) (S : σ) (hW : Blank (nums W)) (h : At xs m (nums W ++ 44 :: b)) : ∃ p', hd xs step g (some m) false S = objT xs step g p' S ∧ At xs p' b := by
  obtain ⟨g1, _, g3, g4, _⟩ := ex_at (c := 44) hW (by decide) h
  refine ⟨_, ?_, g4⟩
  unfold hd
  simp only
  rw [(g3 125 (by decide)).1, g1]
  rfl
theorem hd_close {σ : Type} {xs b : List Int} {W : ByteArray} {m : Nat} (step : ByteArray → Nat → σ → Option (Nat × σ)) (g : Nat) (S : σ) (hW : Blank (nums W)) (h : At xs m (nums W ++ 125 :: b)) : ∃ p', hd xs step g (some m) false S = some (p', S) ∧ At xs p' b := by
  obtain ⟨_, g2, _, g4, g5⟩ := ex_at (c := 125) hW (by decide) h
  refine ⟨_, ?_, g4⟩
  unfold hd
  simp only
  rw [g2, if_pos rfl, g5]
theorem obj_key {σ : Type} {xs b : List Int} {W K : ByteArray} {p : Nat} (step : ByteArray → Nat → σ → Option (Nat × σ)) (g : Nat) (S : σ) (hW : Blank (nums W)) (hK : PT K) (h : At xs p (nums W ++ (qs K ++ (cl W ++ b)))) :
    ∃ m, objT xs step (g + 1) p S = bindH (step K m S) (fun m' S' => hd xs step g (some m') false S') ∧ At xs m (nums W ++ b) := by
  obtain ⟨s, q, m, h1, h2, h3⟩ := key_at hW hK h
  refine ⟨m, ?_, h3⟩
  rw [objT_succ, h1]
  simp only
  rw [h2]
  cases step K m S with
  | none => rfl
  | some x => rfl
theorem nob {σ : Type} {xs b : List Int} {W K : ByteArray} {p : Nat} (step : ByteArray → Nat → σ → Option (Nat × σ)) (g : Nat) (S : σ) (hW : Blank (nums W)) (h : At xs p (nums W ++ (qs K ++ b))) : hd xs step g (some p) true S = objT xs step g p S := by
  have e : qs K ++ b = 34 :: (nums K ++ ([34] ++ b)) := by unfold qs; simp
  rw [e] at h
  obtain ⟨_, _, g3, _, _⟩ := ex_at (c := 34) hW ws34 h
  unfold hd
  simp only
  rw [(g3 125 (by decide)).1]
  rfl
theorem hor_at {xs b : List Int} {W : ByteArray} {st : Nat} {us : List Int} {k : Nat} (hW : Blank (nums W)) (hst : st < 18446744073709551616) (hu : ∀ u ∈ us, 0 ≤ u ∧ u < 18446744073709551616)
    (h : At xs k (nums W ++ ([123] ++ (nums W ++ (qs bSe ++ (cl W ++ (dn st ++ (nums W ++ ([44] ++ (nums W ++ (qs bUn ++ (cl W ++ ([91] ++ (elsN W us us.length ++ (hzB W ++ b))))))))))))))) :
    ∃ m, horR xs (some k) = some (m, ⟨3, st, some us⟩) ∧ At xs m b := by
  obtain ⟨g1, _, _, g4, _⟩ := ex_at (c := 123) hW (by decide) (by simpa using h)
  unfold horR objR
  rw [g1]
  have g4' : At xs (k + (nums W).length + 1) (nums W ++ (qs bSe ++ (cl W ++ (dn st ++ (nums W ++ 44 :: (nums W ++ (qs bUn ++ (cl W ++ (91 :: (elsN W us us.length ++ (hzB W ++ b))))))))))) := by simpa using g4
  rw [nob _ _ _ hW g4']
  have hlen := g4'.len
  obtain ⟨m1, e1, a1⟩ := obj_key (stepH xs) xs.length HS0 hW ptSe g4'
  rw [e1]
  obtain ⟨d, t, hdt, hdd⟩ := nodig hW (c := 44) (by decide) (nums W ++ (qs bUn ++ (cl W ++ (91 :: (elsN W us us.length ++ (hzB W ++ b))))))
  rw [hdt] at a1
  obtain ⟨f1, f2⟩ := ui_at hW hst hdd a1
  rw [← hdt] at f2
  have hs1 : stepH xs bSe m1 HS0 = some (m1 + (nums W).length + (dn st).length, ⟨1, st, none⟩) := by
    unfold stepH onA
    rw [if_pos (show bSe = kSe from rfl)]
    have : HS0.seen.testBit 0 = false := by decide
    rw [this]
    simp only [Bool.false_eq_true, if_false]
    rw [f1]
    rfl
  rw [hs1]
  simp only [bindH]
  obtain ⟨p2, e2, a2⟩ := hd_comma (stepH xs) xs.length (⟨1, st, none⟩ : HS) hW f2
  rw [e2]
  obtain ⟨L, hL⟩ : ∃ L, xs.length = L + 1 := ⟨xs.length - 1, by have := a2.len; simp [qs] at this; omega⟩
  rw [hL]
  obtain ⟨m3, e3, a3⟩ := obj_key (stepH xs) L (⟨1, st, none⟩ : HS) hW ptUn a2
  rw [e3]
  have a3' : At xs m3 (nums W ++ 91 :: (elsN W us us.length ++ (nums W ++ 93 :: (nums W ++ 125 :: b)))) := by simpa [hzB] using a3
  obtain ⟨m4, e4, a4⟩ := arr_at hW hu a3'
  have hs2 : stepH xs bUn m3 ⟨1, st, none⟩ = some (m4, ⟨3, st, some us⟩) := by
    unfold stepH onA
    rw [if_neg (show ¬ bUn = kSe by decide), if_pos (show bUn = kUn from rfl)]
    have : (1 : Nat).testBit 1 = false := by decide
    simp only
    rw [this]
    simp only [Bool.false_eq_true, if_false]
    rw [e4]
    rfl
  rw [hs2]
  simp only [bindH]
  exact hd_close (stepH xs) L (⟨3, st, some us⟩ : HS) hW a4
/-! ### the whole request -/
def itS (tx co ci : ByteArray) (st : Nat) (us : List Int) (r : Nat) (S : DS) : DS :=
  if r = 0 then { S with seen := S.seen ||| 4, txn := tx } else if r = 1 then { S with seen := S.seen ||| 1, co := co } else if r = 2 then { S with seen := S.seen ||| 2, ci := ci } else { S with seen := S.seen ||| 8, st := st, un := some us }
def bitOf (r : Nat) : Nat := if r = 0 then 2 else if r = 1 then 0 else if r = 2 then 1 else 3
theorem item_at {xs b : List Int} {W tx co ci : ByteArray} {st : Nat} {us : List Int} {p g : Nat} {S : DS} (r : Nat) (hr : r < 4) (hW : Blank (nums W)) (htx : PT tx) (hco : PT co) (hci : PT ci) (hst : st < 18446744073709551616) (hu : ∀ u ∈ us, 0 ≤ u ∧ u < 18446744073709551616)
    (hs : S.seen.testBit (bitOf r) = false) (h : At xs p (nums W ++ (itm W tx co ci st us r ++ b))) :
    ∃ m, objT xs (stepD xs) (g + 1) p S = hd xs (stepD xs) g (some m) false (itS tx co ci st us r S) ∧ At xs m b := by
  match r, hr with
  | 0, _ =>
    have h' : At xs p (nums W ++ (qs bTx ++ (cl W ++ (qs tx ++ b)))) := by simpa [itm] using h
    obtain ⟨m, e1, a1⟩ := obj_key (stepD xs) g S hW ptTx h'
    obtain ⟨x, y, e2, e3, a2⟩ := str_at hW htx a1
    refine ⟨_, ?_, a2⟩
    rw [e1]
    unfold stepD onA
    rw [if_neg (show ¬ bTx = kCo by decide), if_neg (show ¬ bTx = kCi by decide), if_pos (show bTx = kTx from rfl)]
    rw [show S.seen.testBit 2 = false from hs]
    simp only [Bool.false_eq_true, if_false]
    rw [e2]
    simp only [Option.map_some, bindH, e3]
    rfl
  | 1, _ =>
    have h' : At xs p (nums W ++ (qs bCo ++ (cl W ++ (qs co ++ b)))) := by simpa [itm] using h
    obtain ⟨m, e1, a1⟩ := obj_key (stepD xs) g S hW ptCo h'
    obtain ⟨x, y, e2, e3, a2⟩ := str_at hW hco a1
    refine ⟨_, ?_, a2⟩
    rw [e1]
    unfold stepD onA
    rw [if_pos (show bCo = kCo from rfl)]
    rw [show S.seen.testBit 0 = false from hs]
    simp only [Bool.false_eq_true, if_false]
    rw [e2]
    simp only [Option.map_some, bindH, e3]
    rfl
  | 2, _ =>
    have h' : At xs p (nums W ++ (qs bCi ++ (cl W ++ (qs ci ++ b)))) := by simpa [itm] using h
    obtain ⟨m, e1, a1⟩ := obj_key (stepD xs) g S hW ptCi h'
    obtain ⟨x, y, e2, e3, a2⟩ := str_at hW hci a1
    refine ⟨_, ?_, a2⟩
    rw [e1]
    unfold stepD onA
    rw [if_neg (show ¬ bCi = kCo by decide), if_pos (show bCi = kCi from rfl)]
    rw [show S.seen.testBit 1 = false from hs]
    simp only [Bool.false_eq_true, if_false]
    rw [e2]
    simp only [Option.map_some, bindH, e3]
    rfl
  | 3, _ =>
    have h' : At xs p (nums W ++ (qs bHo ++ (cl W ++ ([123] ++ (nums W ++ (qs bSe ++ (cl W ++ (dn st ++ (nums W ++ ([44] ++ (nums W ++ (qs bUn ++ (cl W ++ ([91] ++ (elsN W us us.length ++ (hzB W ++ b)))))))))))))))) := by simpa [itm, hzA] using h
    obtain ⟨m, e1, a1⟩ := obj_key (stepD xs) g S hW ptHo h'
    obtain ⟨m2, e2, a2⟩ := hor_at hW hst hu a1
    refine ⟨_, ?_, a2⟩
    rw [e1]
    unfold stepD onA
    rw [if_neg (show ¬ bHo = kCo by decide), if_neg (show ¬ bHo = kCi by decide), if_neg (show ¬ bHo = kTx by decide), if_pos (show bHo = kHo from rfl)]
    rw [show S.seen.testBit 3 = false from hs]
    simp only [Bool.false_eq_true, if_false]
    rw [e2]
    simp only [Option.map_some, bindH]
    rfl
theorem itm_q (W tx co ci : ByteArray) (st : Nat) (us : List Int) (r : Nat) : ∃ K t, itm W tx co ci st us r = qs K ++ t := by
  unfold itm
  split
  · exact ⟨_, _, rfl⟩
  · split
    · exact ⟨_, _, rfl⟩
    · split
      · exact ⟨_, _, rfl⟩
      · exact ⟨bHo, _, by unfold hzA; rw [List.append_assoc]⟩
theorem chain_at {W tx co ci : ByteArray} {st : Nat} {us : List Int} (f : Nat) (hW : Blank (nums W)) (htx : PT tx) (hco : PT co) (hci : PT ci) (hst : st < 18446744073709551616) (hu : ∀ u ∈ us, 0 ≤ u ∧ u < 18446744073709551616)
    (r0 r1 r2 r3 : Nat) (h0 : f % 4 = r0) (h1 : (f + 1) % 4 = r1) (h2 : (f + 2) % 4 = r2) (h3 : (f + 3) % 4 = r3)
    (b1 : (itS tx co ci st us r0 DS0).seen.testBit (bitOf r1) = false) (b2 : (itS tx co ci st us r1 (itS tx co ci st us r0 DS0)).seen.testBit (bitOf r2) = false) (b3 : (itS tx co ci st us r2 (itS tx co ci st us r1 (itS tx co ci st us r0 DS0))).seen.testBit (bitOf r3) = false) :
    decR (enc W tx co ci st us f) (some 0) = some ((enc W tx co ci st us f).length, itS tx co ci st us r3 (itS tx co ci st us r2 (itS tx co ci st us r1 (itS tx co ci st us r0 DS0)))) := by
  have b0 : DS0.seen.testBit (bitOf r0) = false := by unfold DS0; exact Nat.zero_testBit _
  obtain ⟨xs, hxs⟩ : ∃ xs, enc W tx co ci st us f = xs := ⟨_, rfl⟩
  have hx : xs = nums W ++ 123 :: (nums W ++ (itm W tx co ci st us r0 ++ (nums W ++ 44 :: (nums W ++ (itm W tx co ci st us r1 ++ (nums W ++ 44 :: (nums W ++ (itm W tx co ci st us r2 ++ (nums W ++ 44 :: (nums W ++ (itm W tx co ci st us r3 ++ (nums W ++ 125 :: [])))))))))))) := by
    rw [← hxs, ← h0, ← h1, ← h2, ← h3]
    simp [enc, encN]
  rw [hxs]
  have a0 : At xs 0 (nums W ++ 123 :: (nums W ++ (itm W tx co ci st us r0 ++ (nums W ++ 44 :: (nums W ++ (itm W tx co ci st us r1 ++ (nums W ++ 44 :: (nums W ++ (itm W tx co ci st us r2 ++ (nums W ++ 44 :: (nums W ++ (itm W tx co ci st us r3 ++ (nums W ++ 125 :: []))))))))))))) := ⟨Nat.zero_le _, by rw [List.drop_zero]; exact hx⟩
  obtain ⟨g1, _, _, a1, _⟩ := ex_at (c := 123) hW (by decide) a0
  unfold decR objR
  rw [g1]
  obtain ⟨K, t, hK⟩ := itm_q W tx co ci st us r0
  have a1' := a1
  rw [hK, List.append_assoc] at a1'
  rw [nob _ _ _ hW a1']
  obtain ⟨L, hL⟩ : ∃ L, xs.length = L + 3 := ⟨xs.length - 3, by have := a1.len; simp at this; omega⟩
  rw [hL]
  obtain ⟨m1, e1, c1⟩ := item_at (g := L + 3) r0 (by omega) hW htx hco hci hst hu b0 a1
  rw [e1]
  obtain ⟨p2, e2, a2⟩ := hd_comma (stepD xs) (L + 3) _ hW c1
  rw [e2]
  obtain ⟨m2, e3, c2⟩ := item_at (g := L + 2) r1 (by omega) hW htx hco hci hst hu b1 a2
  rw [e3]
  obtain ⟨p3, e4, a3⟩ := hd_comma (stepD xs) (L + 2) _ hW c2
  rw [e4]
  obtain ⟨m3, e5, c3⟩ := item_at (g := L + 1) r2 (by omega) hW htx hco hci hst hu b2 a3
  rw [e5]
  obtain ⟨p4, e6, a4⟩ := hd_comma (stepD xs) (L + 1) _ hW c3
  rw [e6]
  obtain ⟨m4, e7, c4⟩ := item_at (g := L) r3 (by omega) hW htx hco hci hst hu b3 a4
  rw [e7]
  obtain ⟨p5, e8, a5⟩ := hd_close (stepD xs) L _ hW c4
  rw [e8]
  have hend := a5.len
  simp at hend
  rw [← hL, hend]
/-- THE PLAIN LAW: what is written reads back. -/
theorem back_at {W tx co ci : ByteArray} {st : Nat} {us : List Int} (f : Nat) (hf : f < 4) (hW : Blank (nums W)) (htx : PT tx) (hco : PT co) (hci : PT ci) (hst : st < 18446744073709551616) (hu : ∀ u ∈ us, 0 ≤ u ∧ u < 18446744073709551616) :
    decR (enc W tx co ci st us f) (some 0) = some ((enc W tx co ci st us f).length, ⟨15, tx, co, ci, st, some us⟩) := by
  match f, hf with
  | 0, _ => exact (chain_at 0 hW htx hco hci hst hu 0 1 2 3 rfl rfl rfl rfl (by first | rfl | (simp [itS, bitOf, DS0]; done) | (simp [itS, bitOf, DS0]; decide)) (by first | rfl | (simp [itS, bitOf, DS0]; done) | (simp [itS, bitOf, DS0]; decide)) (by first | rfl | (simp [itS, bitOf, DS0]; done) | (simp [itS, bitOf, DS0]; decide))).trans (by simp [itS, DS0])
  | 1, _ => exact (chain_at 1 hW htx hco hci hst hu 1 2 3 0 rfl rfl rfl rfl (by first | rfl | (simp [itS, bitOf, DS0]; done) | (simp [itS, bitOf, DS0]; decide)) (by first | rfl | (simp [itS, bitOf, DS0]; done) | (simp [itS, bitOf, DS0]; decide)) (by first | rfl | (simp [itS, bitOf, DS0]; done) | (simp [itS, bitOf, DS0]; decide))).trans (by simp [itS, DS0])
  | 2, _ => exact (chain_at 2 hW htx hco hci hst hu 2 3 0 1 rfl rfl rfl rfl (by first | rfl | (simp [itS, bitOf, DS0]; done) | (simp [itS, bitOf, DS0]; decide)) (by first | rfl | (simp [itS, bitOf, DS0]; done) | (simp [itS, bitOf, DS0]; decide)) (by first | rfl | (simp [itS, bitOf, DS0]; done) | (simp [itS, bitOf, DS0]; decide))).trans (by simp [itS, DS0])
  | 3, _ => exact (chain_at 3 hW htx hco hci hst hu 3 0 1 2 rfl rfl rfl rfl (by first | rfl | (simp [itS, bitOf, DS0]; done) | (simp [itS, bitOf, DS0]; decide)) (by first | rfl | (simp [itS, bitOf, DS0]; done) | (simp [itS, bitOf, DS0]; decide)) (by first | rfl | (simp [itS, bitOf, DS0]; done) | (simp [itS, bitOf, DS0]; decide))).trans (by simp [itS, DS0])
end Go.Proofs.Qxb6605662aDoor
