import Derived.Test.Qxb6606027aDoorS3
import Derived.Test.Qxb6606027aDoorS8
namespace Go.Proofs.Qxb6606027aDoor
open Go.RowKit
set_option linter.unusedSimpArgs false
/-! ### the plain law -/
theorem ia_y {x p q : Int} (r : List Int) (h : x = p ∨ x = q) : ia (x :: r) p q = 0 := by rw [ia, if_pos h]
theorem ia_n1 {x p q : Int} {r : List Int} (h : ¬ (x = p ∨ x = q)) (h2 : ia r p q = -1) : ia (x :: r) p q = -1 := by rw [ia, if_neg h, if_pos h2]
theorem ia_n2 {x p q : Int} {r : List Int} (h : ¬ (x = p ∨ x = q)) (h2 : ia r p q ≠ -1) : ia (x :: r) p q = ia r p q + 1 := by rw [ia, if_neg h, if_neg h2]
theorem ix_y {x : Int} {r : List Int} (h : x = 93 ∧ r.head? = some 58) : ix2 (x :: r) = 0 := by rw [ix2, if_pos h]
theorem ix_n1 {x : Int} {r : List Int} (h : ¬ (x = 93 ∧ r.head? = some 58)) (h2 : ix2 r = -1) : ix2 (x :: r) = -1 := by rw [ix2, if_neg h, if_pos h2]
theorem ix_n2 {x : Int} {r : List Int} (h : ¬ (x = 93 ∧ r.head? = some 58)) (h2 : ix2 r ≠ -1) : ix2 (x :: r) = ix2 r + 1 := by rw [ix2, if_neg h, if_neg h2]
theorem rst_of (r : List Int) (d : Int) (h : dst r = d) : rst r = if d ≤ 0 then false else aft (r.drop d.toNat) := by rw [rst, h]

theorem bl_iff (x : Int) : bl x = true ↔ (x = 32 ∨ x = 9) := by unfold bl; simp
theorem lead_nil : lead [] = 0 := rfl
theorem lead_yes {x : Int} {r : List Int} (h : bl x = true) : lead (x :: r) = lead r + 1 := by simp [lead, h]
theorem lead_not {x : Int} {r : List Int} (h : bl x = false) : lead (x :: r) = 0 := by simp [lead, h]
theorem au_cons (x : Int) (r : List Int) (s : Nat) (cl : Int) : au (x :: r) s cl = (match stp s cl x with | none => false | some (s', cl') => au r s' cl') := rfl

theorem au_0 (cl : Int) : ∀ xs : List Int, au xs 0 cl = au (xs.drop (lead xs)) 0 cl
  | [] => rfl
  | x :: r => by
    cases hb : bl x with
    | false => rw [lead_not hb]; rfl
    | true =>
      rw [lead_yes hb, List.drop_succ_cons, ← au_0 cl r, au_cons]
      have hx := (bl_iff x).1 hb
      have : stp 0 cl x = some (0, cl) := by simp only [stp]; rw [if_neg (by omega), if_pos hb]
      rw [this]
theorem au_4 (cl : Int) : ∀ xs : List Int, au xs 4 cl = au (xs.drop (lead xs)) 4 cl
  | [] => rfl
  | x :: r => by
    cases hb : bl x with
    | false => rw [lead_not hb]; rfl
    | true =>
      rw [lead_yes hb, List.drop_succ_cons, ← au_4 cl r, au_cons]
      have hx := (bl_iff x).1 hb
      have : stp 4 cl x = some (4, cl) := by simp only [stp]; rw [if_neg (by omega), if_pos hb]
      rw [this]

/-- the last byte that is no blank -/
def lastNB : List Int → Option Int
  | [] => none
  | x :: r => match lastNB r with
    | some y => some y
    | none => if bl x = true then none else some x
theorem au_910 (q : Int) (hq : bl q = false) : ∀ v : List Int, au v 9 q = (lastNB v == some q) ∧ au v 10 q = (match lastNB v with | none => true | some y => y == q)
  | [] => ⟨rfl, rfl⟩
  | x :: r => by
    obtain ⟨i9, i10⟩ := au_910 q hq r
    rw [au_cons, au_cons]
    have hl : lastNB (x :: r) = (match lastNB r with | some y => some y | none => if bl x = true then none else some x) := rfl
    rw [hl]
    by_cases hx : x = q
    · subst hx
      have e1 : stp 9 x x = some (10, x) := by simp [stp]
      have e2 : stp 10 x x = some (10, x) := by simp [stp, hq]
      rw [e1, e2]
      simp only [i10]
      cases lastNB r with
      | none => simp [hq]
      | some y => simp
    · have e1 : stp 9 q x = some (9, q) := by simp [stp, hx]
      rw [e1]
      cases hb : bl x with
      | true =>
        have e2 : stp 10 q x = some (10, q) := by simp [stp, hb]
        rw [e2]
        simp only [i9, i10]
        cases lastNB r <;> simp
      | false =>
        have e2 : stp 10 q x = some (9, q) := by simp [stp, hb, hx]
        rw [e2]
        simp only [i9]
        cases lastNB r with
        | none => simp [hx]
        | some y => simp

theorem body_nil : body [] = 0 := rfl
theorem body_is (xs : List Int) : (∀ j, body xs ≤ j → j < xs.length → bl (xs.getD j 0) = true) ∧ (body xs = 0 ∨ bl (xs.getD (body xs - 1) 0) = false) := by
  have hl := lead_is xs.reverse
  have hle := lead_le xs.reverse
  rw [List.length_reverse] at hle hl
  have hb : body xs = xs.length - lead xs.reverse := rfl
  have hr : ∀ j, j < xs.length → xs.reverse.getD j 0 = xs.getD (xs.length - 1 - j) 0 := fun j hj => by
    rw [List.getD_eq_getElem?_getD, List.getElem?_reverse hj, ← List.getD_eq_getElem?_getD]
  refine ⟨fun j h1 h2 => ?_, ?_⟩
  · have := hl.1 (xs.length - 1 - j) (by omega)
    rw [hr _ (by omega), show xs.length - 1 - (xs.length - 1 - j) = j from by omega] at this
    exact this
  · rcases hl.2 with h | h
    · exact .inl (by omega)
    · by_cases h0 : body xs = 0
      · exact .inl h0
      · refine .inr ?_
        rw [hr _ (by omega)] at h
        rw [show body xs - 1 = xs.length - 1 - lead xs.reverse from by omega]
        exact h
theorem body_not {c : Int} (v : List Int) (h : bl c = false) : body (c :: v) = body v + 1 := by
  have hi := body_is v
  have hl := body_le v
  refine body_of (c :: v) (body v + 1) (fun j h1 h2 => ?_) (by simp; exact hl) ?_
  · obtain ⟨j', rfl⟩ : ∃ j', j = j' + 1 := ⟨j - 1, by omega⟩
    simpa using hi.1 j' (by omega) (by simpa using h2)
  · refine .inr ?_
    by_cases h0 : body v = 0
    · rw [h0]; simpa using h
    · rcases hi.2 with h1 | h1
      · exact absurd h1 h0
      · obtain ⟨k, hk⟩ : ∃ k, body v = k + 1 := ⟨body v - 1, by omega⟩
        rw [hk] at h1 ⊢
        simpa using h1
theorem body_pos {c : Int} (v : List Int) (h : 0 < body v) : body (c :: v) = body v + 1 := by
  have hi := body_is v
  have hl := body_le v
  refine body_of (c :: v) (body v + 1) (fun j h1 h2 => ?_) (by simp; exact hl) ?_
  · obtain ⟨j', rfl⟩ : ∃ j', j = j' + 1 := ⟨j - 1, by omega⟩
    simpa using hi.1 j' (by omega) (by simpa using h2)
  · refine .inr ?_
    rcases hi.2 with h1 | h1
    · omega
    · obtain ⟨k, hk⟩ : ∃ k, body v = k + 1 := ⟨body v - 1, by omega⟩
      rw [hk] at h1 ⊢
      simpa using h1
theorem body_zero_iff (v : List Int) : body v = 0 ↔ lead v = v.length := by
  constructor
  · intro h
    have hi := (body_is v).1
    rw [h] at hi
    exact lead_of v v.length (fun j hj => hi j (by omega) hj) (Nat.le_refl _) (.inl rfl)
  · intro h
    have hl := (lead_is v).1
    rw [h] at hl
    exact body_of v 0 (fun j _ hj => hl j hj) (by omega) (.inl rfl)
theorem lastNB_body : ∀ v : List Int, lastNB v = if body v = 0 then none else some (v.getD (body v - 1) 0)
  | [] => rfl
  | x :: r => by
    have ih := lastNB_body r
    have hl : lastNB (x :: r) = (match lastNB r with | some y => some y | none => if bl x = true then none else some x) := rfl
    rw [hl, ih]
    by_cases h0 : body r = 0
    · rw [if_pos h0]
      cases hb : bl x with
      | false => rw [body_not r hb, h0]; simp
      | true =>
        have : body (x :: r) = 0 := (body_zero_iff _).2 (by rw [lead_yes hb, (body_zero_iff r).1 h0]; rfl)
        rw [this]; simp
    · rw [if_neg h0, body_pos r (by omega)]
      obtain ⟨k, hk⟩ : ∃ k, body r = k + 1 := ⟨body r - 1, by omega⟩
      rw [hk]
      simp

theorem ttl_cons (c : Int) (v : List Int) : ttl (c :: v.take (body v)) = (if c = 34 then lastNB v == some 34 else if c = 39 then lastNB v == some 39 else if c = 40 then lastNB v == some 41 else false) := by
  have hlen : (c :: v.take (body v)).length = body v + 1 := by simp; have := body_le v; omega
  rw [ttl, hlen, lastNB_body]
  by_cases h0 : body v = 0
  · rw [if_pos (by omega), if_pos h0]
    split
    · rfl
    · split
      · rfl
      · split <;> rfl
  · rw [if_neg (by omega), if_neg h0]
    have e0 : (c :: v.take (body v)).getD 0 0 = c := rfl
    have e1 : (c :: v.take (body v)).getD (body v + 1 - 1) 0 = v.getD (body v - 1) 0 := by
      obtain ⟨k, hk⟩ : ∃ k, body v = k + 1 := ⟨body v - 1, by omega⟩
      rw [hk]
      simp [List.getD_eq_getElem?_getD, List.getElem?_take]
    rw [e0, e1]
    by_cases h34 : c = 34
    · rw [if_pos h34, if_pos h34, h34]; rfl
    · rw [if_neg h34, if_neg h34]
      by_cases h39 : c = 39
      · rw [if_pos h39, if_pos h39, h39]; rfl
      · rw [if_neg h39, if_neg h39]
        by_cases h40 : c = 40
        · rw [if_pos h40, if_pos h40]; rfl
        · rw [if_neg h40, if_neg h40]

def F8 (a : List Int) : Bool := if lead a = a.length then true else ttl (trimB a)
theorem F8_yes {x : Int} (u : List Int) (h : bl x = true) : F8 (x :: u) = F8 u := by
  unfold F8
  rw [lead_yes h]
  by_cases hl : lead u = u.length
  · rw [if_pos (by simp [hl]), if_pos hl]
  · rw [if_neg (by simp; exact hl), if_neg hl]
    have hb : 0 < body u := by
      rcases Nat.eq_zero_or_pos (body u) with h0 | h0
      · exact absurd ((body_zero_iff u).1 h0) hl
      · exact h0
    unfold trimB
    rw [body_pos u hb, List.take_succ_cons, lead_yes h, List.drop_succ_cons]
theorem F8_not {x : Int} (u : List Int) (h : bl x = false) : F8 (x :: u) = ttl (x :: u.take (body u)) := by
  unfold F8
  rw [lead_not h, if_neg (by simp)]
  unfold trimB
  rw [body_not u h, List.take_succ_cons, lead_not h]
  rfl
theorem au_8 (cl : Int) : ∀ u : List Int, au u 8 cl = F8 u
  | [] => rfl
  | x :: u => by
    rw [au_cons]
    cases hb : bl x with
    | true =>
      have hx := (bl_iff x).1 hb
      have : stp 8 cl x = some (8, cl) := by simp only [stp]; rw [if_neg (by omega), if_neg (by omega), if_neg (by omega), if_pos hb]
      rw [this, F8_yes u hb]
      exact au_8 cl u
    | false =>
      rw [F8_not u hb, ttl_cons]
      by_cases h34 : x = 34
      · subst h34
        have : stp 8 cl 34 = some (9, 34) := by simp [stp]
        rw [this, if_pos rfl]
        exact (au_910 34 (by decide) u).1
      · by_cases h39 : x = 39
        · subst h39
          have : stp 8 cl 39 = some (9, 39) := by simp [stp]
          rw [this, if_neg (by omega), if_pos rfl]
          exact (au_910 39 (by decide) u).1
        · by_cases h40 : x = 40
          · subst h40
            have : stp 8 cl 40 = some (9, 41) := by simp [stp]
            rw [this, if_neg (by omega), if_neg (by omega), if_pos rfl]
            exact (au_910 41 (by decide) u).1
          · have : stp 8 cl x = none := by simp [stp, h34, h39, h40, hb]
            rw [this, if_neg h34, if_neg h39, if_neg h40]
theorem aft_yes {x : Int} (u : List Int) (h : bl x = true) : aft (x :: u) = F8 u := by
  rw [← F8_yes u h]
  unfold aft F8
  rw [lead_yes h, if_neg (show ¬ lead u + 1 = 0 by omega)]
theorem au_6 (cl : Int) (a : List Int) : au a 6 cl = aft a := by
  cases a with
  | nil => rfl
  | cons x u =>
    rw [au_cons]
    cases hb : bl x with
    | true =>
      have : stp 6 cl x = some (8, cl) := by simp [stp, hb]
      rw [this, aft_yes u hb]
      exact au_8 cl u
    | false =>
      have : stp 6 cl x = none := by simp [stp, hb]
      rw [this]
      unfold aft
      rw [lead_not hb, if_neg (by simp), if_pos rfl]
theorem au_5 (cl : Int) : ∀ s : List Int, au s 5 cl = if ia s 62 62 = -1 then false else aft (s.drop (ia s 62 62 + 1).toNat)
  | [] => rfl
  | x :: r => by
    rw [au_cons]
    by_cases hx : x = 62
    · subst hx
      have : stp 5 cl 62 = some (6, cl) := by simp [stp]
      rw [this, ia_y r (.inl rfl)]
      exact au_6 cl r
    · have : stp 5 cl x = some (5, cl) := by simp [stp, hx]
      rw [this]
      show au r 5 cl = _
      rw [au_5 cl r]
      have hg := ia_ge 62 62 r
      have hx2 : ¬ (x = 62 ∨ x = 62) := fun e => hx (e.elim id id)
      by_cases hi : ia r 62 62 = -1
      · rw [if_pos hi, ia_n1 hx2 hi, if_pos rfl]
      · rw [if_neg hi, ia_n2 hx2 hi, if_neg (by omega)]
        rw [show (ia r 62 62 + 1 + 1).toNat = (ia r 62 62 + 1).toNat + 1 from by omega, List.drop_succ_cons]
theorem au_7 (cl : Int) : ∀ s : List Int, au s 7 cl = if ia s 32 9 = -1 then true else aft (s.drop (ia s 32 9).toNat)
  | [] => rfl
  | x :: r => by
    rw [au_cons]
    cases hb : bl x with
    | true =>
      have hx := (bl_iff x).1 hb
      have : stp 7 cl x = some (8, cl) := by simp [stp, hb]
      rw [this, ia_y r hx]
      show au r 8 cl = aft (x :: r)
      rw [aft_yes r hb]
      exact au_8 cl r
    | false =>
      have hx : ¬ (x = 32 ∨ x = 9) := fun e => by rw [(bl_iff x).2 e] at hb; cases hb
      have : stp 7 cl x = some (7, cl) := by simp [stp, hb]
      rw [this]
      show au r 7 cl = _
      rw [au_7 cl r]
      have hg := ia_ge 32 9 r
      by_cases hi : ia r 32 9 = -1
      · rw [if_pos hi, ia_n1 hx hi, if_pos rfl]
      · rw [if_neg hi, ia_n2 hx hi, if_neg (by omega)]
        rw [show (ia r 32 9 + 1).toNat = (ia r 32 9).toNat + 1 from by omega, List.drop_succ_cons]
theorem head_nb (t : List Int) (x : Int) (s : List Int) (hr : t.drop (lead t) = x :: s) : bl x = false := by
  have hs := (lead_is t).2
  have hl : lead t < t.length := by
    rcases Nat.lt_or_ge (lead t) t.length with h | h
    · exact h
    · rw [List.drop_eq_nil_of_le h] at hr; cases hr
  rcases hs with h | h
  · omega
  · rw [List.drop_eq_getElem_cons hl] at hr
    injection hr with h1 h2
    rw [List.getD_eq_getElem?_getD, List.getElem?_eq_getElem hl] at h
    simpa [h1] using h
theorem au_rst (cl : Int) (t : List Int) : au t 4 cl = rst (t.drop (lead t)) := by
  rw [au_4]
  have hnb := head_nb t
  generalize t.drop (lead t) = r at hnb
  cases r with
  | nil => rfl
  | cons x s =>
    have hb : bl x = false := hnb x s rfl
    have hx : ¬ (x = 32 ∨ x = 9) := fun e => by rw [(bl_iff x).2 e] at hb; cases hb
    rw [au_cons]
    by_cases h60 : x = 60
    · subst h60
      have : stp 4 cl 60 = some (5, cl) := by simp [stp]
      rw [this]
      show au s 5 cl = _
      have hd : dst (60 :: s) = ia (60 :: s) 62 62 + 1 := by unfold dst; exact if_pos rfl
      rw [au_5, rst_of _ _ hd]
      have hg := ia_ge 62 62 s
      have hx2 : ¬ ((60 : Int) = 62 ∨ (60 : Int) = 62) := by omega
      by_cases hi : ia s 62 62 = -1
      · rw [if_pos hi, ia_n1 hx2 hi, if_pos (by omega)]
      · rw [if_neg hi, ia_n2 hx2 hi, if_neg (by omega)]
        rw [show (ia s 62 62 + 1 + 1).toNat = (ia s 62 62 + 1).toNat + 1 from by omega, List.drop_succ_cons]
    · have : stp 4 cl x = some (7, cl) := by simp [stp, h60, hb]
      rw [this]
      show au s 7 cl = _
      have hd : dst (x :: s) = if ia (x :: s) 32 9 < 0 then ((x :: s).length : Int) else ia (x :: s) 32 9 := by unfold dst; exact if_neg (by simpa using h60)
      have hg := ia_ge 32 9 s
      rw [au_7]
      by_cases hi : ia s 32 9 = -1
      · rw [if_pos hi]
        rw [ia_n1 hx hi, if_pos (by omega)] at hd
        rw [rst_of _ _ hd, if_neg (by rw [List.length_cons]; omega), Int.toNat_natCast, List.drop_length]
        rfl
      · rw [if_neg hi]
        rw [ia_n2 hx hi, if_neg (by omega)] at hd
        rw [rst_of _ _ hd, if_neg (by omega), show (ia s 32 9 + 1).toNat = (ia s 32 9).toNat + 1 from by omega, List.drop_succ_cons]

/-- the label, 'nb': a byte that is no blank was seen -/
def GI (nb : Bool) (zs : List Int) (i : Int) : Bool :=
  if i = -1 then false
  else if nb = false ∧ lead (zs.take i.toNat) = i.toNat then false
  else if 0 ≤ ia (zs.take i.toNat) 91 93 then false
  else rst ((zs.drop (i.toNat + 2)).drop (lead (zs.drop (i.toNat + 2))))
def G (nb : Bool) (zs : List Int) : Bool := GI nb zs (ix2 zs)
theorem G_nil (nb : Bool) : G nb [] = false := rfl
theorem G_br (nb : Bool) (x : Int) (r : List Int) (hx : x = 91 ∨ x = 93) (h : ¬ (x = 93 ∧ r.head? = some 58)) : G nb (x :: r) = false := by
  unfold G
  have hg := ix2_ge r
  by_cases hi : ix2 r = -1
  · rw [ix_n1 h hi, GI, if_pos rfl]
  · rw [ix_n2 h hi, GI, if_neg (by omega)]
    rw [show (ix2 r + 1).toNat = (ix2 r).toNat + 1 from by omega, List.take_succ_cons, ia_y _ hx]
    split
    · rfl
    · rw [if_pos (by omega)]
theorem G_end (nb : Bool) (t : List Int) : G nb (93 :: 58 :: t) = if nb = true then rst (t.drop (lead t)) else false := by
  unfold G
  rw [ix_y ⟨rfl, rfl⟩, GI, if_neg (by omega)]
  cases nb with
  | false => rw [if_pos ⟨rfl, rfl⟩]; rfl
  | true => rw [if_neg (by simp), if_neg (show ¬ (0 : Int) ≤ ia (List.take (Int.toNat 0) (93 :: 58 :: t)) 91 93 from fun h => absurd (show (0 : Int) ≤ -1 from h) (by omega))]; rfl
theorem G_on (nb : Bool) (x : Int) (r : List Int) (h1 : x ≠ 91) (h2 : x ≠ 93) : G nb (x :: r) = G (nb || !bl x) r := by
  unfold G
  have hg := ix2_ge r
  have hn : ¬ (x = 93 ∧ r.head? = some 58) := fun h => h2 h.1
  by_cases hi : ix2 r = -1
  · rw [ix_n1 hn hi, GI, if_pos rfl, GI, if_pos hi]
  · rw [ix_n2 hn hi, GI, if_neg (by omega), GI, if_neg hi]
    rw [show (ix2 r + 1).toNat = (ix2 r).toNat + 1 from by omega, List.take_succ_cons, show (ix2 r).toNat + 1 + 2 = ((ix2 r).toNat + 2) + 1 from by omega, List.drop_succ_cons]
    have hia : (0 ≤ ia (x :: r.take (ix2 r).toNat) 91 93) = (0 ≤ ia (r.take (ix2 r).toNat) 91 93) := by
      have hg2 := ia_ge 91 93 (r.take (ix2 r).toNat)
      have hno : ¬ (x = 91 ∨ x = 93) := by omega
      apply propext
      by_cases he : ia (r.take (ix2 r).toNat) 91 93 = -1
      · rw [ia_n1 hno he, he]
      · rw [ia_n2 hno he]; omega
    have hle : (nb = false ∧ lead (x :: r.take (ix2 r).toNat) = (ix2 r).toNat + 1) = ((nb || !bl x) = false ∧ lead (r.take (ix2 r).toNat) = (ix2 r).toNat) := by
      apply propext
      cases hb : bl x with
      | true => rw [lead_yes hb]; simp
      | false => rw [lead_not hb]; simp
    simp only [hia, hle]
theorem au_12 (cl : Int) : ∀ (zs : List Int) (nb : Bool), au zs (if nb = true then 2 else 1) cl = G nb zs
  | [], nb => by cases nb <;> rfl
  | x :: r, nb => by
    by_cases h91 : x = 91
    · subst h91
      rw [G_br nb 91 r (.inl rfl) (by omega)]
      cases nb <;> simp [au_cons, stp]
    · by_cases h93 : x = 93
      · subst h93
        cases nb with
        | false =>
          have : au (93 :: r) (if false = true then 2 else 1) cl = false := by simp [au_cons, stp]
          rw [this]
          by_cases hc : r.head? = some 58
          · cases r with
            | nil => simp at hc
            | cons y t =>
              obtain rfl : y = 58 := by simpa using hc
              rw [G_end]; rfl
          · rw [G_br false 93 r (.inr rfl) (fun h => hc h.2)]
        | true =>
          have : au (93 :: r) (if true = true then 2 else 1) cl = au r 3 cl := by simp [au_cons, stp]
          rw [this]
          cases r with
          | nil => rw [G_br true 93 [] (.inr rfl) (by simp)]; rfl
          | cons y t =>
            by_cases hy : y = 58
            · subst hy
              rw [G_end, if_pos rfl, ← au_rst cl t]
              simp [au_cons, stp]
            · rw [G_br true 93 (y :: t) (.inr rfl) (by simp [hy])]
              simp [au_cons, stp, hy]
      · rw [G_on nb x r h91 h93, ← au_12 cl r]
        cases nb with
        | true => simp [au_cons, stp, h91, h93]
        | false => cases hb : bl x <;> simp [au_cons, stp, h91, h93, hb]
theorem lbl_G (zs : List Int) : lbl zs = G false zs := by
  unfold lbl G GI
  simp
/-- **the plain law** -/
theorem pl_au (xs : List Int) : pl xs = au xs 0 0 := by
  rw [au_0, pl]
  have hnb := head_nb xs
  generalize xs.drop (lead xs) = r at hnb
  cases r with
  | nil => rfl
  | cons x s =>
    have hb : bl x = false := hnb x s rfl
    rw [au_cons]
    by_cases h91 : x = 91
    · subst h91
      have : stp 0 0 91 = some (1, 0) := by simp [stp]
      rw [this, if_pos (by rfl), List.drop_succ_cons, List.drop_zero, lbl_G, ← au_12 0 s false]
      rfl
    · have : stp 0 0 x = none := by simp [stp, h91, hb]
      rw [this, if_neg (by simpa using h91)]
end Go.Proofs.Qxb6606027aDoor
