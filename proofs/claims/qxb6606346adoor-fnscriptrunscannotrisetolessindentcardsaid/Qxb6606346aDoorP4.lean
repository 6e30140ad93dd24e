import Derived.Test.Qxb6606346aDoorA5
set_option linter.unusedVariables false
set_option linter.unusedSimpArgs false
namespace Go.Proofs.Qxb6606346aDoor
/-! ### slide in plain terms -/
theorem ed_fun {fs ts : List ByteArray} : ∀ {L : List Int} {i j a b a' b' : Nat}, Ed fs ts i j L a b → Ed fs ts i j L a' b' → a = a' ∧ b = b'
  | [], i, j, a, b, a', b', h, k => by cases h; cases k; exact ⟨rfl, rfl⟩
  | x :: L, i, j, a, b, a', b', h, k => by
    cases h with
    | kept _ _ _ h => cases k with | kept _ _ _ k => exact ed_fun h k
    | rem _ h => cases k with | rem _ k => exact ed_fun h k
    | add _ h => cases k with | add _ k => exact ed_fun h k
theorem kp_nat {L : List Int} {i : Nat} (h : kp L i = true) : L.length ≤ i ∨ L.getD i 0 = 32 := by
  unfold kp at h
  simp only [Bool.or_eq_true, decide_eq_true_eq, beq_iff_eq, Int.toNat_natCast] at h
  omega
theorem kp_of {L : List Int} {i : Nat} (h : L.length ≤ i ∨ L.getD i 0 = 32) : kp L i = true := by
  unfold kp
  simp only [Bool.or_eq_true, decide_eq_true_eq, beq_iff_eq, Int.toNat_natCast]
  omega
theorem kp_neg {L : List Int} {i : Int} (h : i < 0) : kp L i = true := by unfold kp; simp [h]
/-- a run of n ops that begins at p, its first line being line a of ls, may rise j lines -/
def Up (L : List Int) (ls : List ByteArray) (p n a j : Nat) : Prop := j ≤ p ∧ j ≤ a ∧ L.getD (p - j) 0 = 32 ∧ (p = j ∨ L.getD (p - j - 1) 0 = 32) ∧ ls.getD (a - j) ByteArray.empty = ls.getD (a - j + n) ByteArray.empty
/-- wherever it may rise to, its first line is indented no less -/
def Low (L : List Int) (ls : List ByteArray) (p n a : Nat) : Prop := ∀ j, 1 ≤ j → (∀ i, 1 ≤ i → i ≤ j → Up L ls p n a i) → ind (ls.getD a ByteArray.empty) ≤ ind (ls.getD (a - j) ByteArray.empty)
/-- all pure runs that end by P stand low -/
def Sets (fs ts : List ByteArray) (L : List Int) (P : Nat) : Prop :=
  ∀ p n op i j, op ≠ 32 → 0 < n → p + n ≤ P → p + n ≤ L.length → (p = 0 ∨ L.getD (p - 1) 0 = 32) → (∀ t, t < n → L.getD (p + t) 0 = op) → (p + n = L.length ∨ L.getD (p + n) 0 = 32) → Ed fs ts 0 0 (L.take p) i j → Low L (if op = 45 then fs else ts) p n (if op = 45 then i else j)
structure SI (fs ts : List ByteArray) (L : List Int) (p i j : Nat) : Prop where
  p1 : p ≤ L.length
  e1 : Ed fs ts 0 0 (L.take p) i j
  e2 : Ed fs ts i j (L.drop p) fs.length ts.length
  c : cst false L ≠ none
  b : p = 0 ∨ L.getD (p - 1) 0 = 32 ∨ p = L.length ∨ L.getD p 0 = 32
  s : Sets fs ts L p
theorem drop_cons {L : List Int} {p : Nat} (h : p < L.length) : L.drop p = L.getD p 0 :: L.drop (p + 1) := by
  rw [List.drop_eq_getElem_cons h, List.getD_eq_getElem?_getD, List.getElem?_eq_getElem h]
  rfl
theorem take_succ {L : List Int} {p : Nat} (h : p < L.length) : L.take (p + 1) = L.take p ++ [L.getD p 0] := by
  rw [List.take_succ_eq_append_getElem h, List.getD_eq_getElem?_getD, List.getElem?_eq_getElem h]
  rfl
/-- the place moves on by one op -/
theorem ed_next {fs ts : List ByteArray} {L : List Int} {p i j : Nat} (hp : p < L.length) (e1 : Ed fs ts 0 0 (L.take p) i j) (e2 : Ed fs ts i j (L.drop p) fs.length ts.length) :
    (L.getD p 0 = 32 ∧ i < fs.length ∧ j < ts.length ∧ fs.getD i ByteArray.empty = ts.getD j ByteArray.empty ∧ Ed fs ts 0 0 (L.take (p + 1)) (i + 1) (j + 1) ∧ Ed fs ts (i + 1) (j + 1) (L.drop (p + 1)) fs.length ts.length) ∨
    (L.getD p 0 = 45 ∧ i < fs.length ∧ Ed fs ts 0 0 (L.take (p + 1)) (i + 1) j ∧ Ed fs ts (i + 1) j (L.drop (p + 1)) fs.length ts.length) ∨
    (L.getD p 0 = 43 ∧ j < ts.length ∧ Ed fs ts 0 0 (L.take (p + 1)) i (j + 1) ∧ Ed fs ts i (j + 1) (L.drop (p + 1)) fs.length ts.length) := by
  rw [drop_cons hp] at e2
  rw [take_succ hp]
  generalize L.getD p 0 = x at e2 ⊢
  cases e2 with
  | kept hi hj he h => exact .inl ⟨rfl, hi, hj, he, e1.append (.kept hi hj he (.nil _ _)), h⟩
  | rem hi h => exact .inr (.inl ⟨rfl, hi, e1.append (.rem hi (.nil _ _)), h⟩)
  | add hj h => exact .inr (.inr ⟨rfl, hj, e1.append (.add hj (.nil _ _)), h⟩)
theorem Sets.mono {fs ts : List ByteArray} {L : List Int} {P Q : Nat} (h : Sets fs ts L P) (hn : ∀ p n op, op ≠ 32 → 0 < n → p + n ≤ Q → P < p + n → p + n ≤ L.length → (p = 0 ∨ L.getD (p - 1) 0 = 32) → (∀ t, t < n → L.getD (p + t) 0 = op) → (p + n = L.length ∨ L.getD (p + n) 0 = 32) → False) : Sets fs ts L Q := by
  intro p n op i j h1 h2 h3 h4 h5 h6 h7 h8
  by_cases q : p + n ≤ P
  · exact h p n op i j h1 h2 q h4 h5 h6 h7 h8
  · exact absurd (hn p n op h1 h2 h3 (by omega) h4 h5 h6 h7) id
theorem si_kept {fs ts : List ByteArray} {L : List Int} {p i j : Nat} (h : SI fs ts L p i j) (hp : p < L.length) (hk : L.getD p 0 = 32) : SI fs ts L (p + 1) (i + 1) (j + 1) := by
  rcases ed_next hp h.e1 h.e2 with ⟨_, _, _, _, a, b⟩ | ⟨q, _⟩ | ⟨q, _⟩
  · refine ⟨by omega, a, b, h.c, .inr (.inl ?_), h.s.mono ?_⟩
    · rw [Nat.add_sub_cancel]; exact hk
    · intro p' n op h1 h2 h3 h4 h5 h6 h7 h8
      have := h7 (n - 1) (by omega)
      rw [show p' + (n - 1) = p by omega] at this
      exact h1 (by rw [← this]; exact hk)
  · omega
  · omega
/-- a run that mixes is passed over -/
theorem si_mixed {fs ts : List ByteArray} {L : List Int} {p q r i j i' j' : Nat} (h : SI fs ts L p i j) (h1 : p < q) (h2 : q < r) (hr : r ≤ L.length) (hn : ∀ t, p ≤ t → t < r → L.getD t 0 ≠ 32) (hq : L.getD q 0 ≠ L.getD p 0) (e1 : Ed fs ts 0 0 (L.take r) i' j') (e2 : Ed fs ts i' j' (L.drop r) fs.length ts.length) (hb : r = L.length ∨ L.getD r 0 = 32) : SI fs ts L r i' j' := by
  refine ⟨hr, e1, e2, h.c, .inr (.inr hb), h.s.mono ?_⟩
  intro p' n op g1 g2 g3 g4 g5 g6 g7 g8
  have hpb : p = 0 ∨ L.getD (p - 1) 0 = 32 := by
    rcases h.b with b | b | b | b
    · exact .inl b
    · exact .inr b
    · omega
    · exact absurd b (hn p (Nat.le_refl _) (by omega))
  -- the run begins at p
  have hp' : p' = p := by
    rcases Nat.lt_trichotomy p' p with l | l | l
    · exfalso
      rcases hpb with z | z
      · omega
      · have := g7 (p - 1 - p') (by omega)
        rw [show p' + (p - 1 - p') = p - 1 by omega] at this
        exact g1 (by rw [← this]; exact z)
    · exact l
    · exfalso
      rcases g6 with z | z
      · omega
      · exact hn (p' - 1) (by omega) (by omega) z
  subst hp'
  have hrn : p' + n = r := by
    rcases Nat.lt_or_ge (p' + n) r with l | l
    · exfalso
      rcases g8 with z | z
      · omega
      · exact hn (p' + n) (by omega) l z
    · omega
  have a := g7 0 (by omega)
  have b := g7 (q - p') (by omega)
  rw [show p' + (q - p') = q by omega] at b
  rw [Nat.add_zero] at a
  exact hq (by rw [a, b])
theorem five {X : List Int} {a s n r : Nat} {op : Int} (hl : a + s + n + r ≤ X.length) (h1 : ∀ i, a ≤ i → i < a + s → X.getD i 0 = 32) (h2 : ∀ i, a + s ≤ i → i < a + s + n → X.getD i 0 = op) (h3 : ∀ i, a + s + n ≤ i → i < a + s + n + r → X.getD i 0 = 32) :
    X = X.take a ++ (List.replicate s 32 ++ (List.replicate n op ++ (List.replicate r 32 ++ X.drop (a + s + n + r)))) := by
  have e1 := split_rep (L := X) (a := a) (b := a + s) (x := 32) (by omega) (by omega) h1
  have e2 := split_rep (L := X.drop (a + s)) (a := 0) (b := n) (x := op) (by omega) (by simp; omega) (fun i _ hi => by
    have := h2 (a + s + i) (by omega) (by omega)
    rw [List.getD_eq_getElem?_getD] at this ⊢
    rw [List.getElem?_drop]; exact this)
  have e3 := split_rep (L := X.drop (a + s + n)) (a := 0) (b := r) (x := 32) (by omega) (by simp; omega) (fun i _ hi => by
    have := h3 (a + s + n + i) (by omega) (by omega)
    rw [List.getD_eq_getElem?_getD] at this ⊢
    rw [List.getElem?_drop]; exact this)
  simp only [List.take_zero, List.nil_append, Nat.sub_zero, List.drop_drop] at e2 e3
  rw [show a + s - a = s by omega, List.append_assoc] at e1
  rw [e2, e3] at e1
  exact e1
theorem take_fill (X : List Int) (lo hi : Nat) (x : Int) (a : Nat) (h : a ≤ lo) (hl : lo ≤ X.length) : (fill X lo hi x).take a = X.take a := by
  unfold fill
  rw [List.append_assoc, List.take_append_of_le_length (by simp; omega), List.take_take, Nat.min_eq_left h]
theorem drop_fill (X : List Int) (lo hi : Nat) (x : Int) (b : Nat) (h0 : lo ≤ hi) (h : hi ≤ b) (hl : hi ≤ X.length) : (fill X lo hi x).drop b = X.drop b := by
  unfold fill
  rw [List.drop_append, List.drop_eq_nil_of_le (by simp; omega), List.nil_append, List.drop_drop]
  congr 1
  simp
  omega
/-- a pure run moves: the script leads where it led -/
theorem slide_ed {fs ts : List ByteArray} {A C : List Int} {u n d s : Nat} {op : Int} (hop : op = 45 ∨ op = 43) (hs : s ≤ u + d)
    (hE : Ed fs ts 0 0 (A ++ (List.replicate u 32 ++ (List.replicate n op ++ (List.replicate d 32 ++ C)))) fs.length ts.length) :
    ∃ i0 j0, Ed fs ts 0 0 A i0 j0 ∧ i0 + u + d + (if op = 45 then n else 0) ≤ fs.length ∧ j0 + u + d + (if op = 45 then 0 else n) ≤ ts.length ∧
      ((∀ t, t < u + d → (if op = 45 then fs else ts).getD ((if op = 45 then i0 else j0) + t) ByteArray.empty = (if op = 45 then fs else ts).getD ((if op = 45 then i0 else j0) + t + n) ByteArray.empty) →
        Ed fs ts 0 0 (A ++ List.replicate s 32) (i0 + s) (j0 + s) ∧ Ed fs ts 0 0 (A ++ (List.replicate s 32 ++ List.replicate n op)) (i0 + s + (if op = 45 then n else 0)) (j0 + s + (if op = 45 then 0 else n)) ∧
        Ed fs ts (i0 + s + (if op = 45 then n else 0)) (j0 + s + (if op = 45 then 0 else n)) (List.replicate (u + d - s) 32 ++ C) fs.length ts.length) := by
  obtain ⟨i0, j0, E0, hE⟩ := hE.split
  obtain ⟨i1, j1, E1, hE⟩ := hE.split
  obtain ⟨i2, j2, E2, hE⟩ := hE.split
  obtain ⟨i3, j3, E3, E4⟩ := hE.split
  obtain ⟨rfl, rfl, b1, k1⟩ := E1.keeps_inv
  obtain ⟨rfl, rfl, b3, k3⟩ := E3.keeps_inv
  have l4 := E4.len
  refine ⟨i0, j0, E0, ?_⟩
  rcases hop with rfl | rfl
  · obtain ⟨rfl, rfl, b2⟩ := E2.rems_inv
    simp only [if_true]
    refine ⟨by omega, by omega, fun hm => ?_⟩
    have K1 : Ed fs ts i0 j0 (List.replicate s 32) (i0 + s) (j0 + s) := Ed.keeps s i0 j0 (by omega) (by omega) (fun t ht => by
      by_cases q : t < u
      · exact k1 t q
      · have a := k3 (t - u) (by omega)
        have b := hm t (by omega)
        rw [show i0 + u + n + (t - u) = i0 + t + n by omega, show j0 + u + (t - u) = j0 + t by omega] at a
        rw [b, a])
    have K2 : Ed fs ts (i0 + s) (j0 + s) (List.replicate n 45) (i0 + s + n) (j0 + s) := Ed.rems n (i0 + s) (j0 + s) (by omega)
    have K3 : Ed fs ts (i0 + s + n) (j0 + s) (List.replicate (u + d - s) 32) (i0 + u + n + d) (j0 + u + d) := by
      have h := Ed.keeps (fs := fs) (ts := ts) (u + d - s) (i0 + s + n) (j0 + s) (by omega) (by omega) (fun t ht => by
        by_cases q : s + t < u
        · have a := k1 (s + t) q
          have b := hm (s + t) (by omega)
          rw [show i0 + (s + t) + n = i0 + s + n + t by omega] at b
          rw [← b, show j0 + s + t = j0 + (s + t) by omega, ← a]
        · have a := k3 (s + t - u) (by omega)
          rw [show i0 + u + n + (s + t - u) = i0 + s + n + t by omega, show j0 + u + (s + t - u) = j0 + s + t by omega] at a
          exact a)
      rw [show i0 + s + n + (u + d - s) = i0 + u + n + d by omega, show j0 + s + (u + d - s) = j0 + u + d by omega] at h
      exact h
    exact ⟨E0.append K1, E0.append (K1.append K2), K3.append E4⟩
  · obtain ⟨rfl, rfl, b2⟩ := E2.adds_inv
    simp only [show ¬ ((43 : Int) = 45) by decide, if_false]
    refine ⟨by omega, by omega, fun hm => ?_⟩
    have K1 : Ed fs ts i0 j0 (List.replicate s 32) (i0 + s) (j0 + s) := Ed.keeps s i0 j0 (by omega) (by omega) (fun t ht => by
      by_cases q : t < u
      · exact k1 t q
      · have a := k3 (t - u) (by omega)
        have b := hm t (by omega)
        rw [show j0 + u + n + (t - u) = j0 + t + n by omega, show i0 + u + (t - u) = i0 + t by omega] at a
        rw [b, a])
    have K2 : Ed fs ts (i0 + s) (j0 + s) (List.replicate n 43) (i0 + s) (j0 + s + n) := Ed.adds n (i0 + s) (j0 + s) (by omega)
    have K3 : Ed fs ts (i0 + s) (j0 + s + n) (List.replicate (u + d - s) 32) (i0 + u + d) (j0 + u + n + d) := by
      have h := Ed.keeps (fs := fs) (ts := ts) (u + d - s) (i0 + s) (j0 + s + n) (by omega) (by omega) (fun t ht => by
        by_cases q : s + t < u
        · have a := k1 (s + t) q
          have b := hm (s + t) (by omega)
          rw [show j0 + (s + t) + n = j0 + s + n + t by omega] at b
          rw [← b, show i0 + s + t = i0 + (s + t) by omega, ← a]
        · have a := k3 (s + t - u) (by omega)
          rw [show j0 + u + n + (s + t - u) = j0 + s + n + t by omega, show i0 + u + (s + t - u) = i0 + s + t by omega] at a
          exact a)
      rw [show i0 + s + (u + d - s) = i0 + u + d by omega, show j0 + s + n + (u + d - s) = j0 + u + n + d by omega] at h
      exact h
    exact ⟨E0.append K1, E0.append (K1.append K2), K3.append E4⟩
/-- .. and each run stays in order -/
theorem cst_last {A : List Int} (h : cst false A ≠ none) (hl : A = [] ∨ A.getD (A.length - 1) 0 = 32) : cst false A = some false := by
  rcases hl with rfl | hl
  · rfl
  · by_cases h0 : A = []
    · subst h0; rfl
    · have hlen : 0 < A.length := List.length_pos_iff.2 h0
      have e := take_succ (L := A) (p := A.length - 1) (by omega)
      rw [show A.length - 1 + 1 = A.length by omega, List.take_length, hl] at e
      rw [e, cst_append] at h ⊢
      cases q : cst false (A.take (A.length - 1)) with
      | none => rw [q] at h; exact absurd rfl h
      | some s => simp [cst]
theorem slide_cst {A C : List Int} {u n d s : Nat} {op : Int} (hop : op = 45 ∨ op = 43) (hs : s ≤ u + d) (hc : cst false (A ++ (List.replicate u 32 ++ (List.replicate n op ++ (List.replicate d 32 ++ C)))) ≠ none)
    (hA : A = [] ∨ A.getD (A.length - 1) 0 = 32) (hC : C = [] ∨ C.getD 0 0 = 32) : cst false (A ++ (List.replicate s 32 ++ (List.replicate n op ++ (List.replicate (u + d - s) 32 ++ C)))) ≠ none := by
  have hA1 : cst false A ≠ none := fun h => by rw [cst_append, h] at hc; exact hc rfl
  have hA2 := cst_last hA1 hA
  have hk : ∀ c, cst false (List.replicate c 32) = some false := fun c => by rw [cst_keeps]; split <;> rfl
  have hr : ∃ s, cst false (List.replicate n op) = some s := by
    rcases hop with rfl | rfl
    · exact ⟨_, cst_rems n⟩
    · exact ⟨_, cst_adds n false⟩
  obtain ⟨z, hz⟩ := hr
  have hCC : ∀ (b b' : Bool), C ≠ [] → cst b C = cst b' C := fun b b' h0 => by
    rcases hC with h | h
    · exact absurd h h0
    · cases C with
      | nil => exact absurd rfl h0
      | cons x C =>
        have : x = 32 := h
        rw [cst_false_of (s := b) this, cst_false_of (s := b') this]
  rw [cst_append, hA2] at hc ⊢
  simp only [Option.bind_some, cst_append, hk, hz] at hc ⊢
  rw [cst_keeps, Option.bind_some] at hc ⊢
  by_cases h0 : C = []
  · subst h0; simp [cst]
  · rw [hCC _ _ h0] at hc
    exact hc
theorem getD_ge (L : List Int) (i : Nat) (h : L.length ≤ i) : L.getD i 0 = 0 := by rw [List.getD_eq_getElem?_getD, List.getElem?_eq_none h]; rfl
theorem getD_take {L : List Int} {a i : Nat} (h : i < a) : (L.take a).getD i 0 = L.getD i 0 := by rw [List.getD_eq_getElem?_getD, List.getElem?_take, if_pos h, ← List.getD_eq_getElem?_getD]
theorem getD_drop {L : List Int} {a i : Nat} : (L.drop a).getD i 0 = L.getD (a + i) 0 := by rw [List.getD_eq_getElem?_getD, List.getElem?_drop, ← List.getD_eq_getElem?_getD]
/-- kept ops just ahead of p: so many lines lie ahead -/
theorem ed_back {fs ts : List ByteArray} {L : List Int} {p i j c : Nat} (hp : p ≤ L.length) (e1 : Ed fs ts 0 0 (L.take p) i j) (hc : c ≤ p) (hk : ∀ t, t < c → L.getD (p - 1 - t) 0 = 32) : c ≤ i ∧ c ≤ j := by
  have e := split_rep (L := L.take p) (a := p - c) (b := p) (x := 32) (by omega) (by simp; omega) (fun i h1 h2 => by
    rw [getD_take h2]
    have := hk (p - 1 - i) (by omega)
    rw [show p - 1 - (p - 1 - i) = i by omega] at this
    exact this)
  rw [show p - (p - c) = c by omega, List.drop_eq_nil_of_le (by simp; omega), List.append_nil] at e
  rw [e] at e1
  obtain ⟨i0, j0, _, E⟩ := e1.split
  have := E.keeps_inv
  omega
/-- a pure run of n ops at p, and c kept ops behind it: so many lines are left -/
theorem ed_fwd {fs ts : List ByteArray} {L : List Int} {p n i j c : Nat} {op : Int} (hop : op = 45 ∨ op = 43) (hp : p + n + c ≤ L.length) (e2 : Ed fs ts i j (L.drop p) fs.length ts.length) (h1 : ∀ t, t < n → L.getD (p + t) 0 = op) (hk : ∀ t, t < c → L.getD (p + n + t) 0 = 32) :
    (if op = 45 then i else j) + n + c ≤ (if op = 45 then fs else ts).length := by
  have e := five (X := L.drop p) (a := 0) (s := 0) (n := n) (r := c) (op := op) (by simp; omega) (fun i h1 h2 => by omega) (fun i _ h2 => by rw [getD_drop]; exact h1 i (by omega)) (fun i a b => by rw [getD_drop]; have := hk (i - n) (by omega); rw [show p + n + (i - n) = p + i by omega] at this; exact this)
  simp only [List.take_zero, List.nil_append, List.replicate_zero] at e
  rw [e] at e2
  obtain ⟨i1, j1, E1, e2⟩ := e2.split
  obtain ⟨i2, j2, E2, E3⟩ := e2.split
  have k2 := E2.keeps_inv
  have l3 := E3.len
  rcases hop with rfl | rfl
  · have k1 := E1.rems_inv
    simp only [if_true]
    omega
  · have k1 := E1.adds_inv
    simp only [show ¬ ((43 : Int) = 45) by decide, if_false]
    omega
/-- what slide finds out of a pure run -/
structure Fd (L : List Int) (ls : List ByteArray) (p q a up dn : Nat) (op : Int) : Prop where
  pq : p < q
  ql : q + dn ≤ L.length
  run : ∀ t, p ≤ t → t < q → L.getD t 0 = op
  qb : q = L.length ∨ L.getD q 0 = 32
  pu : up ≤ p
  au : up ≤ a
  ku : ∀ t, t < up → L.getD (p - 1 - t) 0 = 32
  ub : up = p ∨ L.getD (p - up - 1) 0 = 32
  kd : ∀ t, t < dn → L.getD (q + t) 0 = 32
  db : q + dn = L.length ∨ L.getD (q + dn) 0 = 32
  mt : ∀ t, t < up + dn → ls.getD (a - up + t) ByteArray.empty = ls.getD (a - up + t + (q - p)) ByteArray.empty
  stop : ¬ Up L ls p (q - p) a (up + 1)
theorem si_slide {fs ts : List ByteArray} {L : List Int} {p q i j up dn s : Nat} {op : Int} (h : SI fs ts L p i j) (hop : op = 45 ∨ op = 43) (hf : Fd L (if op = 45 then fs else ts) p q (if op = 45 then i else j) up dn op) (hs : s ≤ up + dn)
    (hmin : ∀ t, t ≤ up + dn → ind ((if op = 45 then fs else ts).getD ((if op = 45 then i else j) - up + s) ByteArray.empty) ≤ ind ((if op = 45 then fs else ts).getD ((if op = 45 then i else j) - up + t) ByteArray.empty)) :
    SI fs ts (fill (fill L (p - up) (q + dn) 32) (p - up + s) (p - up + s + (q - p)) op) (p - up + s + (q - p)) (i - up + s + (if op = 45 then q - p else 0)) (j - up + s + (if op = 45 then 0 else q - p)) := by
  have hpq := hf.pq
  have hql := hf.ql
  have hpu := hf.pu
  have hop32 : op ≠ 32 := by omega
  obtain ⟨n, hn⟩ : ∃ n, q = p + n := ⟨q - p, by omega⟩
  obtain ⟨P, hP⟩ : ∃ P, p = P + up := ⟨p - up, by omega⟩
  subst hn
  subst hP
  have en : P + up + n - (P + up) = n := by omega
  have eP : P + up - up = P := by omega
  have hmt := hf.mt
  have hstop := hf.stop
  rw [en] at hmt hstop
  rw [en, eP]
  obtain ⟨L', hL'⟩ : ∃ L', fill (fill L P (P + up + n + dn) 32) (P + s) (P + s + n) op = L' := ⟨_, rfl⟩
  rw [hL']
  have lF : (fill L P (P + up + n + dn) 32).length = L.length := fill_length _ _ _ _ (by omega) (by omega)
  have lL : L'.length = L.length := by rw [← hL', fill_length _ _ _ _ (by omega) (by omega), lF]
  have gL : ∀ t, L'.getD t 0 = if P + s ≤ t ∧ t < P + s + n then op else if P ≤ t ∧ t < P + up + n + dn then 32 else L.getD t 0 := fun t => by
    rw [← hL', getD_fill _ _ _ _ (by omega) (by omega), getD_fill _ _ _ _ (by omega) (by omega)]
  have tL : ∀ a, a ≤ P → L'.take a = L.take a := fun a ha => by rw [← hL', take_fill _ _ _ _ _ (by omega) (by omega), take_fill _ _ _ _ _ ha (by omega)]
  have dL : L'.drop (P + up + n + dn) = L.drop (P + up + n + dn) := by rw [← hL', drop_fill _ _ _ _ _ (by omega) (by omega) (by omega), drop_fill _ _ _ _ _ (by omega) (by omega) (by omega)]
  have d1 := five (X := L) (a := P) (s := up) (n := n) (r := dn) (op := op) (by omega) (fun t a b => by have := hf.ku (P + up - 1 - t) (by omega); rw [show P + up - 1 - (P + up - 1 - t) = t by omega] at this; exact this) (fun t a b => hf.run t (by omega) (by omega)) (fun t a b => by have := hf.kd (t - (P + up + n)) (by omega); rw [show P + up + n + (t - (P + up + n)) = t by omega] at this; exact this)
  have d2 := five (X := L') (a := P) (s := s) (n := n) (r := up + dn - s) (op := op) (by omega) (fun t a b => by rw [gL, if_neg (by omega), if_pos (by omega)]) (fun t a b => by rw [gL, if_pos (by omega)]) (fun t a b => by rw [gL, if_neg (by omega), if_pos (by omega)])
  rw [show P + s + n + (up + dn - s) = P + up + n + dn by omega, dL, tL P (Nat.le_refl _)] at d2
  have hwhole : Ed fs ts 0 0 L fs.length ts.length := by
    have := h.e1.append h.e2
    rwa [List.take_append_drop] at this
  rw [d1] at hwhole
  obtain ⟨i0, j0, E0, b1, b2, key⟩ := slide_ed (s := s) hop hs hwhole
  -- where the run stood
  have hij : i = i0 + up ∧ j = j0 + up := by
    have e1 := h.e1
    have : L.take (P + up) = L.take P ++ List.replicate up 32 := by
      have q1 := split_rep (L := L.take (P + up)) (a := P) (b := P + up) (x := 32) (by omega) (by simp; omega) (fun t a b => by rw [getD_take b]; have := hf.ku (P + up - 1 - t) (by omega); rw [show P + up - 1 - (P + up - 1 - t) = t by omega] at this; exact this)
      rw [show P + up - P = up by omega, List.drop_eq_nil_of_le (by simp; omega), List.append_nil, List.take_take, Nat.min_eq_left (by omega)] at q1
      exact q1
    rw [this] at e1
    obtain ⟨i5, j5, E5, E6⟩ := e1.split
    obtain ⟨r1, r2⟩ : i5 = i0 ∧ j5 = j0 := ed_fun E5 E0
    have := E6.keeps_inv
    omega
  obtain ⟨rfl, rfl⟩ := hij
  have ea : (if op = 45 then i0 + up else j0 + up) - up = (if op = 45 then i0 else j0) := by split <;> omega
  rw [ea] at hmt hmin
  obtain ⟨k1, k2, k3⟩ := key (fun t ht => hmt t ht)
  rw [show i0 + up - up + s = i0 + s by omega, show j0 + up - up + s = j0 + s by omega]
  have tk : L'.take (P + s + n) = L.take P ++ (List.replicate s 32 ++ List.replicate n op) := by
    have := congrArg (List.take (P + s + n)) d2
    rw [this, ← List.append_assoc (List.replicate s 32), ← List.append_assoc (L.take P), List.take_append_of_le_length (by simp; omega), List.take_of_length_le (by simp; omega)]
  have dk : L'.drop (P + s + n) = List.replicate (up + dn - s) 32 ++ L.drop (P + up + n + dn) := by
    have := congrArg (List.drop (P + s + n)) d2
    rw [this, ← List.append_assoc (List.replicate s 32), ← List.append_assoc (L.take P), List.drop_append, List.drop_eq_nil_of_le (by simp; omega), List.nil_append]
    rw [show P + s + n - (List.take P L ++ (List.replicate s (32 : Int) ++ List.replicate n op)).length = 0 by simp; omega]
    rfl
  refine ⟨by omega, by rw [tk]; exact k2, by rw [dk]; exact k3, ?_, ?_, ?_⟩
  · rw [d2]
    refine slide_cst hop hs (by rw [← d1]; exact h.c) ?_ ?_
    · rcases hf.ub with e | e
      · left
        have : P = 0 := by omega
        subst this; rfl
      · by_cases hP0 : P = 0
        · left; subst hP0; rfl
        · right
          rw [List.length_take, Nat.min_eq_left (by omega), getD_take (by omega)]
          rw [show P + up - up - 1 = P - 1 by omega] at e
          exact e
    · rcases hf.db with e | e
      · left
        exact List.drop_eq_nil_of_le (by omega)
      · right
        rw [getD_drop]; exact e
  · right; right
    by_cases e : P + s + n = L.length
    · left; omega
    · right
      rw [gL, if_neg (by omega)]
      by_cases g : P + s + n < P + up + n + dn
      · rw [if_pos (by omega)]
      · rw [if_neg (by omega)]
        rcases hf.db with z | z
        · omega
        · rw [show P + s + n = P + up + n + dn by omega]; exact z
  · intro p' n' op' i' j' g1 g2 g3 g4 g5 g6 g7 g8
    have hub : P = 0 ∨ L'.getD (P - 1) 0 = 32 := by
      rcases hf.ub with e | e
      · left; omega
      · by_cases hP0 : P = 0
        · exact .inl hP0
        · right
          rw [gL, if_neg (by omega), if_neg (by omega)]
          rw [show P + up - up - 1 = P - 1 by omega] at e
          exact e
    by_cases c1 : p' + n' ≤ P
    · -- an earlier run
      have o : ∀ t, t < P → L'.getD t 0 = L.getD t 0 := fun t ht => by rw [gL, if_neg (by omega), if_neg (by omega)]
      have g7' : ∀ t, t < n' → L.getD (p' + t) 0 = op' := fun t ht => by rw [← o _ (by omega)]; exact g6 t ht
      have g8' : p' + n' = L.length ∨ L.getD (p' + n') 0 = 32 := by
        rcases g7 with z | z
        · left; omega
        · right
          by_cases c2 : p' + n' < P
          · rw [← o _ c2]; exact z
          · have e : p' + n' = P := by omega
            exfalso
            rcases hub with y | y
            · omega
            · have := g6 (n' - 1) (by omega)
              rw [show p' + (n' - 1) = P - 1 by omega] at this
              exact g1 (by rw [← this]; exact y)
      have g5' : p' = 0 ∨ L.getD (p' - 1) 0 = 32 := by
        rcases g5 with z | z
        · exact .inl z
        · by_cases z0 : p' = 0
          · exact .inl z0
          · right; rw [← o _ (by omega)]; exact z
      have hLow := h.s p' n' op' i' j' g1 g2 (by omega) (by omega) g5' g7' g8' (by rw [← tL p' (by omega)]; exact g8)
      intro x hx hu
      refine hLow x hx (fun y h1 h2 => ?_)
      obtain ⟨a1, a2, a3, a4, a5⟩ := hu y h1 h2
      refine ⟨a1, a2, by rw [← o _ (by omega)]; exact a3, ?_, a5⟩
      rcases a4 with z | z
      · exact .inl z
      · by_cases z0 : p' = y
        · exact .inl z0
        · right; rw [← o _ (by omega)]; exact z
    · -- the run itself
      have hin : ∀ t, t < n' → P + s ≤ p' + t ∧ p' + t < P + s + n := fun t ht => by
        have z := g6 t ht
        have hne : L'.getD (p' + t) 0 ≠ 32 := by rw [z]; exact g1
        by_cases y : P + s ≤ p' + t ∧ p' + t < P + s + n
        · exact y
        · exfalso
          rw [gL, if_neg y] at hne
          by_cases y2 : P ≤ p' + t ∧ p' + t < P + up + n + dn
          · rw [if_pos y2] at hne; exact hne rfl
          · -- ahead of P: then the run runs through P - 1
            have hlt : p' + t < P := by omega
            rcases hub with v | v
            · omega
            · have := g6 (P - 1 - p') (by omega)
              rw [show p' + (P - 1 - p') = P - 1 by omega] at this
              exact g1 (by rw [← this]; exact v)
      have hop' : op' = op := by
        have z := g6 0 g2
        have y := hin 0 g2
        rw [gL, if_pos y] at z
        exact z.symm
      have hp' : p' = P + s := by
        have y := hin 0 g2
        rcases Nat.eq_or_lt_of_le y.1 with e | e
        · omega
        · exfalso
          rcases g5 with z | z
          · omega
          · rw [gL, if_pos (by omega)] at z
            exact hop32 z
      have hn' : n' = n := by
        have y := hin (n' - 1) (by omega)
        rcases Nat.lt_or_ge n' n with e | e
        · exfalso
          rcases g7 with z | z
          · omega
          · rw [gL, if_pos (by omega)] at z
            exact hop32 z
        · omega
      subst hop'
      subst hp'
      subst hn'
      have tk2 : L'.take (P + s) = L.take P ++ List.replicate s 32 := by
        have := congrArg (List.take (P + s)) d2
        rw [this, ← List.append_assoc (L.take P), List.take_append_of_le_length (by simp; omega), List.take_of_length_le (by simp; omega)]
      rw [tk2] at g8
      obtain ⟨rfl, rfl⟩ := ed_fun g8 k1
      have e45 : (if op' = 45 then i0 + s else j0 + s) = (if op' = 45 then i0 else j0) + s := by split <;> rfl
      have e45u : (if op' = 45 then i0 + up else j0 + up) = (if op' = 45 then i0 else j0) + up := by split <;> rfl
      rw [e45]
      rw [e45u] at hstop
      generalize (if op' = 45 then i0 else j0) = a0 at *
      generalize (if op' = 45 then fs else ts) = ls at *
      intro x hx hu
      have hxs : x ≤ s := by
        rcases Nat.lt_or_ge s x with y | y
        · exfalso
          obtain ⟨a1, a2, a3, a4, a5⟩ := hu (s + 1) (by omega) (by omega)
          apply hstop
          refine ⟨by omega, by omega, ?_, ?_, ?_⟩
          · rw [gL, if_neg (by omega), if_neg (by omega)] at a3
            rw [show P + up - (up + 1) = P + s - (s + 1) by omega]; exact a3
          · rcases a4 with z | z
            · left; omega
            · by_cases z0 : P = 1
              · left; omega
              · right
                rw [gL, if_neg (by omega), if_neg (by omega)] at z
                rw [show P + up - (up + 1) - 1 = P + s - (s + 1) - 1 by omega]; exact z
          · rw [show a0 + up - (up + 1) = a0 + s - (s + 1) by omega]; exact a5
        · exact y
      have := hmin (s - x) (by omega)
      rw [show a0 + (s - x) = a0 + s - x by omega] at this
      exact this
end Go.Proofs.Qxb6606346aDoor
