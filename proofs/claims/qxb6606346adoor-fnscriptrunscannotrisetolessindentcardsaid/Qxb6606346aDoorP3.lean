import Derived.Test.Qxb6606346aDoorP2
set_option linter.unusedVariables false
set_option linter.unusedSimpArgs false
namespace Go.Proofs.Qxb6606346aDoor
/-! ### edit scripts in plain terms: 32 kept, 45 removed, 43 added -/
/-- L leads from line i of fs and line j of ts to i' and j' -/
inductive Ed (fs ts : List ByteArray) : Nat → Nat → List Int → Nat → Nat → Prop where
  | nil (i j : Nat) : Ed fs ts i j [] i j
  | kept {i j i' j' : Nat} {L : List Int} (hi : i < fs.length) (hj : j < ts.length) (he : fs.getD i ByteArray.empty = ts.getD j ByteArray.empty) (h : Ed fs ts (i + 1) (j + 1) L i' j') : Ed fs ts i j (32 :: L) i' j'
  | rem {i j i' j' : Nat} {L : List Int} (hi : i < fs.length) (h : Ed fs ts (i + 1) j L i' j') : Ed fs ts i j (45 :: L) i' j'
  | add {i j i' j' : Nat} {L : List Int} (hj : j < ts.length) (h : Ed fs ts i (j + 1) L i' j') : Ed fs ts i j (43 :: L) i' j'
theorem Ed.append {fs ts : List ByteArray} {i j i' j' i2 j2 : Nat} {L M : List Int} (h : Ed fs ts i j L i' j') (k : Ed fs ts i' j' M i2 j2) : Ed fs ts i j (L ++ M) i2 j2 := by
  induction h with
  | nil => exact k
  | kept hi hj he _ ih => exact .kept hi hj he (ih k)
  | rem hi _ ih => exact .rem hi (ih k)
  | add hj _ ih => exact .add hj (ih k)
theorem Ed.split {fs ts : List ByteArray} : ∀ {L M : List Int} {i j i2 j2 : Nat}, Ed fs ts i j (L ++ M) i2 j2 → ∃ i' j', Ed fs ts i j L i' j' ∧ Ed fs ts i' j' M i2 j2
  | [], M, i, j, i2, j2, h => ⟨i, j, .nil i j, h⟩
  | x :: L, M, i, j, i2, j2, h => by
    cases h with
    | kept hi hj he h => obtain ⟨a, b, h1, h2⟩ := Ed.split h; exact ⟨a, b, .kept hi hj he h1, h2⟩
    | rem hi h => obtain ⟨a, b, h1, h2⟩ := Ed.split h; exact ⟨a, b, .rem hi h1, h2⟩
    | add hj h => obtain ⟨a, b, h1, h2⟩ := Ed.split h; exact ⟨a, b, .add hj h1, h2⟩
/-- every op moves on by a line; none by more -/
theorem Ed.len {fs ts : List ByteArray} {i j i' j' : Nat} {L : List Int} (h : Ed fs ts i j L i' j') : i ≤ i' ∧ j ≤ j' ∧ L.length ≤ (i' - i) + (j' - j) := by
  induction h with
  | nil => simp
  | kept hi hj he _ ih => simp only [List.length_cons]; omega
  | rem hi _ ih => simp only [List.length_cons]; omega
  | add hj _ ih => simp only [List.length_cons]; omega
theorem Ed.ops {fs ts : List ByteArray} {i j i' j' : Nat} {L : List Int} (h : Ed fs ts i j L i' j') : ∀ x ∈ L, x = 32 ∨ x = 45 ∨ x = 43 := by
  induction h with
  | nil => intro x hx; cases hx
  | kept _ _ _ _ ih => exact fun x hx => (List.mem_cons.1 hx).elim (fun e => by rw [e]; exact .inl rfl) (fun h => ih x h)
  | rem _ _ ih => exact fun x hx => (List.mem_cons.1 hx).elim (fun e => by rw [e]; exact .inr (.inl rfl)) (fun h => ih x h)
  | add _ _ ih => exact fun x hx => (List.mem_cons.1 hx).elim (fun e => by rw [e]; exact .inr (.inr rfl)) (fun h => ih x h)
/-- kept lines in a row -/
theorem Ed.keeps {fs ts : List ByteArray} : ∀ (c i j : Nat), i + c ≤ fs.length → j + c ≤ ts.length → (∀ t, t < c → fs.getD (i + t) ByteArray.empty = ts.getD (j + t) ByteArray.empty) → Ed fs ts i j (List.replicate c 32) (i + c) (j + c)
  | 0, i, j, _, _, _ => .nil i j
  | c + 1, i, j, h1, h2, he => by
    rw [List.replicate_succ]
    have h := Ed.keeps (fs := fs) (ts := ts) c (i + 1) (j + 1) (by omega) (by omega) (fun t ht => by have := he (t + 1) (by omega); rw [show i + 1 + t = i + (t + 1) by omega, show j + 1 + t = j + (t + 1) by omega]; exact this)
    rw [show i + 1 + c = i + (c + 1) by omega, show j + 1 + c = j + (c + 1) by omega] at h
    exact .kept (by omega) (by omega) (he 0 (by omega)) h
theorem Ed.keeps_inv {fs ts : List ByteArray} : ∀ {c i j i' j' : Nat}, Ed fs ts i j (List.replicate c 32) i' j' → i' = i + c ∧ j' = j + c ∧ (0 < c → i + c ≤ fs.length ∧ j + c ≤ ts.length) ∧ ∀ t, t < c → fs.getD (i + t) ByteArray.empty = ts.getD (j + t) ByteArray.empty
  | 0, i, j, i', j', h => by cases h; exact ⟨rfl, rfl, fun h => absurd h (Nat.lt_irrefl 0), fun t ht => absurd ht (Nat.not_lt_zero t)⟩
  | c + 1, i, j, i', j', h => by
    rw [List.replicate_succ] at h
    cases h with
    | kept hi hj he h =>
      obtain ⟨a, b, p, q⟩ := Ed.keeps_inv h
      refine ⟨by omega, by omega, fun _ => ?_, fun t ht => ?_⟩
      · by_cases hc : 0 < c
        · have := p hc; omega
        · omega
      · cases t with
        | zero => exact he
        | succ t => have := q t (by omega); rw [show i + 1 + t = i + (t + 1) by omega, show j + 1 + t = j + (t + 1) by omega] at this; exact this
theorem Ed.rems {fs ts : List ByteArray} : ∀ (c i j : Nat), i + c ≤ fs.length → Ed fs ts i j (List.replicate c 45) (i + c) j
  | 0, i, j, _ => .nil i j
  | c + 1, i, j, h1 => by
    rw [List.replicate_succ]
    have h := Ed.rems (fs := fs) (ts := ts) c (i + 1) j (by omega)
    rw [show i + 1 + c = i + (c + 1) by omega] at h
    exact .rem (by omega) h
theorem Ed.adds {fs ts : List ByteArray} : ∀ (c i j : Nat), j + c ≤ ts.length → Ed fs ts i j (List.replicate c 43) i (j + c)
  | 0, i, j, _ => .nil i j
  | c + 1, i, j, h1 => by
    rw [List.replicate_succ]
    have h := Ed.adds (fs := fs) (ts := ts) c i (j + 1) (by omega)
    rw [show j + 1 + c = j + (c + 1) by omega] at h
    exact .add (by omega) h
theorem Ed.rems_inv {fs ts : List ByteArray} : ∀ {c i j i' j' : Nat}, Ed fs ts i j (List.replicate c 45) i' j' → i' = i + c ∧ j' = j ∧ (0 < c → i + c ≤ fs.length)
  | 0, i, j, i', j', h => by cases h; exact ⟨rfl, rfl, fun h => absurd h (Nat.lt_irrefl 0)⟩
  | c + 1, i, j, i', j', h => by
    rw [List.replicate_succ] at h
    cases h with
    | rem hi h =>
      obtain ⟨a, b, p⟩ := Ed.rems_inv h
      refine ⟨by omega, b, fun _ => ?_⟩
      by_cases hc : 0 < c
      · have := p hc; omega
      · omega
theorem Ed.adds_inv {fs ts : List ByteArray} : ∀ {c i j i' j' : Nat}, Ed fs ts i j (List.replicate c 43) i' j' → i' = i ∧ j' = j + c ∧ (0 < c → j + c ≤ ts.length)
  | 0, i, j, i', j', h => by cases h; exact ⟨rfl, rfl, fun h => absurd h (Nat.lt_irrefl 0)⟩
  | c + 1, i, j, i', j', h => by
    rw [List.replicate_succ] at h
    cases h with
    | add hj h =>
      obtain ⟨a, b, p⟩ := Ed.adds_inv h
      refine ⟨a, by omega, fun _ => ?_⟩
      by_cases hc : 0 < c
      · have := p hc; omega
      · omega
/-! ### the order within runs -/
/-- state (an added line seen in this run) behind L; none: a removed line behind an added one -/
def cst : Bool → List Int → Option Bool
  | s, [] => some s
  | s, x :: L => if x = 32 then cst false L else if x = 43 then cst true L else if s = true then none else cst false L
theorem cst_append (L M : List Int) : ∀ s, cst s (L ++ M) = (cst s L).bind (fun s' => cst s' M) := by
  induction L with
  | nil => intro s; rfl
  | cons x L ih =>
    intro s
    simp only [List.cons_append, cst]
    split
    · exact ih false
    · split
      · exact ih true
      · split
        · rfl
        · exact ih false
theorem cst_keeps : ∀ (c : Nat) (s : Bool), cst s (List.replicate c 32) = some (if c = 0 then s else false)
  | 0, s => rfl
  | c + 1, s => by
    rw [List.replicate_succ]
    simp only [cst, if_true]
    rw [cst_keeps c false]
    simp
theorem cst_adds : ∀ (c : Nat) (s : Bool), cst s (List.replicate c 43) = some (if c = 0 then s else true)
  | 0, s => rfl
  | c + 1, s => by
    rw [List.replicate_succ]
    simp only [cst, if_true]
    rw [if_neg (by decide), cst_adds c true]
    simp
theorem cst_rems : ∀ (c : Nat), cst false (List.replicate c 45) = some false
  | 0 => rfl
  | c + 1 => by
    rw [List.replicate_succ]
    simp only [cst]
    rw [if_neg (by decide), if_neg (by decide), if_neg (by decide), cst_rems c]
theorem cst_false_of {s : Bool} {x : Int} {L : List Int} (h : x = 32) : cst s (x :: L) = cst false (x :: L) := by simp [cst, h]
/-! ### filling -/
def fill (L : List Int) (a b : Nat) (x : Int) : List Int := L.take a ++ List.replicate (b - a) x ++ L.drop b
theorem fill_self (L : List Int) (a : Nat) (x : Int) : fill L a a x = L := by unfold fill; simp
theorem fill_length (L : List Int) (a b : Nat) (x : Int) (h : a ≤ b) (hb : b ≤ L.length) : (fill L a b x).length = L.length := by unfold fill; simp; omega
theorem fill_next (L : List Int) (a b : Nat) (x : Int) (h : a ≤ b) (hb : b < L.length) : (fill L a b x).set b x = fill L a (b + 1) x := by
  unfold fill
  have hd : L.drop b = L[b] :: L.drop (b + 1) := List.drop_eq_getElem_cons hb
  rw [hd, List.set_append_right _ _ (by simp; omega), show b + 1 - a = (b - a) + 1 by omega, List.replicate_succ']
  simp
  have : b - (min a L.length + (b - a)) = 0 := by omega
  rw [this, hd]
  rfl
theorem getD_fill (L : List Int) (a b : Nat) (x : Int) (h : a ≤ b) (hb : b ≤ L.length) (i : Nat) : (fill L a b x).getD i 0 = if a ≤ i ∧ i < b then x else L.getD i 0 := by
  unfold fill
  simp only [List.getD_eq_getElem?_getD, List.append_assoc, List.getElem?_append, List.length_take, List.length_replicate, List.getElem?_take, List.getElem?_replicate, List.getElem?_drop]
  by_cases h1 : i < a
  · rw [if_pos (by omega), if_pos h1, if_neg (by omega)]
  · rw [if_neg (by omega)]
    by_cases h2 : i < b
    · rw [if_pos (by omega), if_pos (by omega), if_pos (by omega)]; rfl
    · rw [if_neg (by omega), if_neg (by omega)]
      congr 2
      omega
theorem split_rep {L : List Int} {a b : Nat} {x : Int} (h : a ≤ b) (hb : b ≤ L.length) (hx : ∀ i, a ≤ i → i < b → L.getD i 0 = x) : L = L.take a ++ List.replicate (b - a) x ++ L.drop b := by
  apply List.ext_getElem?
  intro i
  simp only [List.append_assoc, List.getElem?_append, List.length_take, List.length_replicate, List.getElem?_take, List.getElem?_replicate, List.getElem?_drop]
  by_cases h1 : i < a
  · rw [if_pos (by omega), if_pos h1]
  · rw [if_neg (by omega)]
    by_cases h2 : i < b
    · rw [if_pos (by omega), if_pos (by omega)]
      have := hx i (by omega) h2
      rw [List.getD_eq_getElem?_getD, List.getElem?_eq_getElem (by omega)] at this
      rw [List.getElem?_eq_getElem (by omega)]
      exact congrArg some this
    · rw [if_neg (by omega)]
      congr 1
      omega
end Go.Proofs.Qxb6606346aDoor
