import Derived.Test.Qxb6605662aDoorR5
namespace Go.Proofs.Qxb6605662aDoor
open Go.RowKit

/-! ### the grammar, in plain terms: one function for the reader and for the model -/
/-- a key at p: its two ends, and where its colon ends -/
def keyP (xs : List Int) (p : Nat) : Option (Nat × Nat × Nat) :=
  match plR xs (sk xs p) with
  | none => none
  | some (s, q) => (exA xs 58 (some (q + 1))).map fun m => (s, q, m)
/-- members from p on, the first with no comma ahead -/
def objT {σ : Type} (xs : List Int) (step : ByteArray → Nat → σ → Option (Nat × σ)) : Nat → Nat → σ → Option (Nat × σ)
  | 0, _, _ => none
  | f + 1, p, S => match keyP xs p with
    | none => none
    | some (s, q, m) => match step (strOfNums (sub xs s q)) m S with
      | none => none
      | some (m', S') => if isA xs 125 (some m') then some (sk xs m' + 1, S') else
        match exA xs 44 (some m') with
        | none => none
        | some p' => objT xs step f p' S'
/-- where the reader asks for a key -/
def hd {σ : Type} (xs : List Int) (step : ByteArray → Nat → σ → Option (Nat × σ)) (g : Nat) (A : Option Nat) (op : Bool) (S : σ) : Option (Nat × σ) :=
  match A with
  | none => none
  | some k => if isA xs 125 (some k) then some (sk xs k + 1, S) else if op then objT xs step g k S else
    match exA xs 44 (some k) with
    | none => none
    | some p' => objT xs step g p' S
/-- an object at p -/
def objR {σ : Type} (xs : List Int) (step : ByteArray → Nat → σ → Option (Nat × σ)) (A : Option Nat) (S : σ) : Option (Nat × σ) :=
  hd xs step (xs.length + 1) (exA xs 123 A) true S

theorem objT_succ {σ : Type} (xs : List Int) (step : ByteArray → Nat → σ → Option (Nat × σ)) (f p : Nat) (S : σ) :
    objT xs step (f + 1) p S = match keyP xs p with
    | none => none
    | some (s, q, m) => match step (strOfNums (sub xs s q)) m S with
      | none => none
      | some (m', S') => hd xs step f (some m') false S' := by
  rw [objT]
  cases keyP xs p with
  | none => rfl
  | some x =>
    obtain ⟨s, q, m⟩ := x
    simp only
    cases step (strOfNums (sub xs s q)) m S with
    | none => rfl
    | some y => obtain ⟨m', S'⟩ := y; rfl
theorem keyR_no {xs : List Int} {A : Option Nat} {op : Bool} (h : mbB xs 125 A op = false) : keyR xs A op = none ∧ keyS xs A op = mbA xs 125 A op := by
  unfold keyS keyR; rw [h]; exact ⟨rfl, rfl⟩
theorem keyR_at {xs : List Int} {A : Option Nat} {op : Bool} {j : Nat} (h : mbB xs 125 A op = true) (hj : mbA xs 125 A op = some j) : keyR xs A op = keyP xs j ∧ keyS xs A op = (keyP xs j).map (·.2.2) := by
  have h1 : keyR xs A op = keyP xs j := by
    unfold keyR keyP
    rw [h, hj]
    rfl
  refine ⟨h1, ?_⟩
  unfold keyS
  rw [h, h1]; rfl
theorem keyP_sk (xs : List Int) (k : Nat) : keyP xs (sk xs k) = keyP xs k := by unfold keyP; rw [sk_idem]
theorem objT_sk {σ : Type} (xs : List Int) (step : ByteArray → Nat → σ → Option (Nat × σ)) (f k : Nat) (S : σ) : objT xs step f (sk xs k) S = objT xs step f k S := by
  cases f with
  | zero => rfl
  | succ f => rw [objT_succ, objT_succ, keyP_sk]
/-- the reader's head, by what member answers -/
theorem hd_no {σ : Type} {xs : List Int} (step : ByteArray → Nat → σ → Option (Nat × σ)) (g : Nat) {A : Option Nat} {op : Bool} (S : σ) (h : mbB xs 125 A op = false) : hd xs step g A op S = (mbA xs 125 A op).map fun k => (k, S) := by
  unfold mbB at h
  unfold mbA hd
  cases A with
  | none => cases op <;> rfl
  | some k =>
    cases hi : isA xs 125 (some k) with
    | true => simp only [if_true]; unfold nxA; rw [hi]; rfl
    | false =>
      rw [hi] at h
      cases op with
      | true => simp at h
      | false =>
        simp at h
        simp [h, hi]
theorem hd_yes {σ : Type} {xs : List Int} (step : ByteArray → Nat → σ → Option (Nat × σ)) (g : Nat) {A : Option Nat} {op : Bool} {j : Nat} (S : σ) (h : mbB xs 125 A op = true) (hj : mbA xs 125 A op = some j) : hd xs step g A op S = objT xs step g j S := by
  unfold mbB at h
  unfold mbA at hj
  unfold hd
  cases A with
  | none => cases op <;> simp [isA, exA] at h
  | some k =>
    cases hi : isA xs 125 (some k) with
    | true => rw [hi] at h; simp at h
    | false =>
      rw [hi] at hj
      cases op with
      | true =>
        simp only [Bool.false_eq_true, if_false, if_true, spA, Option.some.injEq] at hj ⊢
        rw [← hj, objT_sk, if_neg (by rw [hi]; simp)]
      | false =>
        simp only [Bool.false_eq_true, if_false] at hj ⊢
        rw [hj, if_neg (by rw [hi]; simp)]
theorem hd_end {σ : Type} {xs : List Int} (step : ByteArray → Nat → σ → Option (Nat × σ)) (g : Nat) {A : Option Nat} {op : Bool} (S : σ) (h : keyR xs A op = none) : hd xs step (g + 1) A op S = (keyS xs A op).map fun k => (k, S) := by
  cases hb : mbB xs 125 A op with
  | false => rw [hd_no step _ S hb, (keyR_no hb).2]
  | true =>
    obtain ⟨j, hj⟩ := mbA_isNone xs 125 A op hb
    obtain ⟨h1, h2⟩ := keyR_at hb hj
    rw [hd_yes step _ S hb hj, objT_succ, h2]
    rw [h1] at h
    rw [h]; rfl
theorem hd_key {σ : Type} {xs : List Int} (step : ByteArray → Nat → σ → Option (Nat × σ)) (g : Nat) {A : Option Nat} {op : Bool} {s q m : Nat} (S : σ) (h : keyR xs A op = some (s, q, m)) :
    hd xs step (g + 1) A op S = match step (strOfNums (sub xs s q)) m S with
      | none => none
      | some (m', S') => hd xs step g (some m') false S' := by
  cases hb : mbB xs 125 A op with
  | false => rw [(keyR_no hb).1] at h; cases h
  | true =>
    obtain ⟨j, hj⟩ := mbA_isNone xs 125 A op hb
    obtain ⟨h1, h2⟩ := keyR_at hb hj
    rw [hd_yes step _ S hb hj, objT_succ]
    rw [h1] at h
    rw [h]

/-! ### places -/
theorem exA_lt {xs : List Int} {c : Int} {k m : Nat} (hk : k ≤ xs.length) (h : exA xs c (some k) = some m) : k < m ∧ m ≤ xs.length := by
  unfold exA at h
  cases hi : isA xs c (some k) with
  | false => rw [hi] at h; cases h
  | true =>
    rw [hi] at h
    simp only [if_true, spA, Option.map_some, Option.some.injEq] at h
    have hl := sk_le xs k hk
    have : sk xs k < xs.length := by unfold isA at hi; simp at hi; exact hi.1
    omega
theorem plR_lt {xs : List Int} {k s q : Nat} (h : plR xs k = some (s, q)) : s = k + 1 ∧ s ≤ q ∧ q < xs.length := by
  unfold plR at h
  split at h
  · cases hs : sc xs (k + 1) with
    | none => rw [hs] at h; cases h
    | some q' =>
      rw [hs] at h
      simp only at h
      split at h
      · simp only [Option.some.injEq, Prod.mk.injEq] at h
        obtain ⟨rfl, rfl⟩ := h
        have := sc_le xs _ _ _ (Nat.le_refl _) hs
        omega
      · cases h
  · cases h
theorem keyP_lt {xs : List Int} {p s q m : Nat} (hp : p ≤ xs.length) (h : keyP xs p = some (s, q, m)) : p < m ∧ m ≤ xs.length ∧ s ≤ q ∧ q < m := by
  unfold keyP at h
  cases hq : plR xs (sk xs p) with
  | none => rw [hq] at h; cases h
  | some x =>
    obtain ⟨s', q'⟩ := x
    rw [hq] at h
    simp only at h
    cases he : exA xs 58 (some (q' + 1)) with
    | none => rw [he] at h; cases h
    | some m' =>
      rw [he] at h
      simp only [Option.map_some, Option.some.injEq, Prod.mk.injEq] at h
      obtain ⟨rfl, rfl, rfl⟩ := h
      have h1 := plR_lt hq
      have h2 := sk_le xs p hp
      have h3 := exA_lt (by omega) he
      omega
theorem keyR_lt {xs : List Int} {k s q m : Nat} {op : Bool} (hk : k ≤ xs.length) (h : keyR xs (some k) op = some (s, q, m)) : k < m ∧ m ≤ xs.length ∧ s ≤ q ∧ q < xs.length := by
  cases hb : mbB xs 125 (some k) op with
  | false => rw [(keyR_no hb).1] at h; cases h
  | true =>
    obtain ⟨j, hj⟩ := mbA_isNone xs 125 (some k) op hb
    rw [(keyR_at hb hj).1] at h
    have hjk : k ≤ j ∧ j ≤ xs.length := by
      unfold mbB at hb
      unfold mbA at hj
      cases hi : isA xs 125 (some k) with
      | true => rw [hi] at hb; simp at hb
      | false =>
        rw [hi] at hj
        cases op with
        | true =>
          simp only [Bool.false_eq_true, if_false, if_true, spA, Option.some.injEq] at hj
          have := sk_le xs k hk
          omega
        | false =>
          simp only [Bool.false_eq_true, if_false] at hj
          have := exA_lt hk hj
          omega
    have := keyP_lt hjk.2 h
    omega
theorem keyR_some {xs : List Int} {A : Option Nat} {op : Bool} {x : Nat × Nat × Nat} (h : keyR xs A op = some x) : ∃ k, A = some k := by
  cases A with
  | none =>
    rw [(keyR_no (by unfold mbB; cases op <;> rfl)).1] at h; cases h
  | some k => exact ⟨k, rfl⟩
theorem dgR_lt {xs : List Int} {k m : Nat} {v : Int} (hk : k ≤ xs.length) (h : dgR xs k = some (v, m)) : k < m ∧ m ≤ xs.length := by
  unfold dgR at h
  split at h
  · rename_i hc
    simp only [Option.some.injEq, Prod.mk.injEq] at h
    have := (dN_all xs _ k (Nat.le_refl _) hk).1
    omega
  · cases h

/-! ### arrays of numbers -/
def arrT (xs : List Int) : Nat → Nat → List Int → Option (Nat × List Int)
  | 0, _, _ => none
  | f + 1, p, acc => match uiA xs (some p) with
    | none => none
    | some (v, m) => if isA xs 93 (some m) then some (sk xs m + 1, acc ++ [v]) else
      match exA xs 44 (some m) with
      | none => none
      | some p' => arrT xs f p' (acc ++ [v])
def hdA (xs : List Int) (g : Nat) (A : Option Nat) (op : Bool) (acc : List Int) : Option (Nat × List Int) :=
  match A with
  | none => none
  | some k => if isA xs 93 (some k) then some (sk xs k + 1, acc) else if op then arrT xs g k acc else
    match exA xs 44 (some k) with
    | none => none
    | some p' => arrT xs g p' acc
def arrR (xs : List Int) (A : Option Nat) : Option (Nat × List Int) := hdA xs (xs.length + 1) (exA xs 91 A) true []
theorem uiA_sk (xs : List Int) (k : Nat) : uiA xs (some (sk xs k)) = uiA xs (some k) := by simp only [uiA, sk_idem]
theorem arrT_succ (xs : List Int) (f p : Nat) (acc : List Int) : arrT xs (f + 1) p acc = match uiA xs (some p) with
    | none => none
    | some (v, m) => hdA xs f (some m) false (acc ++ [v]) := by
  rw [arrT]
  cases uiA xs (some p) with
  | none => rfl
  | some x => obtain ⟨v, m⟩ := x; rfl
theorem hdA_end {xs : List Int} (g : Nat) {A : Option Nat} {op : Bool} (acc : List Int) (h : mbB xs 93 A op = false) : hdA xs g A op acc = (mbA xs 93 A op).map fun k => (k, acc) := by
  unfold mbB at h
  unfold mbA hdA
  cases A with
  | none => cases op <;> rfl
  | some k =>
    cases hi : isA xs 93 (some k) with
    | true => simp only [if_true]; unfold nxA; rw [hi]; rfl
    | false =>
      rw [hi] at h
      cases op with
      | true => simp at h
      | false =>
        simp at h
        simp [h, hi]
theorem hdA_more {xs : List Int} (g : Nat) {A : Option Nat} {op : Bool} (acc : List Int) (h : mbB xs 93 A op = true) : hdA xs (g + 1) A op acc = match uiA xs (mbA xs 93 A op) with
    | none => none
    | some (v, m) => hdA xs g (some m) false (acc ++ [v]) := by
  obtain ⟨j, hj⟩ := mbA_isNone xs 93 A op h
  rw [hj, ← arrT_succ]
  unfold mbB at h
  unfold mbA at hj
  unfold hdA
  cases A with
  | none => cases op <;> simp [isA, exA] at h
  | some k =>
    cases hi : isA xs 93 (some k) with
    | true => rw [hi] at h; simp at h
    | false =>
      rw [hi] at hj
      cases op with
      | true =>
        simp only [Bool.false_eq_true, if_false, if_true, spA, Option.some.injEq] at hj ⊢
        rw [← hj, arrT_succ, arrT_succ, uiA_sk, if_neg (by rw [hi]; simp)]
      | false =>
        simp only [Bool.false_eq_true, if_false] at hj ⊢
        rw [hj, if_neg (by rw [hi]; simp)]
theorem mbA_lt {xs : List Int} {c : Int} {k j : Nat} {op : Bool} (hk : k ≤ xs.length) (hb : mbB xs c (some k) op = true) (hj : mbA xs c (some k) op = some j) : k ≤ j ∧ j ≤ xs.length := by
  unfold mbB at hb
  unfold mbA at hj
  cases hi : isA xs c (some k) with
  | true => rw [hi] at hb; simp at hb
  | false =>
    rw [hi] at hj
    cases op with
    | true =>
      simp only [Bool.false_eq_true, if_false, if_true, spA, Option.some.injEq] at hj
      have := sk_le xs k hk
      omega
    | false =>
      simp only [Bool.false_eq_true, if_false] at hj
      have := exA_lt hk hj
      omega

/-! ### the horizon, the decision -/
def kSe : ByteArray := ⟨#[115, 101, 116, 116, 108, 101, 100]⟩
def kUn : ByteArray := ⟨#[117, 110, 115, 101, 116, 116, 108, 101, 100]⟩
def kCo : ByteArray := ⟨#[99, 111, 111, 114, 100, 105, 110, 97, 116, 111, 114]⟩
def kCi : ByteArray := ⟨#[99, 111, 111, 114, 100, 105, 110, 97, 116, 111, 114, 95, 105, 100]⟩
def kTx : ByteArray := ⟨#[116, 120, 110]⟩
def kHo : ByteArray := ⟨#[104, 111, 114, 105, 122, 111, 110]⟩
/-- the place, or none where the key was seen -/
def onA (v pl : Nat) (A : Option Nat) : Option Nat := if v.testBit pl then none else A
structure HS where
  seen : Nat
  st : Int
  un : Option (List Int)
def stepH (xs : List Int) (key : ByteArray) (m : Nat) (S : HS) : Option (Nat × HS) :=
  if key = kSe then (uiA xs (onA S.seen 0 (some m))).map fun x => (x.2, { S with seen := S.seen ||| 1, st := x.1 })
  else if key = kUn then (arrR xs (onA S.seen 1 (some m))).map fun x => (x.1, { S with seen := S.seen ||| 2, un := some x.2 })
  else none
def HS0 : HS := ⟨0, 0, none⟩
def horR (xs : List Int) (A : Option Nat) : Option (Nat × HS) := objR xs (stepH xs) A HS0
structure DS where
  seen : Nat
  txn : ByteArray
  co : ByteArray
  ci : ByteArray
  st : Int
  un : Option (List Int)
def stepD (xs : List Int) (key : ByteArray) (m : Nat) (S : DS) : Option (Nat × DS) :=
  if key = kCo then (stR xs (onA S.seen 0 (some m))).map fun x => (x.2 + 1, { S with seen := S.seen ||| 1, co := strOfNums (sub xs x.1 x.2) })
  else if key = kCi then (stR xs (onA S.seen 1 (some m))).map fun x => (x.2 + 1, { S with seen := S.seen ||| 2, ci := strOfNums (sub xs x.1 x.2) })
  else if key = kTx then (stR xs (onA S.seen 2 (some m))).map fun x => (x.2 + 1, { S with seen := S.seen ||| 4, txn := strOfNums (sub xs x.1 x.2) })
  else if key = kHo then (horR xs (onA S.seen 3 (some m))).map fun x => (x.1, { S with seen := S.seen ||| 8, st := x.2.st, un := x.2.un })
  else none
def DS0 : DS := ⟨0, ⟨#[]⟩, ⟨#[]⟩, ⟨#[]⟩, 0, none⟩
def decR (xs : List Int) (A : Option Nat) : Option (Nat × DS) := objR xs (stepD xs) A DS0
end Go.Proofs.Qxb6605662aDoor
