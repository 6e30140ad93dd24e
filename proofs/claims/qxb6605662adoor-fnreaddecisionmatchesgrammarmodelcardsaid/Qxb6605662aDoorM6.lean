import Derived.Test.Qxb6605662aDoorM5
set_option linter.unusedVariables false
set_option linter.unusedSimpArgs false
namespace Go.Proofs.Qxb6605662aDoor
open Go.RowKit

theorem exA_of_tk {xs : List Int} {p k s e np : Nat} (ht : tk xs p = (k, s, e, np)) (kk : Nat) (c : Int) (hc : (c = 123 ∧ kk = 1) ∨ (c = 125 ∧ kk = 2) ∨ (c = 91 ∧ kk = 3) ∨ (c = 93 ∧ kk = 4) ∨ (c = 58 ∧ kk = 5) ∨ (c = 44 ∧ kk = 6)) :
    (k = kk ∧ isA xs c (some p) = true ∧ exA xs c (some p) = some np ∧ np = sk xs p + 1) ∨ (k ≠ kk ∧ isA xs c (some p) = false ∧ exA xs c (some p) = none) := by
  have h := tk_sign (xs := xs) (p := p) kk c hc
  rw [ht] at h
  exact h
theorem objT_no {σ : Type} {xs : List Int} (step : ByteArray → Nat → σ → Option (Nat × σ)) (f : Nat) {p k s e np : Nat} (T : σ) (ht : tk xs p = (k, s, e, np)) (hk : k ≠ 7) : objT xs step (f + 1) p T = none := by
  have h := tk_str xs p
  rw [ht] at h
  rcases h with ⟨h1, _⟩ | ⟨_, h2⟩
  · exact absurd h1 hk
  · rw [objT_succ]; unfold keyP; rw [h2]
theorem objT_nocolon {σ : Type} {xs : List Int} (step : ByteArray → Nat → σ → Option (Nat × σ)) (f : Nat) {p s e np k2 s2 e2 np2 : Nat} (T : σ) (ht : tk xs p = (7, s, e, np)) (ht2 : tk xs np = (k2, s2, e2, np2)) (hk : k2 ≠ 5) : objT xs step (f + 1) p T = none := by
  have h := tk_str xs p
  rw [ht] at h
  rcases h with ⟨_, h1, h2⟩ | ⟨h1, _⟩
  · simp only at h1 h2
    subst h2
    rcases exA_of_tk ht2 5 58 (by simp) with ⟨h3, _⟩ | ⟨_, _, h3⟩
    · exact absurd h3 hk
    · rw [objT_succ]; unfold keyP; rw [h1]; simp only; rw [h3]; rfl
  · exact absurd rfl h1
theorem objT_key {σ : Type} {xs : List Int} (step : ByteArray → Nat → σ → Option (Nat × σ)) (f : Nat) {p s e np s2 e2 np2 : Nat} (T : σ) (ht : tk xs p = (7, s, e, np)) (ht2 : tk xs np = (5, s2, e2, np2)) :
    objT xs step (f + 1) p T = bindH (step (strOfNums (sub xs s e)) np2 T) fun m' S' => hd xs step f (some m') false S' := by
  have h := tk_str xs p
  rw [ht] at h
  rcases h with ⟨_, h1, h2⟩ | ⟨h1, _⟩
  · simp only at h1 h2
    subst h2
    rcases exA_of_tk ht2 5 58 (by simp) with ⟨_, _, h3, _⟩ | ⟨h3, _⟩
    · rw [objT_succ]; unfold keyP; rw [h1]; simp only; rw [h3]; simp only [Option.map_some]
      cases step (strOfNums (sub xs s e)) np2 T with
      | none => rfl
      | some x => rfl
    · exact absurd rfl h3
  · exact absurd rfl h1
theorem hd_of_tk {σ : Type} {xs : List Int} (step : ByteArray → Nat → σ → Option (Nat × σ)) (f : Nat) {m k s e np : Nat} (T : σ) (ht : tk xs m = (k, s, e, np)) :
    (k = 2 → hd xs step f (some m) false T = some (np, T)) ∧ (k = 6 → hd xs step f (some m) false T = objT xs step f np T) ∧ (k ≠ 2 → k ≠ 6 → hd xs step f (some m) false T = none) := by
  have h2 := exA_of_tk ht 2 125 (by simp)
  have h6 := exA_of_tk ht 6 44 (by simp)
  refine ⟨fun hk => ?_, fun hk => ?_, fun hk1 hk2 => ?_⟩
  · rcases h2 with ⟨_, a, _, b⟩ | ⟨a, _⟩
    · unfold hd; simp only; rw [a, b]; rfl
    · exact absurd hk a
  · rcases h2 with ⟨a, _⟩ | ⟨_, a, _⟩
    · omega
    · rcases h6 with ⟨_, _, b, _⟩ | ⟨b, _⟩
      · unfold hd; simp only; rw [a, b]; rfl
      · exact absurd hk b
  · rcases h2 with ⟨a, _⟩ | ⟨_, a, _⟩
    · omega
    · rcases h6 with ⟨b, _⟩ | ⟨_, _, b⟩
      · omega
      · unfold hd; simp only; rw [a, b]; rfl
theorem arrT_no {xs : List Int} (f : Nat) {p k s e np : Nat} (acc : List Int) (hp : p ≤ xs.length) (ht : tk xs p = (k, s, e, np)) (hk : k ≠ 8) : arrT xs (f + 1) p acc = none := by
  have h := tk_num hp
  rw [ht] at h
  rcases h with ⟨h1, _⟩ | ⟨_, h2⟩
  · exact absurd h1 hk
  · rw [arrT_succ, h2]
theorem arrT_num {xs : List Int} (f : Nat) {p s e np : Nat} (acc : List Int) (hp : p ≤ xs.length) (ht : tk xs p = (8, s, e, np)) : arrT xs (f + 1) p acc = (pd (sub xs s e)).bind fun v => hdA xs f (some np) false (acc ++ [v]) := by
  have h := tk_num hp
  rw [ht] at h
  rcases h with ⟨_, _, _, _, _, h2⟩ | ⟨h1, _⟩
  · rw [arrT_succ, h2]
    simp only
    cases pd (sub xs s e) with
    | none => rfl
    | some v => rfl
  · exact absurd rfl h1
theorem hdA_of_tk {xs : List Int} (f : Nat) {m k s e np : Nat} (acc : List Int) (ht : tk xs m = (k, s, e, np)) :
    (k = 4 → hdA xs f (some m) false acc = some (np, acc)) ∧ (k = 6 → hdA xs f (some m) false acc = arrT xs f np acc) ∧ (k ≠ 4 → k ≠ 6 → hdA xs f (some m) false acc = none) := by
  have h2 := exA_of_tk ht 4 93 (by simp)
  have h6 := exA_of_tk ht 6 44 (by simp)
  refine ⟨fun hk => ?_, fun hk => ?_, fun hk1 hk2 => ?_⟩
  · rcases h2 with ⟨_, a, _, b⟩ | ⟨a, _⟩
    · unfold hdA; simp only; rw [a, b]; rfl
    · exact absurd hk a
  · rcases h2 with ⟨a, _⟩ | ⟨_, a, _⟩
    · omega
    · rcases h6 with ⟨_, _, b, _⟩ | ⟨b, _⟩
      · unfold hdA; simp only; rw [a, b]; rfl
      · exact absurd hk b
  · rcases h2 with ⟨a, _⟩ | ⟨_, a, _⟩
    · omega
    · rcases h6 with ⟨b, _⟩ | ⟨_, _, b⟩
      · omega
      · unfold hdA; simp only; rw [a, b]; rfl
theorem uiA_of_tk {xs : List Int} {p k s e np : Nat} (hp : p ≤ xs.length) (ht : tk xs p = (k, s, e, np)) : (k ≠ 8 → uiA xs (some p) = none) ∧ (k = 8 → s ≤ e ∧ e ≤ xs.length ∧ np = e ∧ (∀ i, s ≤ i → i < e → isd (xs.getD i 0) = true) ∧ uiA xs (some p) = (pd (sub xs s e)).map fun v => (v, np)) := by
  have h := tk_num hp
  rw [ht] at h
  rcases h with ⟨h1, h2, h3, h4, h5, h6⟩ | ⟨h1, h2⟩
  · exact ⟨fun hk => absurd h1 hk, fun _ => ⟨h2, h3, h4, h5, h6⟩⟩
  · exact ⟨fun _ => h2, fun hk => absurd hk h1⟩
theorem tk_le' {xs : List Int} {p k s e np : Nat} (hp : p ≤ xs.length) (ht : tk xs p = (k, s, e, np)) : p ≤ np ∧ np ≤ xs.length ∧ s ≤ e ∧ e ≤ xs.length := by
  have h := tk_le hp
  rw [ht] at h
  exact h

/-! ### the calls, in the worlds that come -/
theorem MD.below {w w' : World} {pa : Option Addr} {n cap : Nat} {xs : List Int} (h : MD w pa n cap xs) (hb : Below w.heap.size w w') : MD w' pa n cap xs :=
  ⟨h.hn, h.hcap, h.hcb, h.hx, h.hb, fun i hi => by
    obtain ⟨b, o, hp, hc⟩ := h.hc i hi
    exact ⟨b, o, hp, (hb.cell (World.block_lt_of_cell? _ _ hc)).trans hc⟩⟩
theorem tokC {w : World} {pa : Option Addr} {n cap : Nat} {xs : List Int} (h : MD w pa n cap xs) (p : Nat) (hp : p ≤ n) :
    ∃ k s e np, tk xs p = (k, s, e, np) ∧ p ≤ np ∧ np ≤ n ∧ s ≤ e ∧ e ≤ n ∧ ∀ wr, Below w.heap.size w wr → Calls Tryd.prog 24 #[.slice pa n cap, .int .i64 p] wr fun x w' => x = .returned (.tuple #[.int .i64 k, .int .i64 s, .int .i64 e, .int .i64 np]) ∧ w' = wr := by
  rcases ht : tk xs p with ⟨k, s, e, np⟩
  have hl := tk_le' (by rw [h.hx]; exact hp) ht
  rw [h.hx] at hl
  refine ⟨k, s, e, np, rfl, hl.1, hl.2.1, hl.2.2.1, hl.2.2.2, fun wr hb => ?_⟩
  have hc := tok_any pa n cap xs p wr (h.below hb) hp
  rw [ht] at hc
  exact hc
theorem sub_InB {xs : List Int} (hb : InB xs) (s q : Nat) : InB (sub xs s q) := fun i => by
  by_cases hi : i < (sub xs s q).length
  · have : i < q - s := by unfold sub at hi; simp at hi; omega
    rw [sub_at xs s q i this]; exact hb _
  · have : (sub xs s q).getD i 0 = 0 := by rw [List.getD_eq_getElem?_getD, List.getElem?_eq_none (by omega)]; rfl
    rw [this]; omega
theorem Cells.sub {w : World} {b o n : Nat} {xs : List Int} (h : Cells w (some ⟨b, o, none⟩) n xs) (s q : Nat) (hq : q ≤ n) : Cells w (some ⟨b, o + s, none⟩) (q - s) (sub xs s q) := fun i hi => by
  obtain ⟨b', o', hp, hc⟩ := h (s + i) (by omega)
  simp only [Option.some.injEq, Addr.mk.injEq, and_true] at hp
  obtain ⟨rfl, rfl⟩ := hp
  exact ⟨b, o + s, rfl, by rw [sub_at xs s q i hi, Nat.add_assoc]; exact hc⟩
theorem convM {w : World} {b o n cap : Nat} {xs : List Int} (h : MD w (some ⟨b, o, none⟩) n cap xs) (s q : Nat) (hsq : s ≤ q) (hq : q ≤ n) (wr : World) (hb : Below w.heap.size w wr) :
    (convert 22 9 (.slice (some ⟨b, o + s, none⟩) (q - s) (cap - s))).run Tryd.prog wr = .ok (.string (strOfNums (sub xs s q))) wr :=
  run_convert_bytes_arg (P := Tryd.prog) wr 22 5 Tryd.underlying22 Tryd.underlying5 b (o + s) (q - s) (cap - s) (sub xs s q) (sub_length xs s q hsq (by rw [h.hx]; exact hq)) (fun i hi => by
    obtain ⟨b', o', hp', hcell⟩ := (h.below hb).hc.sub s q hq i hi
    simp only [Option.some.injEq, Addr.mk.injEq, and_true] at hp'
    obtain ⟨rfl, rfl⟩ := hp'
    exact hcell) 9 Tryd.underlying9
theorem parseC {w : World} {b o n cap : Nat} {xs : List Int} (h : MD w (some ⟨b, o, none⟩) n cap xs) (s q : Nat) (hsq : s ≤ q) (hq : q ≤ n) (hd : ∀ i, s ≤ i → i < q → isd (xs.getD i 0) = true) (wr : World) (hb : Below w.heap.size w wr) :
    Calls Tryd.prog 39 #[.slice (some ⟨b, o + s, none⟩) (q - s : Nat) (cap - s : Nat)] wr fun e w' => PdOut (pd (sub xs s q)) wr e w' :=
  parse_any (some ⟨b, o + s, none⟩) (q - s) (cap - s) (sub xs s q) wr (by have := h.hn; omega) (sub_length xs s q hsq (by rw [h.hx]; exact hq)) (fun i hi => by rw [sub_at xs s q i hi]; exact hd _ (by omega) (by omega)) ((h.below hb).hc.sub s q hq)

/-! ### zzDecisionKey -/
def kidx (K : ByteArray) : Int := if K = kCo then 0 else if K = kCi then 1 else if K = kTx then 2 else if K = kHo then 3 else -1
set_option maxHeartbeats 1000000 in
theorem dkey_any {w : World} {b o n cap : Nat} {xs : List Int} (h : MD w (some ⟨b, o, none⟩) n cap xs) (s q : Nat) (hsq : s ≤ q) (hq : q ≤ n) (wr : World) (hb : Below w.heap.size w wr) :
    Calls Tryd.prog 25 #[.slice (some ⟨b, o + s, none⟩) (q - s : Nat) (cap - s : Nat)] wr fun e w' => e = .returned (.int .i64 (kidx (strOfNums (sub xs s q)))) ∧ w' = wr := by
  have kc := convM h s q hsq hq wr hb
  clear h hb
  generalize strOfNums (sub xs s q) = K at kc ⊢
  have HR : Hid (kidx K = if K = kCo then 0 else if K = kCi then 1 else if K = kTx then 2 else if K = kHo then 3 else -1) := rfl
  generalize kidx K = I at HR ⊢
  by_cases h1 : K = kCo
  · have b1 : (K.toList == [99, 111, 111, 114, 100, 105, 110, 97, 116, 111, 114]) = true := str_eq (L := kCo) rfl h1
    rw [if_pos h1] at HR
    clear h1
    go_enter Tryd.func25, Tryd.ntmps25
    go_wp2_with fail
    go_ret
    rw [HR.out]
    exact ⟨rfl, rfl⟩
  · have b1 : (K.toList == [99, 111, 111, 114, 100, 105, 110, 97, 116, 111, 114]) = false := str_ne (L := kCo) rfl h1
    rw [if_neg h1] at HR
    by_cases h2 : K = kCi
    · have b2 : (K.toList == [99, 111, 111, 114, 100, 105, 110, 97, 116, 111, 114, 95, 105, 100]) = true := str_eq (L := kCi) rfl h2
      rw [if_pos h2] at HR
      clear h1 h2
      go_enter Tryd.func25, Tryd.ntmps25
      go_wp2_with fail
      go_ret
      rw [HR.out]
      exact ⟨rfl, rfl⟩
    · have b2 : (K.toList == [99, 111, 111, 114, 100, 105, 110, 97, 116, 111, 114, 95, 105, 100]) = false := str_ne (L := kCi) rfl h2
      rw [if_neg h2] at HR
      by_cases h3 : K = kTx
      · have b3 : (K.toList == [116, 120, 110]) = true := str_eq (L := kTx) rfl h3
        rw [if_pos h3] at HR
        clear h1 h2 h3
        go_enter Tryd.func25, Tryd.ntmps25
        go_wp2_with fail
        go_ret
        rw [HR.out]
        exact ⟨rfl, rfl⟩
      · have b3 : (K.toList == [116, 120, 110]) = false := str_ne (L := kTx) rfl h3
        rw [if_neg h3] at HR
        by_cases h4 : K = kHo
        · have b4 : (K.toList == [104, 111, 114, 105, 122, 111, 110]) = true := str_eq (L := kHo) rfl h4
          rw [if_pos h4] at HR
          clear h1 h2 h3 h4
          go_enter Tryd.func25, Tryd.ntmps25
          go_wp2_with fail
          go_ret
          rw [HR.out]
          exact ⟨rfl, rfl⟩
        · have b4 : (K.toList == [104, 111, 114, 105, 122, 111, 110]) = false := str_ne (L := kHo) rfl h4
          rw [if_neg h4] at HR
          clear h1 h2 h3 h4
          go_enter Tryd.func25, Tryd.ntmps25
          go_wp2_with fail
          go_ret
          rw [HR.out]
          exact ⟨rfl, rfl⟩
end Go.Proofs.Qxb6605662aDoor
