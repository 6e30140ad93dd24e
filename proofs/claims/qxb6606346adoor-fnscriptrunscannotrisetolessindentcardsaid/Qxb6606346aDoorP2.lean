import Derived.Test.Qxb6606346aDoorP1
set_option linter.unusedVariables false
set_option linter.unusedSimpArgs false
namespace Go.Proofs.Qxb6606346aDoor
/-! ### what holds while middleSnake searches -/
/-- ahead of step d: one search -/
def Old (n m e : Int) (t : Prop) (A : Int → Int) (d : Int) : Prop := (d = 0 → A 1 = 0) ∧ (0 < d → Front n m A (d - 1) ∧ (t → Ins n m e A (d - 1)) ∧ (d = 1 → A 0 = 0))
/-- ahead of step d -/
structure OI (n m e : Int) (A B : Int → Int) (d : Int) : Prop where
  a : Old n m e True A d
  b : Old n m e (e = 0) B d
structure FIv (n m e : Int) (A B : Int → Int) (d k : Int) : Prop where
  o : OI n m e A B d
  new : ∀ j, On d j → j < k → Stp n m A d j ∧ (d = 0 → A j = 0) ∧ (e = 1 → -(d - 1) ≤ n - m - j → n - m - j ≤ d - 1 → A j < n ∧ A j - j < m)
  st : e = 1 → 2 * d = n + m + 1 → k ≤ kst n m d 1
structure Hf (n m e : Int) (A B : Int → Int) (d : Int) : Prop where
  f : Front n m A d
  z : d = 0 → A 0 = 0
  i : e = 1 → Ins n m 1 A d
  b : Old n m e (e = 0) B d
  ne : e = 1 → 2 * d ≠ n + m + 1
structure BIv (n m e : Int) (A B : Int → Int) (d k : Int) : Prop where
  h : Hf n m e A B d
  new : ∀ j, On d j → j < k → Stp n m B d j ∧ (d = 0 → B j = 0) ∧ (e = 0 → -d ≤ n - m - j → n - m - j ≤ d → (B j < n ∧ B j - j < m) ∧ (A (n - m - j) < n ∧ A (n - m - j) - (n - m - j) < m))
  st : e = 0 → 2 * d = n + m → k ≤ kst n m d 0

theorem Old.pick_bd {n m e : Int} {t : Prop} {A : Int → Int} {d k : Int} (h : Old n m e t A d) (hd : 0 ≤ d) (hn : 0 ≤ n) (hk : On d k) : 0 ≤ pick A d k ∧ k ≤ pick A d k ∧ d ≤ 2 * pick A d k - k ∧ pick A d k ≤ n + d ∧ (d = 0 → pick A d k = 0) := by
  by_cases h0 : d = 0
  · subst h0
    have hk0 : k = 0 := by have := hk.1; have := hk.2.1; omega
    subst hk0
    have : pick A 0 0 = 0 := by
      unfold pick
      rw [if_pos (.inl rfl)]
      exact h.1 rfl
    rw [this]
    omega
  · have F := (h.2 (by omega)).1
    have e1 : d - 1 + 1 = d := by omega
    have := pick_pos (d := d - 1) (k := k) (by omega) F (by rw [e1]; exact hk)
    rw [e1] at this
    exact ⟨this.1, this.2.1, this.2.2.1, this.2.2.2, fun h => absurd h h0⟩

theorem Old.congr {n m e : Int} {t : Prop} {A A' : Int → Int} {d k v : Int} (h : Old n m e t A d) (hd : 0 ≤ d) (hk : On d k) (ho : ∀ j, -(d + 1) ≤ j → j ≤ d + 1 → j ≠ k → A' j = A j) : Old n m e t A' d := by
  refine ⟨fun h0 => ?_, fun h0 => ?_⟩
  · rw [ho 1 (by omega) (by omega) (by have := hk.2.1; omega)]
    exact h.1 h0
  · have hc : ∀ j, On (d - 1) j → A' j = A j := fun j hj => ho j (by have := hj.1; omega) (by have := hj.2.1; omega) (fun e => by have := hj.2.2; have := hk.2.2; omega)
    refine ⟨(h.2 h0).1.congr (by omega) hc, fun ht => ((h.2 h0).2.1 ht).congr hc, fun h1 => ?_⟩
    rw [hc 0 ⟨by omega, by omega, by omega⟩]
    exact (h.2 h0).2.2 h1

theorem OI.congr {n m e : Int} {A A' B : Int → Int} {d k : Int} (h : OI n m e A B d) (hd : 0 ≤ d) (hk : On d k) (ho : ∀ j, -(d + 1) ≤ j → j ≤ d + 1 → j ≠ k → A' j = A j) : OI n m e A' B d := ⟨h.a.congr (v := 0) hd hk ho, h.b⟩

theorem fi_start {n m e : Int} {A B : Int → Int} {d : Int} (hn : 1 ≤ n) (hm : 1 ≤ m) (h : OI n m e A B d) : FIv n m e A B d (-d) := by
  refine ⟨h, fun j hj hjk => by have := hj.1; omega, fun he hd => ?_⟩
  have := (kst_on (e := 1) hn hm (.inr rfl) hd).1.1
  exact this

theorem fi_step {n m e : Int} {A A' B : Int → Int} {d k v : Int} (hd : 0 ≤ d) (hn : 1 ≤ n) (hm : 1 ≤ m) (he : e = 0 ∨ e = 1) (hpar : (n - m + e) % 2 = 0) (h : FIv n m e A B d k) (hk : On d k) (h1 : pick A d k ≤ v) (h2 : v = pick A d k ∨ (v ≤ n ∧ v - k ≤ m)) (h0 : d = 0 → v = 0)
    (hv : A' k = v) (ho : ∀ j, -(d + 1) ≤ j → j ≤ d + 1 → j ≠ k → A' j = A j) (ht : e = 1 → -(d - 1) ≤ n - m - k → n - m - k ≤ d - 1 → v + B (n - m - k) < n) : FIv n m e A' B d (k + 2) := by
  have hpk : pick A' d k = pick A d k := pick_congr (ho _ (by have := hk.1; omega) (by have := hk.2.1; omega) (by omega)) (ho _ (by have := hk.1; omega) (by have := hk.2.1; omega) (by omega))
  have hp := h.o.a.pick_bd hd (by omega) hk
  have hin : e = 1 → -(d - 1) ≤ n - m - k → n - m - k ≤ d - 1 → v < n ∧ v - k < m ∧ ¬ (2 * d = n + m + 1) := fun h1' h2' h3' => by
    have t := ht h1' h2' h3'
    have hdp : 0 < d := by omega
    have hb := ((h.o.b.2 hdp).1).pos (n - m - k) ⟨by omega, by omega, by have := hk.2.2; omega⟩
    refine ⟨by omega, by omega, fun q => ?_⟩
    omega
  refine ⟨h.o.congr hd hk ho, fun j hj hjk => ?_, fun he1 h2d => ?_⟩
  · by_cases e1 : j = k
    · subst e1
      refine ⟨⟨?_, ?_⟩, fun h0' => by rw [hv]; exact h0 h0', fun q1 q2 q3 => ?_⟩
      · rw [hpk, hv]; exact h1
      · rw [hpk, hv]; exact h2
      · rw [hv]
        have := hin q1 q2 q3
        exact ⟨this.1, this.2.1⟩
    · have hj2 : j < k := by have := hj.2.2; have := hk.2.2; omega
      obtain ⟨q1, q2, q3⟩ := h.new j hj hj2
      have c1 : A' j = A j := ho j (by have := hj.1; omega) (by have := hj.2.1; omega) e1
      have c2 : A' (j - 1) = A (j - 1) := ho _ (by have := hj.1; omega) (by have := hj.2.1; omega) (by have := hj.2.2; have := hk.2.2; omega)
      have c3 : A' (j + 1) = A (j + 1) := ho _ (by have := hj.1; omega) (by have := hj.2.1; omega) (by have := hj.2.2; have := hk.2.2; omega)
      refine ⟨q1.congr c1 c2 c3, fun h0' => by rw [c1]; exact q2 h0', fun r1 r2 r3 => by rw [c1]; exact q3 r1 r2 r3⟩
  · have k1 := h.st he1 h2d
    have k2 := kst_on (e := 1) hn hm (.inr rfl) h2d
    by_cases e1 : k = kst n m d 1
    · exfalso
      rw [← e1] at k2
      exact (hin he1 (by omega) (by omega)).2.2 h2d
    · have := k2.1.2.2
      have := hk.2.2
      omega

/-- at a meeting the path stands in the window -/
theorem fi_ret {n m e : Int} {A B : Int → Int} {d k v : Int} (hd : 0 ≤ d) (hn : 1 ≤ n) (hm : 1 ≤ m) (he : e = 1) (hpar : (n - m + e) % 2 = 0) (h : OI n m e A B d) (hk : On d k) (h1 : pick A d k ≤ v) (h2 : v = pick A d k ∨ (v ≤ n ∧ v - k ≤ m))
    (r1 : -(d - 1) ≤ n - m - k) (r2 : n - m - k ≤ d - 1) : v ≤ n ∧ v - k ≤ m ∧ ¬ (pick A d k = n ∧ pick A d k - k = m) ∧ 1 ≤ 2 * v - k := by
  have hp := h.a.pick_bd hd (by omega) hk
  have hdp : 0 < d := by omega
  obtain ⟨F, I, Z⟩ := h.a.2 hdp
  have e1 : d - 1 + 1 = d := by omega
  have b := box (d := d - 1) (k := k) F (by omega) (.inr he) hpar (I trivial) (fun h0 => Z (by omega)) hn hm (by rw [e1]; exact hk) (by omega) (by omega)
  rw [e1] at b
  refine ⟨by omega, by omega, b.2.2, by omega⟩

theorem fi_end {n m e : Int} {A B : Int → Int} {d k : Int} (hd : 0 ≤ d) (hn : 1 ≤ n) (hm : 1 ≤ m) (h : FIv n m e A B d k) (hk : d < k) : Hf n m e A B d := by
  have hall : ∀ j, On d j → Stp n m A d j ∧ (d = 0 → A j = 0) ∧ (e = 1 → -(d - 1) ≤ n - m - j → n - m - j ≤ d - 1 → A j < n ∧ A j - j < m) := fun j hj => h.new j hj (by have := hj.2.1; omega)
  have hz : d = 0 → A 0 = 0 := fun h0 => (hall 0 ⟨by omega, by omega, by omega⟩).2.1 h0
  refine ⟨?_, hz, fun he j hj a b => (hall j hj).2.2 he a b, h.o.b, fun he h2 => ?_⟩
  · by_cases h0 : d = 0
    · subst h0
      exact front_zero (by omega) (by omega) (hz rfl)
    · have F := (h.o.a.2 (by omega)).1
      have e1 : d - 1 + 1 = d := by omega
      have := front_next (d := d - 1) (by omega) (by omega) (by omega) F (fun k hk => by rw [e1] at hk ⊢; exact (hall k hk).1)
      rw [e1] at this
      exact this
  · have k1 := h.st he h2
    have k2 := (kst_on (e := 1) hn hm (.inr rfl) h2).1.2.1
    omega

theorem bi_start {n m e : Int} {A B : Int → Int} {d : Int} (hn : 1 ≤ n) (hm : 1 ≤ m) (h : Hf n m e A B d) : BIv n m e A B d (-d) := by
  refine ⟨h, fun j hj hjk => by have := hj.1; omega, fun he hd => ?_⟩
  have := (kst_on (d := d) (e := 0) hn hm (.inl rfl) (by omega)).1.1
  exact this

theorem bi_step {n m e : Int} {A B B' : Int → Int} {d k v : Int} (hd : 0 ≤ d) (hn : 1 ≤ n) (hm : 1 ≤ m) (he : e = 0 ∨ e = 1) (hpar : (n - m + e) % 2 = 0) (h : BIv n m e A B d k) (hk : On d k) (h1 : pick B d k ≤ v) (h2 : v = pick B d k ∨ (v ≤ n ∧ v - k ≤ m)) (h0 : d = 0 → v = 0)
    (hv : B' k = v) (ho : ∀ j, -(d + 1) ≤ j → j ≤ d + 1 → j ≠ k → B' j = B j) (ht : e = 0 → -d ≤ n - m - k → n - m - k ≤ d → A (n - m - k) + v < n) : BIv n m e A B' d (k + 2) := by
  have hpk : pick B' d k = pick B d k := pick_congr (ho _ (by have := hk.1; omega) (by have := hk.2.1; omega) (by omega)) (ho _ (by have := hk.1; omega) (by have := hk.2.1; omega) (by omega))
  have hp := h.h.b.pick_bd hd (by omega) hk
  have hin : e = 0 → -d ≤ n - m - k → n - m - k ≤ d → (v < n ∧ v - k < m) ∧ (A (n - m - k) < n ∧ A (n - m - k) - (n - m - k) < m) ∧ ¬ (2 * d = n + m) := fun h1' h2' h3' => by
    have t := ht h1' h2' h3'
    have hb := h.h.f.pos (n - m - k) ⟨by omega, by omega, by have := hk.2.2; omega⟩
    refine ⟨⟨by omega, by omega⟩, ⟨by omega, by omega⟩, fun q => ?_⟩
    omega
  refine ⟨⟨h.h.f, h.h.z, h.h.i, h.h.b.congr (v := 0) hd hk ho, h.h.ne⟩, fun j hj hjk => ?_, fun he1 h2d => ?_⟩
  · by_cases e1 : j = k
    · subst e1
      refine ⟨⟨?_, ?_⟩, fun h0' => by rw [hv]; exact h0 h0', fun q1 q2 q3 => ?_⟩
      · rw [hpk, hv]; exact h1
      · rw [hpk, hv]; exact h2
      · rw [hv]
        have := hin q1 q2 q3
        exact ⟨this.1, this.2.1⟩
    · have hj2 : j < k := by have := hj.2.2; have := hk.2.2; omega
      obtain ⟨q1, q2, q3⟩ := h.new j hj hj2
      have c1 : B' j = B j := ho j (by have := hj.1; omega) (by have := hj.2.1; omega) e1
      have c2 : B' (j - 1) = B (j - 1) := ho _ (by have := hj.1; omega) (by have := hj.2.1; omega) (by have := hj.2.2; have := hk.2.2; omega)
      have c3 : B' (j + 1) = B (j + 1) := ho _ (by have := hj.1; omega) (by have := hj.2.1; omega) (by have := hj.2.2; have := hk.2.2; omega)
      refine ⟨q1.congr c1 c2 c3, fun h0' => by rw [c1]; exact q2 h0', fun r1 r2 r3 => by rw [c1]; exact q3 r1 r2 r3⟩
  · have k1 := h.st he1 h2d
    have k2 := kst_on (d := d) (e := 0) hn hm (.inl rfl) (by omega)
    by_cases e1 : k = kst n m d 0
    · exfalso
      rw [← e1] at k2
      exact (hin he1 (by omega) (by omega)).2.2 h2d
    · have := k2.1.2.2
      have := hk.2.2
      omega

theorem bi_ret {n m e : Int} {A B : Int → Int} {d k v : Int} (hd : 0 ≤ d) (hn : 1 ≤ n) (hm : 1 ≤ m) (he : e = 0) (hpar : (n - m + e) % 2 = 0) (h : Hf n m e A B d) (hk : On d k) (h1 : pick B d k ≤ v) (h2 : v = pick B d k ∨ (v ≤ n ∧ v - k ≤ m)) (h0 : d = 0 → v = 0)
    (r1 : -d ≤ n - m - k) (r2 : n - m - k ≤ d) (hmeet : n ≤ A (n - m - k) + v) : v ≤ n ∧ v - k ≤ m ∧ ¬ (pick B d k = n ∧ pick B d k - k = m) ∧ 1 ≤ 2 * v - k := by
  have hp := h.b.pick_bd hd (by omega) hk
  have hdp : 0 < d := by
    rcases Int.lt_or_le 0 d with q | q
    · exact q
    · exfalso
      have hd0 : d = 0 := by omega
      have hk0 : k = 0 := by have := hk.1; have := hk.2.1; omega
      have ha := h.z hd0
      have hv := h0 hd0
      have : n - m - k = 0 := by omega
      rw [this] at hmeet
      omega
  obtain ⟨F, I, Z⟩ := h.b.2 hdp
  have e1 : d - 1 + 1 = d := by omega
  have b := box (d := d - 1) (k := k) F (by omega) (.inl he) hpar (I he) (fun h0 => Z (by omega)) hn hm (by rw [e1]; exact hk) (by omega) (by omega)
  rw [e1] at b
  refine ⟨by omega, by omega, b.2.2, by omega⟩

theorem bi_end {n m e : Int} {A B : Int → Int} {d k : Int} (hd : 0 ≤ d) (hn : 1 ≤ n) (hm : 1 ≤ m) (he : e = 0 ∨ e = 1) (hpar : (n - m + e) % 2 = 0) (h : BIv n m e A B d k) (hk : d < k) : OI n m e A B (d + 1) ∧ 2 * d ≠ n + m + e ∧ Front n m A d ∧ Ins n m e A d := by
  have hall : ∀ j, On d j → Stp n m B d j ∧ (d = 0 → B j = 0) ∧ (e = 0 → -d ≤ n - m - j → n - m - j ≤ d → (B j < n ∧ B j - j < m) ∧ (A (n - m - j) < n ∧ A (n - m - j) - (n - m - j) < m)) := fun j hj => h.new j hj (by have := hj.2.1; omega)
  have hz : d = 0 → B 0 = 0 := fun h0 => (hall 0 ⟨by omega, by omega, by omega⟩).2.1 h0
  have e2 : d + 1 - 1 = d := by omega
  have FB : Front n m B d := by
    by_cases h0 : d = 0
    · subst h0
      exact front_zero (by omega) (by omega) (hz rfl)
    · have F := (h.h.b.2 (by omega)).1
      have e1 : d - 1 + 1 = d := by omega
      have := front_next (d := d - 1) (by omega) (by omega) (by omega) F (fun k hk => by rw [e1] at hk ⊢; exact (hall k hk).1)
      rw [e1] at this
      exact this
  have IA : Ins n m e A d := by
    rcases he with he | he
    · intro j hj a b
      have := (hall (n - m - j) ⟨by omega, by omega, by have := hj.2.2; omega⟩).2.2 he (by have := hj.1; have := hj.2.1; omega) (by have := hj.1; have := hj.2.1; omega)
      have e3 : n - m - (n - m - j) = j := by omega
      rw [e3] at this
      exact this.2
    · subst he
      exact h.h.i rfl
  refine ⟨⟨⟨fun h0 => by omega, fun _ => ?_⟩, ⟨fun h0 => by omega, fun _ => ?_⟩⟩, fun q => ?_, h.h.f, IA⟩
  · rw [e2]
    exact ⟨h.h.f, fun _ => IA, fun h0 => h.h.z (by omega)⟩
  · rw [e2]
    refine ⟨FB, fun he0 j hj a b => ?_, fun h0 => hz (by omega)⟩
    exact ((hall j hj).2.2 he0 (by omega) (by omega)).1
  · rcases he with he | he
    · have k1 := h.st he (by omega)
      have k2 := (kst_on (d := d) (e := 0) hn hm (.inl rfl) (by omega)).1.2.1
      omega
    · exact h.h.ne he (by omega)
end Go.Proofs.Qxb6606346aDoor
