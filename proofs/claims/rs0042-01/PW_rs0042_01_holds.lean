import PyProof.Rows.All
import Wide.All
import OpenK.AllK
import Wide.FinOn
import Lean
import PySem.Challenge.RW_rs0042_01
set_option Elab.async false
set_option maxRecDepth 100000
set_option maxHeartbeats 8000000
set_option pp.deepTerms false
set_option linter.unusedVariables false

-- part M1
namespace Mine
open Classical

/-- a finite nonempty set of places has one with the least value -/
theorem exMin (f : Nat → Int) (P : Nat → Prop) : ∀ n, (∃ k, k < n ∧ P k) → ∃ k, k < n ∧ P k ∧ ∀ j, j < n → P j → f k ≤ f j := by
  intro n
  induction n with
  | zero => rintro ⟨k, hk, _⟩; omega
  | succ n ih =>
    rintro ⟨k, hk, hP⟩
    by_cases h : ∃ k, k < n ∧ P k
    · obtain ⟨m, hm, hPm, hmin⟩ := ih h
      by_cases hn : P n ∧ f n < f m
      · refine ⟨n, by omega, hn.1, fun j hj hPj => ?_⟩
        by_cases hjn : j = n
        · subst hjn; omega
        · have := hmin j (by omega) hPj; omega
      · refine ⟨m, by omega, hPm, fun j hj hPj => ?_⟩
        by_cases hjn : j = n
        · subst hjn
          have : ¬ f j < f m := fun c => hn ⟨hPj, c⟩
          omega
        · exact hmin j (by omega) hPj
    · have hkn : k = n := by
        by_cases e : k = n
        · exact e
        · exact absurd ⟨k, by omega, hP⟩ h
      subst hkn
      refine ⟨k, hk, hP, fun j hj hPj => ?_⟩
      have : j = k := by
        by_cases e : j = k
        · exact e
        · exact absurd ⟨j, by omega, hPj⟩ h
      subst this; omega
theorem exMax (f : Nat → Int) (P : Nat → Prop) (n : Nat) (h : ∃ k, k < n ∧ P k) : ∃ k, k < n ∧ P k ∧ ∀ j, j < n → P j → f j ≤ f k := by
  obtain ⟨k, hk, hP, hm⟩ := exMin (fun k => - f k) P n h
  exact ⟨k, hk, hP, fun j hj hPj => by have := hm j hj hPj; omega⟩
theorem exLeast (P : Nat → Prop) (n : Nat) (h : ∃ k, k < n ∧ P k) : ∃ k, k < n ∧ P k ∧ ∀ j, j < k → ¬ P j := by
  obtain ⟨k, hk, hP, hm⟩ := exMin (fun k => (k : Int)) P n h
  exact ⟨k, hk, hP, fun j hj hPj => by have := hm j (by omega) hPj; omega⟩
theorem exGreatest (P : Nat → Prop) (n : Nat) (h : ∃ k, k < n ∧ P k) : ∃ k, k < n ∧ P k ∧ ∀ j, k < j → j < n → ¬ P j := by
  obtain ⟨k, hk, hP, hm⟩ := exMax (fun k => (k : Int)) P n h
  exact ⟨k, hk, hP, fun j hj hjn hPj => by have := hm j (by omega) hPj; omega⟩

/-- crossings of n lines in the order of their slopes: the middle one of three lies between -/
structure Cross (n : Nat) (x : Nat → Nat → Int) : Prop where
  sym : ∀ i j, x i j = x j i
  bet : ∀ i j k, i < j → j < k → k < n → (x i j < x i k ∧ x i k < x j k) ∨ (x i j = x i k ∧ x i k = x j k) ∨ (x i k < x i j ∧ x j k < x i k)

def Adj (n : Nat) (x : Nat → Nat → Int) (i j : Nat) : Prop := i < j ∧ j < n ∧ ∀ k, i < k → k < j → x i k ≠ x i j
def Fst (n : Nat) (x : Nat → Nat → Int) (i j : Nat) : Prop := Adj n x i j ∧ ∀ k, k < i → x k i ≠ x i j
def Lst (n : Nat) (x : Nat → Nat → Int) (i j : Nat) : Prop := Adj n x i j ∧ ∀ k, j < k → k < n → x j k ≠ x i j

variable {n : Nat} {x : Nat → Nat → Int}

/-- the last pair of a line whose last point is q -/
theorem lastPair (C : Cross n x) {q : Nat} {w : Int} (hq : q < n) (hk : ∃ k, k < n ∧ k ≠ q ∧ x q k = w) (hl : ∀ k, q < k → k < n → x q k ≠ w) :
    ∃ r, Lst n x r q ∧ x r q = w := by
  obtain ⟨k, hkn, hkq, hkw⟩ := hk
  have hlt : k < q := by
    rcases Nat.lt_or_ge k q with h | h
    · exact h
    · exact absurd hkw (hl k (by omega) hkn)
  obtain ⟨r, hr, hrw, hm⟩ := exGreatest (fun k => x k q = w) q ⟨k, hlt, by rw [C.sym]; exact hkw⟩
  refine ⟨r, ⟨⟨hr, hq, fun j h1 h2 e => ?_⟩, fun j h1 h2 e => hl j h1 h2 (by rw [e, hrw])⟩, hrw⟩
  have hj := hm j h1 h2
  rcases C.bet r j q h1 h2 hq with h | h | h <;> omega
theorem firstPair (C : Cross n x) {p : Nat} {w : Int} (hp : p < n) (hk : ∃ k, k < n ∧ k ≠ p ∧ x p k = w) (hl : ∀ k, k < p → x k p ≠ w) :
    ∃ r, Fst n x p r ∧ x p r = w := by
  obtain ⟨k, hkn, hkq, hkw⟩ := hk
  have hlt : p < k := by
    rcases Nat.lt_or_ge p k with h | h
    · exact h
    · exact absurd (by rw [C.sym]; exact hkw) (hl k (by omega))
  obtain ⟨r, hr, ⟨hpr, hrw⟩, hm⟩ := exLeast (fun k => p < k ∧ x p k = w) n ⟨k, hkn, hlt, hkw⟩
  refine ⟨r, ⟨⟨hpr, hr, fun j h1 h2 e => ?_⟩, fun j h1 e => hl j h1 (by rw [e, hrw])⟩, hrw⟩
  exact hm j h2 ⟨h1, by rw [e, hrw]⟩

/-- not all points on one line -/
def NotOne (n : Nat) (x : Nat → Nat → Int) : Prop := ∀ q v, q < n → ∃ k, k < n ∧ k ≠ q ∧ x q k ≠ v

/-- what a wedge (p, q) is sent to: (true, r, q) the last pair of a line, (false, p, r) the first pair of one -/
def Hit (n : Nat) (x : Nat → Nat → Int) (a : Nat × Nat) (b : Bool × Nat × Nat) : Prop :=
  (b.1 = true ∧ b.2.2 = a.2 ∧ Lst n x b.2.1 a.2 ∧ x a.1 a.2 < x b.2.1 a.2 ∧ ∀ k, k < n → k ≠ a.2 → x a.2 k ≤ x a.1 a.2 ∨ x b.2.1 a.2 ≤ x a.2 k) ∨
  (b.1 = false ∧ b.2.1 = a.1 ∧ Fst n x a.1 b.2.2 ∧ x a.1 a.2 < x a.1 b.2.2 ∧ ((∀ k, k < n → k ≠ a.1 → x a.1 k ≤ x a.1 a.2 ∨ x a.1 b.2.2 ≤ x a.1 k)) ∧ ∀ k, k < n → k ≠ a.2 → x a.2 k ≤ x a.1 a.2 ∨ x a.1 b.2.2 < x a.2 k) ∨
  (b.1 = false ∧ b.2.1 = a.2 ∧ Fst n x a.2 b.2.2 ∧ x a.2 b.2.2 < x a.1 a.2 ∧ (∀ k, k < n → k ≠ a.2 → x a.2 k ≤ x a.1 a.2) ∧ (∀ k, k < n → k ≠ a.1 → x a.1 k ≤ x a.1 a.2) ∧ (∀ k, k < n → k ≠ a.2 → x a.2 b.2.2 ≤ x a.2 k)) ∨
  (b.1 = true ∧ b.2.2 = a.1 ∧ Lst n x b.2.1 a.1 ∧ x b.2.1 a.1 < x a.1 a.2 ∧ (∀ k, k < n → k ≠ a.2 → x a.2 k ≤ x a.1 a.2) ∧ (∀ k, k < n → k ≠ a.1 → x a.1 k ≤ x a.1 a.2) ∧ (∀ k, k < n → k ≠ a.1 → x b.2.1 a.1 ≤ x a.1 k))

theorem hit_total (C : Cross n x) (O : NotOne n x) {p q : Nat} (h : Adj n x p q) : ∃ b, Hit n x (p, q) b := by
  obtain ⟨hpq, hq, hadj⟩ := h
  have hp : p < n := by omega
  by_cases e1 : ∃ k, k < n ∧ k ≠ q ∧ x p q < x q k
  · obtain ⟨k1, hk1, ⟨hk1q, hk1v⟩, hm1⟩ := exMin (fun k => x q k) (fun k => k ≠ q ∧ x p q < x q k) n e1
    by_cases e2 : ∃ k, k < n ∧ k ≠ p ∧ x p q < x p k ∧ x p k < x q k1
    · -- B
      obtain ⟨k2, hk2, ⟨hk2p, hk2v, hk2l⟩, hm2⟩ := exMin (fun k => x p k) (fun k => k ≠ p ∧ x p q < x p k ∧ x p k < x q k1) n e2
      have hfirst : ∀ k, k < p → x k p ≠ x p k2 := by
        intro k hk e
        have h1 := hm1 k (by omega)
        have h2 := C.sym k p
        have h3 := C.sym k q
        have h4 : x q k ≤ x p q ∨ x q k1 ≤ x q k := by
          by_cases c : x p q < x q k
          · exact Or.inr (h1 ⟨by omega, c⟩)
          · exact Or.inl (by omega)
        rcases C.bet k p q hk hpq hq with h | h | h <;> omega
      obtain ⟨r, hr, hrv⟩ := firstPair C hp ⟨k2, hk2, hk2p, rfl⟩ hfirst
      refine ⟨(false, p, r), Or.inr (Or.inl ⟨rfl, rfl, hr, ?_, fun k hk hkp => ?_, fun k hk hkq => ?_⟩)⟩
      · show x p q < x p r
        omega
      · show x p k ≤ x p q ∨ x p r ≤ x p k
        by_cases c1 : x p q < x p k
        · by_cases c2 : x p k < x q k1
          · have := hm2 k hk ⟨hkp, c1, c2⟩; omega
          · omega
        · omega
      · show x q k ≤ x p q ∨ x p r < x q k
        by_cases c1 : x p q < x q k
        · have := hm1 k hk ⟨hkq, c1⟩; omega
        · omega
    · -- A
      have hlast : ∀ k, q < k → k < n → x q k ≠ x q k1 := by
        intro k hk hkn e
        have h2 : ¬ (x p q < x p k ∧ x p k < x q k1) := fun c => e2 ⟨k, hkn, by omega, c.1, c.2⟩
        rcases C.bet p q k hpq hk hkn with h | h | h <;> omega
      obtain ⟨r, hr, hrv⟩ := lastPair C hq ⟨k1, hk1, hk1q, rfl⟩ hlast
      refine ⟨(true, r, q), Or.inl ⟨rfl, rfl, hr, ?_, fun k hk hkq => ?_⟩⟩
      · show x p q < x r q
        omega
      · show x q k ≤ x p q ∨ x r q ≤ x q k
        by_cases c : x p q < x q k
        · have := hm1 k hk ⟨hkq, c⟩; omega
        · omega
  · have hqmax : ∀ k, k < n → k ≠ q → x q k ≤ x p q := fun k hk hkq => by
      by_cases c : x p q < x q k
      · exact absurd ⟨k, hk, hkq, c⟩ e1
      · omega
    by_cases e2 : ∃ k, k < n ∧ k ≠ p ∧ x p q < x p k
    · -- B
      obtain ⟨k2, hk2, ⟨hk2p, hk2v⟩, hm2⟩ := exMin (fun k => x p k) (fun k => k ≠ p ∧ x p q < x p k) n e2
      have hfirst : ∀ k, k < p → x k p ≠ x p k2 := by
        intro k hk e
        have h1 := hqmax k (by omega) (by omega)
        have h2 := C.sym k p
        have h3 := C.sym k q
        rcases C.bet k p q hk hpq hq with h | h | h <;> omega
      obtain ⟨r, hr, hrv⟩ := firstPair C hp ⟨k2, hk2, hk2p, rfl⟩ hfirst
      refine ⟨(false, p, r), Or.inr (Or.inl ⟨rfl, rfl, hr, ?_, fun k hk hkp => ?_, fun k hk hkq => ?_⟩)⟩
      · show x p q < x p r
        omega
      · show x p k ≤ x p q ∨ x p r ≤ x p k
        by_cases c : x p q < x p k
        · have := hm2 k hk ⟨hkp, c⟩; omega
        · omega
      · exact Or.inl (hqmax k hk hkq)
    · have hpmax : ∀ k, k < n → k ≠ p → x p k ≤ x p q := fun k hk hkp => by
        by_cases c : x p q < x p k
        · exact absurd ⟨k, hk, hkp, c⟩ e2
        · omega
      obtain ⟨k1, hk1, hk1q, hm1⟩ := exMin (fun k => x q k) (fun k => k ≠ q) n ⟨p, hp, by omega⟩
      obtain ⟨k2, hk2, hk2p, hm2⟩ := exMin (fun k => x p k) (fun k => k ≠ p) n ⟨q, hq, by omega⟩
      have hlt : x q k1 < x p q := by
        obtain ⟨k, hk, hkq, hkv⟩ := O q (x p q) hq
        have := hqmax k hk hkq
        have := hm1 k hk hkq
        omega
      by_cases c : x q k1 ≤ x p k2
      · -- C1
        have hfirst : ∀ k, k < q → x k q ≠ x q k1 := by
          intro k hk e
          have hs := C.sym k q
          by_cases hkp : k = p
          · subst hkp; omega
          · rcases Nat.lt_or_ge k p with hlt2 | hge
            · have h1 := hm2 k (by omega) hkp
              have h2 := C.sym k p
              rcases C.bet k p q hlt2 hpq hq with h | h | h <;> omega
            · have h1 := hpmax k (by omega) hkp
              rcases C.bet p k q (by omega) hk hq with h | h | h <;> omega
        obtain ⟨r, hr, hrv⟩ := firstPair C hq ⟨k1, hk1, hk1q, rfl⟩ hfirst
        refine ⟨(false, q, r), Or.inr (Or.inr (Or.inl ⟨rfl, rfl, hr, ?_, hqmax, hpmax, fun k hk hkq => ?_⟩))⟩
        · show x q r < x p q
          omega
        · show x q r ≤ x q k
          have := hm1 k hk hkq; omega
      · -- C2
        have hlast : ∀ k, p < k → k < n → x p k ≠ x p k2 := by
          intro k hk hkn e
          have hw : x q k1 ≤ x p q := by have := hm1 p hp (by omega); have := C.sym p q; omega
          by_cases hkq : k = q
          · subst hkq; omega
          · rcases Nat.lt_or_ge k q with hlt2 | hge
            · have h1 := hqmax k hkn hkq
              have h2 := C.sym k q
              rcases C.bet p k q hk hlt2 hq with h | h | h <;> omega
            · have h1 := hm1 k hkn hkq
              rcases C.bet p q k hpq (by omega) hkn with h | h | h <;> omega
        obtain ⟨r, hr, hrv⟩ := lastPair C hp ⟨k2, hk2, hk2p, rfl⟩ hlast
        refine ⟨(true, r, p), Or.inr (Or.inr (Or.inr ⟨rfl, rfl, hr, ?_, hqmax, hpmax, fun k hk hkp => ?_⟩))⟩
        · show x r p < x p q
          omega
        · show x r p ≤ x p k
          have := hm2 k hk hkp; omega

theorem adj_pred (C : Cross n x) {p p' q : Nat} (h : Adj n x p q) (h' : Adj n x p' q) (e : x p q = x p' q) : p = p' := by
  obtain ⟨a1, a2, a3⟩ := h
  obtain ⟨b1, b2, b3⟩ := h'
  rcases Nat.lt_trichotomy p p' with c | c | c
  · have := a3 p' c b1
    rcases C.bet p p' q c b1 a2 with h | h | h <;> omega
  · exact c
  · have := b3 p c a1
    rcases C.bet p' p q c a1 a2 with h | h | h <;> omega
theorem adj_succ {p q q' : Nat} (h : Adj n x p q) (h' : Adj n x p q') (e : x p q = x p q') : q = q' := by
  obtain ⟨a1, a2, a3⟩ := h
  obtain ⟨b1, b2, b3⟩ := h'
  rcases Nat.lt_trichotomy q q' with c | c | c
  · exact absurd e (b3 q a1 c)
  · exact c
  · exact absurd e.symm (a3 q' b1 c)

theorem hit_inj (C : Cross n x) {a a' : Nat × Nat} {b : Bool × Nat × Nat} (h : Adj n x a.1 a.2) (h' : Adj n x a'.1 a'.2) (H : Hit n x a b) (H' : Hit n x a' b) : a = a' := by
  obtain ⟨p, q⟩ := a
  obtain ⟨p', q'⟩ := a'
  obtain ⟨t, i, j⟩ := b
  simp only [Hit] at H H'
  have hp := h.1; have hp' := h'.1; have hq := h.2.1; have hq' := h'.2.1
  simp only at hp hp' hq hq'
  rcases H with ⟨ht, e, L, lt, nx⟩ | ⟨ht, e, L, lt, nx, ny⟩ | ⟨ht, e, L, lt, mq, mp, mn⟩ | ⟨ht, e, L, lt, mq, mp, mn⟩ <;>
    rcases H' with ⟨ht', e', L', lt', nx'⟩ | ⟨ht', e', L', lt', nx', ny'⟩ | ⟨ht', e', L', lt', mq', mp', mn'⟩ | ⟨ht', e', L', lt', mq', mp', mn'⟩ <;>
    first
      | (exfalso; rw [ht] at ht'; cases ht'; done)
      | skip
  · subst e; subst e'
    have h1 := nx p' (by omega) (by omega)
    have h2 := nx' p (by omega) (by omega)
    have h3 := C.sym p j
    have h4 := C.sym p' j
    have := adj_pred C h h' (by show x p j = x p' j; omega)
    simp only at this
    subst this; rfl
  · subst e; subst e'
    have h1 := mn' p (by omega) (by omega)
    have h3 := C.sym p j
    omega
  · subst e; subst e'
    have h1 := nx q' (by omega) (by omega)
    have h2 := nx' q (by omega) (by omega)
    have := adj_succ h h' (by show x i q = x i q'; omega)
    simp only at this
    subst this; rfl
  · subst e; subst e'
    have h1 := mn' q (by omega) (by omega)
    omega
  · subst e; subst e'
    have h1 := mn q' (by omega) (by omega)
    omega
  · subst e; subst e'
    have h1 := mq p' (by omega) (by omega)
    have h2 := mq' p (by omega) (by omega)
    have h3 := C.sym p i
    have h4 := C.sym p' i
    have := adj_pred C h h' (by show x p i = x p' i; omega)
    simp only at this
    subst this; rfl
  · subst e; subst e'
    have h1 := mn p' (by omega) (by omega)
    have h3 := C.sym p' j
    omega
  · subst e; subst e'
    have h1 := mp q' (by omega) (by omega)
    have h2 := mp' q (by omega) (by omega)
    have := adj_succ h h' (by show x j q = x j q'; omega)
    simp only at this
    subst this; rfl
end Mine

-- part M5
namespace Mine
open Classical

theorem nodup_len {α : Type} : ∀ {l m : List α}, l.Nodup → (∀ a ∈ l, a ∈ m) → l.length ≤ m.length
  | [], _, _, _ => Nat.zero_le _
  | a :: l, m, hn, hs => by
    have ha := hs a (List.mem_cons_self ..)
    obtain ⟨m₁, m₂, rfl⟩ := List.append_of_mem ha
    have h := nodup_len (l := l) (m := m₁ ++ m₂) (List.nodup_cons.mp hn).2 fun b hb => by
      have := hs b (List.mem_cons_of_mem _ hb)
      rcases List.mem_append.mp this with h | h
      · exact List.mem_append_left _ h
      · rcases List.mem_cons.mp h with rfl | h
        · exact absurd hb (List.nodup_cons.mp hn).1
        · exact List.mem_append_right _ h
    simp only [List.length_append, List.length_cons] at h ⊢
    omega

/-- an injective relation into a list, with some of it left over -/
theorem inj_count {α β : Type} {H : α → β → Prop} {l : List α} {m u : List β} (hl : l.Nodup) (hu : u.Nodup) (tot : ∀ a ∈ l, ∃ b ∈ m, H a b) (inj : ∀ a ∈ l, ∀ a' ∈ l, ∀ b, H a b → H a' b → a = a')
    (hum : ∀ b ∈ u, b ∈ m) (un : ∀ b ∈ u, ∀ a ∈ l, ¬ H a b) : l.length + u.length ≤ m.length := by
  have key : ∀ k : List α, k.Nodup → (∀ a ∈ k, a ∈ l) → ∃ v : List β, v.length = k.length ∧ v.Nodup ∧ (∀ b ∈ v, b ∈ m) ∧ ∀ b ∈ v, ∃ a ∈ k, H a b := by
    intro k
    induction k with
    | nil => intro _ _; exact ⟨[], rfl, List.nodup_nil, (fun _ h => nomatch h), (fun _ h => nomatch h)⟩
    | cons a k ih =>
      intro hk hs
      obtain ⟨v, h1, h2, h3, h4⟩ := ih (List.nodup_cons.mp hk).2 fun b hb => hs b (List.mem_cons_of_mem _ hb)
      obtain ⟨b, hb, hab⟩ := tot a (hs a (List.mem_cons_self ..))
      refine ⟨b :: v, by simp [h1], List.nodup_cons.mpr ⟨fun hbv => ?_, h2⟩, fun c hc => ?_, fun c hc => ?_⟩
      · obtain ⟨a', ha', hab'⟩ := h4 b hbv
        have := inj a (hs a (List.mem_cons_self ..)) a' (hs a' (List.mem_cons_of_mem _ ha')) b hab hab'
        exact (List.nodup_cons.mp hk).1 (this ▸ ha')
      · rcases List.mem_cons.mp hc with rfl | hc
        · exact hb
        · exact h3 c hc
      · rcases List.mem_cons.mp hc with rfl | hc
        · exact ⟨a, List.mem_cons_self .., hab⟩
        · obtain ⟨a', ha', h⟩ := h4 c hc
          exact ⟨a', List.mem_cons_of_mem _ ha', h⟩
  obtain ⟨v, h1, h2, h3, h4⟩ := key l hl fun _ h => h
  have : (v ++ u).length ≤ m.length := nodup_len (List.nodup_append.mpr ⟨h2, hu, fun a ha b hb e => by
    obtain ⟨a', ha', h⟩ := h4 a ha
    exact un b hb a' ha' (e ▸ h)⟩) fun b hb => by
      rcases List.mem_append.mp hb with h | h
      · exact h3 b h
      · exact hum b h
  rw [List.length_append, h1] at this
  exact this

noncomputable def prs : Nat → List (Nat × Nat)
  | 0 => []
  | n + 1 => prs n ++ (List.range n).map fun i => (i, n)
theorem prs_mem {p : Nat × Nat} : ∀ {n : Nat}, p ∈ prs n ↔ p.1 < p.2 ∧ p.2 < n
  | 0 => by simp [prs]
  | n + 1 => by
    rw [prs, List.mem_append, prs_mem, List.mem_map]
    constructor
    · rintro (h | ⟨i, hi, rfl⟩)
      · omega
      · have := List.mem_range.mp hi
        exact ⟨this, Nat.lt_succ_self _⟩
    · rintro ⟨h1, h2⟩
      by_cases e : p.2 = n
      · exact Or.inr ⟨p.1, List.mem_range.mpr (by omega), by rw [← e]⟩
      · exact Or.inl ⟨h1, by omega⟩
theorem prs_nodup : ∀ n, (prs n).Nodup
  | 0 => List.nodup_nil
  | n + 1 => by
    rw [prs]
    refine List.nodup_append.mpr ⟨prs_nodup n, ?_, fun a ha b hb e => ?_⟩
    · refine List.pairwise_map.mpr (List.nodup_range.imp fun h e => h ?_)
      exact congrArg Prod.fst e
    · have h1 := (prs_mem.mp ha).2
      obtain ⟨i, _, rfl⟩ := List.mem_map.mp hb
      rw [e] at h1
      exact absurd h1 (Nat.lt_irrefl _)

variable {n : Nat} {x : Nat → Nat → Int}

noncomputable def adjL (n : Nat) (x : Nat → Nat → Int) : List (Nat × Nat) := (prs n).filter fun p => decide (Adj n x p.1 p.2)
noncomputable def fstL (n : Nat) (x : Nat → Nat → Int) : List (Nat × Nat) := (prs n).filter fun p => decide (Fst n x p.1 p.2)
noncomputable def lstL (n : Nat) (x : Nat → Nat → Int) : List (Nat × Nat) := (prs n).filter fun p => decide (Lst n x p.1 p.2)
noncomputable def ordL (n : Nat) (x : Nat → Nat → Int) : List (Nat × Nat) := (prs n).filter fun p => decide (Fst n x p.1 p.2 ∧ Lst n x p.1 p.2)
noncomputable def intL (n : Nat) (x : Nat → Nat → Int) : List (Nat × Nat) := (prs n).filter fun p => decide (Adj n x p.1 p.2 ∧ ¬ Fst n x p.1 p.2 ∧ ¬ Lst n x p.1 p.2)

theorem four_counts : (adjL n x).length + (ordL n x).length = (fstL n x).length + (lstL n x).length + (intL n x).length := by
  unfold adjL ordL fstL lstL intL
  induction prs n with
  | nil => rfl
  | cons p l ih =>
    have hf : Fst n x p.1 p.2 → Adj n x p.1 p.2 := fun h => h.1
    have hl : Lst n x p.1 p.2 → Adj n x p.1 p.2 := fun h => h.1
    simp only [List.filter_cons]
    by_cases a : Adj n x p.1 p.2 <;> by_cases f : Fst n x p.1 p.2 <;> by_cases l : Lst n x p.1 p.2 <;> simp_all <;> omega

theorem unhit_count (C : Cross n x) (O : NotOne n x) (hn : 2 ≤ n) : ∃ u : List (Bool × Nat × Nat), u.Nodup ∧ 3 ≤ u.length ∧ (∀ b ∈ u, (b.1 = true ∧ Lst n x b.2.1 b.2.2) ∨ (b.1 = false ∧ Fst n x b.2.1 b.2.2)) ∧ ∀ b ∈ u, ∀ a, Adj n x a.1 a.2 → ¬ Hit n x a b := by
  have hlast : n - 1 < n := by omega
  -- the least and the greatest crossing of the first and of the last point
  obtain ⟨k1, k1n, k1p, k1m⟩ := exMin (fun k => x 0 k) (fun k => k ≠ 0) n ⟨n - 1, hlast, by omega⟩
  obtain ⟨k2, k2n, k2p, k2m⟩ := exMax (fun k => x (n - 1) k) (fun k => k ≠ n - 1) n ⟨0, by omega, by omega⟩
  obtain ⟨k3, k3n, k3p, k3m⟩ := exMin (fun k => x (n - 1) k) (fun k => k ≠ n - 1) n ⟨0, by omega, by omega⟩
  obtain ⟨k4, k4n, k4p, k4m⟩ := exMax (fun k => x 0 k) (fun k => k ≠ 0) n ⟨n - 1, hlast, by omega⟩
  obtain ⟨r1, hr1, hr1v⟩ := firstPair C (p := 0) (w := x 0 k1) (by omega) ⟨k1, k1n, k1p, rfl⟩ (fun k hk => by omega)
  obtain ⟨r3, hr3, hr3v⟩ := lastPair C (q := n - 1) (w := x (n - 1) k3) hlast ⟨k3, k3n, k3p, rfl⟩ (fun k h1 h2 => by omega)
  -- u2
  obtain ⟨i, hin, hiw, him⟩ := exLeast (fun k => k ≠ n - 1 ∧ x k (n - 1) = x (n - 1) k2) n ⟨k2, k2n, k2p, C.sym _ _⟩
  have hi1 : i < n - 1 := by omega
  obtain ⟨j, hj, hjv⟩ := firstPair C (p := i) (w := x (n - 1) k2) hin ⟨n - 1, hlast, by omega, hiw.2⟩ (fun k hk e => by
    refine him k hk ⟨by omega, ?_⟩
    have := hiw.2
    rcases C.bet k i (n - 1) hk hi1 hlast with h | h | h <;> omega)
  -- u4
  obtain ⟨q, hqn, hqw, hqm⟩ := exGreatest (fun k => k ≠ 0 ∧ x 0 k = x 0 k4) n ⟨k4, k4n, k4p, rfl⟩
  have hq0 : 0 < q := by omega
  obtain ⟨r4, hr4, hr4v⟩ := lastPair C (q := q) (w := x 0 k4) hqn ⟨0, by omega, by omega, by rw [C.sym]; exact hqw.2⟩ (fun k h1 h2 e => by
    refine hqm k h1 h2 ⟨by omega, ?_⟩
    have := hqw.2
    rcases C.bet 0 q k hq0 h1 h2 with h | h | h <;> omega)
  have un1 : ∀ a, Adj n x a.1 a.2 → ¬ Hit n x a (false, 0, r1) := by
    rintro ⟨p', q'⟩ ha H
    have h1 := ha.1; have h2 := ha.2.1
    simp only [Hit] at H h1 h2
    rcases H with ⟨ht, _⟩ | ⟨ht, e, L, lt, nx, ny⟩ | ⟨ht, e, L, lt, mq, mp, mn⟩ | ⟨ht, _⟩
    · cases ht
    · subst e
      have := k1m q' h2 (by omega)
      omega
    · omega
    · cases ht
  have un2 : ∀ a, Adj n x a.1 a.2 → ¬ Hit n x a (false, i, j) := by
    rintro ⟨p', q'⟩ ha H
    have h1 := ha.1; have h2 := ha.2.1
    simp only [Hit] at H h1 h2
    rcases H with ⟨ht, _⟩ | ⟨ht, e, L, lt, nx, ny⟩ | ⟨ht, e, L, lt, mq, mp, mn⟩ | ⟨ht, _⟩
    · cases ht
    · subst e
      by_cases c : q' = n - 1
      · subst c; have := hiw.2; omega
      · have h3 := ny (n - 1) hlast (Ne.symm c)
        have h4 := k2m q' h2 c
        have h5 := C.sym q' (n - 1)
        have h6 := hiw.2
        rcases C.bet i q' (n - 1) h1 (by omega) hlast with h | h | h <;> omega
    · subst e
      have h3 := mp (n - 1) hlast (by omega)
      have h4 := k2m p' (by omega) (by omega)
      have h5 := C.sym p' (n - 1)
      have h6 := hiw.2
      rcases C.bet p' i (n - 1) h1 hi1 hlast with h | h | h <;> omega
    · cases ht
  have un3 : ∀ a, Adj n x a.1 a.2 → ¬ Hit n x a (true, r3, n - 1) := by
    rintro ⟨p', q'⟩ ha H
    have h1 := ha.1; have h2 := ha.2.1
    simp only [Hit] at H h1 h2
    rcases H with ⟨ht, e, L, lt, nx⟩ | ⟨ht, _⟩ | ⟨ht, _⟩ | ⟨ht, e, L, lt, mq, mp, mn⟩
    · subst e
      have h3 := k3m p' (by omega) (by omega)
      have h4 := C.sym p' (n - 1)
      omega
    · cases ht
    · cases ht
    · omega
  have un4 : ∀ a, Adj n x a.1 a.2 → ¬ Hit n x a (true, r4, q) := by
    rintro ⟨p', q'⟩ ha H
    have h1 := ha.1; have h2 := ha.2.1
    simp only [Hit] at H h1 h2
    rcases H with ⟨ht, e, L, lt, nx⟩ | ⟨ht, _⟩ | ⟨ht, _⟩ | ⟨ht, e, L, lt, mq, mp, mn⟩
    · subst e
      have h6 := hqw.2
      by_cases c : p' = 0
      · subst c; omega
      · have h3 := k4m p' (by omega) c
        rcases C.bet 0 p' q (by omega) h1 hqn with h | h | h <;> omega
    · cases ht
    · cases ht
    · subst e
      have h6 := hqw.2
      have h3 := k4m q' h2 (by omega)
      rcases C.bet 0 q q' hq0 h1 h2 with h | h | h <;> omega
  have f1 : Fst n x 0 r1 := hr1
  by_cases c : (0, r1) = (i, j)
  · have ci : i = 0 := (congrArg Prod.fst c).symm
    have cj : j = r1 := (congrArg Prod.snd c).symm
    have cq : (r3, n - 1) ≠ (r4, q) := fun e => by
      have e2 : q = n - 1 := (congrArg Prod.snd e).symm
      have e1 : r4 = r3 := (congrArg Prod.fst e).symm
      obtain ⟨k, hk, hk0, hkv⟩ := O 0 (x 0 (n - 1)) (by omega)
      have a1 := k1m k hk hk0
      have a2 := k4m k hk hk0
      have a3 := hqw.2
      have a4 := hiw.2
      rw [e2] at a3
      rw [ci] at a4
      have : x 0 r1 = x 0 j := by rw [cj]
      rw [ci] at hjv
      omega
    refine ⟨[(false, 0, r1), (true, r3, n - 1), (true, r4, q)], ?_, by simp, ?_, ?_⟩
    · refine List.nodup_cons.mpr ⟨by simp, List.nodup_cons.mpr ⟨fun h => ?_, by simp⟩⟩
      have h := List.mem_singleton.mp h
      exact cq (congrArg Prod.snd h)
    · intro b hb
      simp only [List.mem_cons, List.not_mem_nil, or_false] at hb
      rcases hb with rfl | rfl | rfl
      · exact Or.inr ⟨rfl, hr1⟩
      · exact Or.inl ⟨rfl, hr3⟩
      · exact Or.inl ⟨rfl, hr4⟩
    · intro b hb
      simp only [List.mem_cons, List.not_mem_nil, or_false] at hb
      rcases hb with rfl | rfl | rfl
      · exact un1
      · exact un3
      · exact un4
  · refine ⟨[(true, r3, n - 1), (false, 0, r1), (false, i, j)], ?_, by simp, ?_, ?_⟩
    · refine List.nodup_cons.mpr ⟨by simp, List.nodup_cons.mpr ⟨fun h => ?_, by simp⟩⟩
      have h := List.mem_singleton.mp h
      exact c (congrArg Prod.snd h)
    · intro b hb
      simp only [List.mem_cons, List.not_mem_nil, or_false] at hb
      rcases hb with rfl | rfl | rfl
      · exact Or.inl ⟨rfl, hr3⟩
      · exact Or.inr ⟨rfl, hr1⟩
      · exact Or.inr ⟨rfl, hj⟩
    · intro b hb
      simp only [List.mem_cons, List.not_mem_nil, or_false] at hb
      rcases hb with rfl | rfl | rfl
      · exact un3
      · exact un1
      · exact un2

theorem melchior (C : Cross n x) (O : NotOne n x) (hn : 2 ≤ n) : 3 + (intL n x).length ≤ (ordL n x).length := by
  obtain ⟨u, hu, hul, hum, hun⟩ := unhit_count C O hn
  have hmem : ∀ b : Bool × Nat × Nat, (b.1 = true ∧ Lst n x b.2.1 b.2.2) ∨ (b.1 = false ∧ Fst n x b.2.1 b.2.2) → b ∈ (lstL n x).map (fun p => (true, p)) ++ (fstL n x).map (fun p => (false, p)) := by
    rintro ⟨t, i, j⟩ (⟨h1, h2⟩ | ⟨h1, h2⟩)
    · have h1 : t = true := h1
      subst h1
      exact List.mem_append_left _ (List.mem_map.mpr ⟨(i, j), List.mem_filter.mpr ⟨prs_mem.mpr ⟨h2.1.1, h2.1.2.1⟩, decide_eq_true h2⟩, rfl⟩)
    · have h1 : t = false := h1
      subst h1
      exact List.mem_append_right _ (List.mem_map.mpr ⟨(i, j), List.mem_filter.mpr ⟨prs_mem.mpr ⟨h2.1.1, h2.1.2.1⟩, decide_eq_true h2⟩, rfl⟩)
  have hA : ∀ a ∈ adjL n x, Adj n x a.1 a.2 := fun a ha => of_decide_eq_true (List.mem_filter.mp ha).2
  have := inj_count (H := Hit n x) (l := adjL n x) (m := (lstL n x).map (fun p => (true, p)) ++ (fstL n x).map (fun p => (false, p))) (u := u)
    ((prs_nodup n).filter _) hu (fun a ha => by
      obtain ⟨b, hb⟩ := hit_total C O (hA a ha)
      refine ⟨b, hmem b ?_, hb⟩
      rcases hb with ⟨h1, h2, h3, _⟩ | ⟨h1, h2, h3, _⟩ | ⟨h1, h2, h3, _⟩ | ⟨h1, h2, h3, _⟩
      · exact Or.inl ⟨h1, by rw [h2]; exact h3⟩
      · exact Or.inr ⟨h1, by rw [h2]; exact h3⟩
      · exact Or.inr ⟨h1, by rw [h2]; exact h3⟩
      · exact Or.inl ⟨h1, by rw [h2]; exact h3⟩)
    (fun a ha a' ha' b h h' => hit_inj C (hA a ha) (hA a' ha') h h') (fun b hb => hmem b (hum b hb)) fun b hb a ha => hun b hb a (hA a ha)
  rw [List.length_append, List.length_map, List.length_map] at this
  have := four_counts (n := n) (x := x)
  omega

/-- four points of a line: an interior pair starts at the second one -/
theorem interior (C : Cross n x) {a b c d : Nat} (hab : a < b) (hbc : b < c) (hcd : c < d) (hd : d < n) (e1 : x a b = x b c) (e2 : x b c = x b d) : ∃ v, (b, v) ∈ intL n x := by
  obtain ⟨v, hv, ⟨hbv, hvw⟩, hm⟩ := exLeast (fun k => b < k ∧ x b k = x b c) n ⟨c, by omega, hbc, rfl⟩
  have hvc : v ≤ c := by
    rcases Nat.lt_or_ge c v with h | h
    · exact absurd ⟨hbc, rfl⟩ (hm c h)
    · exact h
  have hA : Adj n x b v := ⟨hbv, hv, fun k h1 h2 e => hm k h2 ⟨h1, by rw [e, hvw]⟩⟩
  refine ⟨v, List.mem_filter.mpr ⟨prs_mem.mpr ⟨hbv, hv⟩, decide_eq_true ⟨hA, fun h => ?_, fun h => ?_⟩⟩⟩
  · exact h.2 a hab (by show x a b = x b v; rw [e1, hvw])
  · refine h.2 d (by omega) hd ?_
    show x v d = x b v
    rcases C.bet b v d hbv (by omega) hd with h | h | h <;> omega
end Mine

-- part N1
namespace Mine
open Classical

/-- an involution without fixed places lives on an even count -/
theorem even_inv {f : Nat → Nat} : ∀ (n : Nat) {l : List Nat}, l.length ≤ n → l.Nodup → (∀ a ∈ l, f a ∈ l ∧ f a ≠ a ∧ f (f a) = a) → l.length % 2 = 0 := by
  intro n
  induction n with
  | zero => intro l h _ _; omega
  | succ n ih =>
    intro l hl hn hf
    match l, hl, hn, hf with
    | [], _, _, _ => rfl
    | a :: l, hl, hn, hf =>
      obtain ⟨h1, h2, h3⟩ := hf a (List.mem_cons_self ..)
      obtain ⟨hal, hnl⟩ := List.nodup_cons.mp hn
      have hfa : f a ∈ l := (List.mem_cons.mp h1).resolve_left h2
      have hlen : (l.erase (f a)).length = l.length - 1 := List.length_erase_of_mem hfa
      have hpos : 0 < l.length := List.length_pos_of_mem hfa
      have hl' : (l.erase (f a)).length ≤ n := by
        simp only [List.length_cons] at hl
        omega
      have := ih hl' (hnl.erase _) fun b hb => by
        obtain ⟨hb1, hb2⟩ := hnl.mem_erase_iff.mp hb
        obtain ⟨k1, k2, k3⟩ := hf b (List.mem_cons_of_mem _ hb2)
        refine ⟨hnl.mem_erase_iff.mpr ⟨fun e => ?_, ?_⟩, k2, k3⟩
        · have : b = a := by rw [← k3, e, h3]
          exact hal (this ▸ hb2)
        · rcases List.mem_cons.mp k1 with e | h
          · exact absurd (by rw [← e, k3]) hb1
          · exact h
      simp only [List.length_cons]
      omega

/-- points and their lines of three: t p q r says that r is the third point of the line through p and q -/
structure Sys (os : List Nat) (t : Nat → Nat → Nat → Prop) : Prop where
  nd : os.Nodup
  c1 : ∀ {p q r}, t p q r → t q p r
  c2 : ∀ {p q r}, t p q r → t p r q
  ne : ∀ {p q r}, t p q r → p ≠ q
  mem : ∀ {p q r}, t p q r → p ∈ os
  uq : ∀ {p q r s}, t p q r → t p q s → r = s

variable {os : List Nat} {t : Nat → Nat → Nat → Prop}

theorem Sys.c3 (S : Sys os t) {p q r : Nat} (h : t p q r) : t r q p := S.c1 (S.c2 (S.c1 h))
theorem Sys.mem2 (S : Sys os t) {p q r : Nat} (h : t p q r) : q ∈ os := S.mem (S.c1 h)
theorem Sys.mem3 (S : Sys os t) {p q r : Nat} (h : t p q r) : r ∈ os := S.mem (S.c3 h)
theorem Sys.ne2 (S : Sys os t) {p q r : Nat} (h : t p q r) : p ≠ r := S.ne (S.c2 h)
theorem Sys.ne3 (S : Sys os t) {p q r : Nat} (h : t p q r) : q ≠ r := S.ne (S.c2 (S.c1 h))
/-- two lines of three with the first point and one more in common -/
theorem Sys.u2 (S : Sys os t) {p q r s : Nat} (h : t p q r) (h' : t p s q) : r = s := S.uq h (S.c2 h')

/-- p and q are ordinary: no third point -/
def Odd2 (os : List Nat) (t : Nat → Nat → Nat → Prop) (p q : Nat) : Prop := p ∈ os ∧ q ∈ os ∧ p ≠ q ∧ ∀ r, ¬ t p q r
theorem Odd2.symm (S : Sys os t) {p q : Nat} (h : Odd2 os t p q) : Odd2 os t q p := ⟨h.2.1, h.1, h.2.2.1.symm, fun r k => h.2.2.2 r (S.c1 k)⟩
theorem third {p q : Nat} (hp : p ∈ os) (hq : q ∈ os) (hne : p ≠ q) (h : ¬ Odd2 os t p q) : ∃ r, t p q r := by
  by_cases c : ∃ r, t p q r
  · exact c
  · exact absurd ⟨hp, hq, hne, fun r k => c ⟨r, k⟩⟩ h

/-- the partners of a point -/
noncomputable def mates (os : List Nat) (t : Nat → Nat → Nat → Prop) (p : Nat) : List Nat := os.filter fun q => decide (Odd2 os t p q)
theorem mates_mem {p q : Nat} : q ∈ mates os t p ↔ Odd2 os t p q := by
  unfold mates
  rw [List.mem_filter, decide_eq_true_eq]
  exact ⟨fun h => h.2, fun h => ⟨h.2.1, h⟩⟩
theorem Sys.parity (S : Sys os t) {p : Nat} (hp : p ∈ os) : (mates os t p).length % 2 = (os.length + 1) % 2 := by
  have hex : ∀ q, q ∈ os → q ≠ p → ¬ Odd2 os t p q → ∃ r, t p q r := fun q hq hqp h => third hp hq (Ne.symm hqp) h
  let f : Nat → Nat := fun q => if h : ∃ r, t p q r then Classical.choose h else q
  have hf : ∀ {q r}, t p q r → f q = r := fun {q r} h => by
    have h' : ∃ r, t p q r := ⟨r, h⟩
    have e : f q = Classical.choose h' := dif_pos h'
    rw [e]
    exact S.uq (Classical.choose_spec h') h
  have hn1 : (os.erase p).Nodup := S.nd.erase _
  have key : (os.erase p).length = (mates os t p).length + ((os.erase p).filter fun q => decide (¬ Odd2 os t p q)).length := by
    have e : mates os t p = (os.erase p).filter fun q => decide (Odd2 os t p q) := by
      unfold mates
      rw [S.nd.erase_eq_filter, List.filter_filter]
      apply List.filter_congr
      intro q _
      by_cases h : Odd2 os t p q
      · have := h.2.2.1.symm
        simp [h, this]
      · simp [h]
    rw [e]
    induction os.erase p with
    | nil => rfl
    | cons a l ih =>
      simp only [List.filter_cons]
      by_cases h : Odd2 os t p a
      · simp [h]; simp at ih; omega
      · simp [h]; simp at ih; omega
  have hev := even_inv (f := f) _ (Nat.le_refl _) (hn1.filter fun q => decide (¬ Odd2 os t p q)) fun q hq => by
    obtain ⟨h1, h2⟩ := List.mem_filter.mp hq
    obtain ⟨hqp, hqo⟩ := S.nd.mem_erase_iff.mp h1
    have h2 := of_decide_eq_true h2
    obtain ⟨r, hr⟩ := hex q hqo hqp h2
    have hr' := S.c2 hr
    rw [hf hr, hf hr']
    exact ⟨List.mem_filter.mpr ⟨S.nd.mem_erase_iff.mpr ⟨(S.ne2 hr).symm, S.mem3 hr⟩, decide_eq_true fun h => h.2.2.2 _ hr'⟩, (S.ne3 hr).symm, rfl⟩
  have hl := List.length_erase_of_mem hp
  have hpos := List.length_pos_of_mem hp
  omega
end Mine

-- part N2
namespace Mine
open Classical

variable {os : List Nat} {t : Nat → Nat → Nat → Prop} {β : Type} {k : Nat → Nat → β} {m : List β}

/-- each ordinary pair has a key of its own; there are at most three keys -/
structure Keyed (os : List Nat) (t : Nat → Nat → Nat → Prop) {β : Type} (k : Nat → Nat → β) (m : List β) : Prop where
  mem : ∀ {p q}, Odd2 os t p q → k p q ∈ m
  inj : ∀ {p q p' q'}, Odd2 os t p q → Odd2 os t p' q' → k p q = k p' q' → (p' = p ∧ q' = q) ∨ (p' = q ∧ q' = p)
  len : m.length ≤ 3

theorem no_ten (S : Sys os t) (K : Keyed os t k m) (h : os.length = 10) : False := by
  have := inj_count (H := fun (p : Nat) (b : β × Bool) => ∃ q, Odd2 os t p q ∧ b.1 = k p q ∧ b.2 = decide (p < q)) (l := os) (m := m.map (fun x => (x, true)) ++ m.map (fun x => (x, false))) (u := []) S.nd List.nodup_nil
    (fun p hp => by
      have hpar := S.parity hp
      have hpos : 0 < (mates os t p).length := by omega
      obtain ⟨q, hq⟩ := List.exists_mem_of_length_pos hpos
      have hq := mates_mem.mp hq
      refine ⟨(k p q, decide (p < q)), ?_, q, hq, rfl, rfl⟩
      cases decide (p < q)
      · exact List.mem_append_right _ (List.mem_map.mpr ⟨_, K.mem hq, rfl⟩)
      · exact List.mem_append_left _ (List.mem_map.mpr ⟨_, K.mem hq, rfl⟩))
    (fun p hp p' hp' b => by
      rintro ⟨q, h1, h2, h3⟩ ⟨q', h1', h2', h3'⟩
      rcases K.inj h1 h1' (h2.symm.trans h2') with ⟨e, _⟩ | ⟨e, e'⟩
      · exact e.symm
      · exfalso
        subst e; subst e'
        have hne := h1.2.2.1
        have hd := h3.symm.trans h3'
        rw [decide_eq_decide] at hd
        omega)
    (fun _ h => nomatch h) (fun _ h => nomatch h)
  simp only [List.length_append, List.length_map, List.length_nil] at this
  have := K.len
  omega

def Same (p q p' q' : Nat) : Prop := (p' = p ∧ q' = q) ∨ (p' = q ∧ q' = p)
theorem Keyed.four (K : Keyed os t k m) {p₁ q₁ p₂ q₂ p₃ q₃ p₄ q₄ : Nat} (h₁ : Odd2 os t p₁ q₁) (h₂ : Odd2 os t p₂ q₂) (h₃ : Odd2 os t p₃ q₃) (h₄ : Odd2 os t p₄ q₄)
    (n₁₂ : ¬ Same p₁ q₁ p₂ q₂) (n₁₃ : ¬ Same p₁ q₁ p₃ q₃) (n₁₄ : ¬ Same p₁ q₁ p₄ q₄) (n₂₃ : ¬ Same p₂ q₂ p₃ q₃) (n₂₄ : ¬ Same p₂ q₂ p₄ q₄) (n₃₄ : ¬ Same p₃ q₃ p₄ q₄) : False := by
  have := nodup_len (l := [k p₁ q₁, k p₂ q₂, k p₃ q₃, k p₄ q₄]) (m := m) (by
    simp only [List.nodup_cons, List.mem_cons, List.not_mem_nil, or_false, not_or, List.nodup_nil, and_true, not_false_eq_true]
    exact ⟨⟨fun e => n₁₂ (K.inj h₁ h₂ e), fun e => n₁₃ (K.inj h₁ h₃ e), fun e => n₁₄ (K.inj h₁ h₄ e)⟩, ⟨fun e => n₂₃ (K.inj h₂ h₃ e), fun e => n₂₄ (K.inj h₂ h₄ e)⟩, fun e => n₃₄ (K.inj h₃ h₄ e)⟩)
    (fun x hx => by
      simp only [List.mem_cons, List.not_mem_nil, or_false] at hx
      rcases hx with rfl | rfl | rfl | rfl
      · exact K.mem h₁
      · exact K.mem h₂
      · exact K.mem h₃
      · exact K.mem h₄)
  have := K.len
  simp only [List.length_cons, List.length_nil] at *
  omega

theorem two_of {l : List Nat} (hn : l.Nodup) {a : Nat} (ha : a ∈ l) (hl : l.length % 2 = 0) : ∃ b ∈ l, b ≠ a := by
  have h1 := List.length_erase_of_mem ha
  have h2 := List.length_pos_of_mem ha
  obtain ⟨b, hb⟩ := List.exists_mem_of_length_pos (l := l.erase a) (by omega)
  obtain ⟨h3, h4⟩ := hn.mem_erase_iff.mp hb
  exact ⟨b, h4, h3⟩

theorem nine_tri (S : Sys os t) (K : Keyed os t k m) (h : os.length = 9) {a b : Nat} (hab : Odd2 os t a b) :
    ∃ c, Odd2 os t a c ∧ Odd2 os t b c ∧ ∀ p q, Odd2 os t p q → (p = a ∨ p = b ∨ p = c) ∧ (q = a ∨ q = b ∨ q = c) := by
  have ev : ∀ {p q}, Odd2 os t p q → ∃ r, Odd2 os t p r ∧ r ≠ q := fun {p q} hpq => by
    have hpar := S.parity hpq.1
    obtain ⟨r, hr, hrq⟩ := two_of (S.nd.filter _) (mates_mem.mpr hpq) (l := mates os t p) (by omega)
    exact ⟨r, mates_mem.mp hr, hrq⟩
  obtain ⟨c, hac, hcb⟩ := ev hab
  obtain ⟨d, hcd, hda⟩ := ev (hac.symm S)
  obtain ⟨e, hbe, hea⟩ := ev (hab.symm S)
  have n1 := hab.2.2.1
  have n2 := hac.2.2.1
  have n3 := hcd.2.2.1
  have n4 := hbe.2.2.1
  have hdb : d = b := by
    by_cases c : d = b
    · exact c
    · exfalso
      refine K.four hab hac hcd hbe ?_ ?_ ?_ ?_ ?_ ?_ <;> (unfold Same; omega)
  rw [hdb] at hcd
  have hbc := hcd.symm S
  refine ⟨c, hac, hbc, fun p q hpq => ?_⟩
  have n5 := hpq.2.2.1
  by_cases e1 : (p = a ∨ p = b ∨ p = c) ∧ (q = a ∨ q = b ∨ q = c)
  · exact e1
  · exfalso
    refine K.four hab hac hbc hpq ?_ ?_ ?_ ?_ ?_ ?_ <;> (unfold Same; omega)
end Mine

-- part N3
namespace Mine
open Classical

variable {os : List Nat} {t : Nat → Nat → Nat → Prop}

/-- the figure of nine points: three ordinary pairs a b c, the lines PPP and QQQ, nine lines through a, b, c -/
structure Fig (t : Nat → Nat → Nat → Prop) (a b c p₁ p₂ p₃ q₁ q₂ q₃ : Nat) : Prop where
  pp : t p₁ p₂ p₃
  qq : t q₁ q₂ q₃
  a1 : t p₁ a q₁
  a2 : t p₂ a q₃
  a3 : t p₃ a q₂
  b1 : t p₁ b q₂
  b2 : t p₂ b q₁
  b3 : t p₃ b q₃
  c1 : t p₁ c q₃
  c2 : t p₂ c q₂
  c3 : t p₃ c q₁


theorem fig_a2 (S : Sys os t) {a b c p₁ p₂ p₃ q₁ q₂ q₃ : Nat} (nab : ∀ r, ¬ t a b r) (nac : ∀ r, ¬ t a c r) (nbc : ∀ r, ¬ t b c r)
    (hall : ∀ r ∈ os, r = a ∨ r = b ∨ r = c ∨ r = p₁ ∨ r = p₂ ∨ r = p₃ ∨ r = q₁ ∨ r = q₂ ∨ r = q₃)
    (nd : [a, b, c, p₁, q₁, q₂, q₃, p₂, p₃].Nodup)
    (pp : t p₁ p₂ p₃) (a1 : t p₁ a q₁) (b1 : t p₁ b q₂) (c1 : t p₁ c q₃) {r : Nat} (hr : t p₂ a r) : t p₂ a q₃ ∨ t p₂ a q₂ := by
  simp only [List.nodup_cons, List.mem_cons, List.not_mem_nil, or_false, not_or, List.nodup_nil, and_true, not_false_eq_true] at nd
  have U : ∀ {p q r s}, t p q r → t p q s → r = s := fun h h' => S.uq h h'
  have C1 : ∀ {p q r}, t p q r → t q p r := fun h => S.c1 h
  have C2 : ∀ {p q r}, t p q r → t p r q := fun h => S.c2 h
  have n1 := S.ne hr; have n2 := S.ne2 hr; have n3 := S.ne3 hr
  have := hall r (S.mem3 hr)
  clear hall S
  grind

theorem fig_a3 (S : Sys os t) {a b c p₁ p₂ p₃ q₁ q₂ q₃ : Nat} (nab : ∀ r, ¬ t a b r) (nac : ∀ r, ¬ t a c r) (nbc : ∀ r, ¬ t b c r)
    (hall : ∀ r ∈ os, r = a ∨ r = b ∨ r = c ∨ r = p₁ ∨ r = p₂ ∨ r = p₃ ∨ r = q₁ ∨ r = q₂ ∨ r = q₃)
    (nd : [a, b, c, p₁, q₁, q₂, q₃, p₂, p₃].Nodup)
    (pp : t p₁ p₂ p₃) (a1 : t p₁ a q₁) (b1 : t p₁ b q₂) (c1 : t p₁ c q₃) {r : Nat} (hr : t p₃ a r) : t p₃ a q₃ ∨ t p₃ a q₂ := by
  simp only [List.nodup_cons, List.mem_cons, List.not_mem_nil, or_false, not_or, List.nodup_nil, and_true, not_false_eq_true] at nd
  have U : ∀ {p q r s}, t p q r → t p q s → r = s := fun h h' => S.uq h h'
  have C1 : ∀ {p q r}, t p q r → t q p r := fun h => S.c1 h
  have C2 : ∀ {p q r}, t p q r → t p r q := fun h => S.c2 h
  have n1 := S.ne hr; have n2 := S.ne2 hr; have n3 := S.ne3 hr
  have := hall r (S.mem3 hr)
  clear hall S
  grind

theorem fig_b2 (S : Sys os t) {a b c p₁ p₂ p₃ q₁ q₂ q₃ : Nat} (nab : ∀ r, ¬ t a b r) (nac : ∀ r, ¬ t a c r) (nbc : ∀ r, ¬ t b c r)
    (hall : ∀ r ∈ os, r = a ∨ r = b ∨ r = c ∨ r = p₁ ∨ r = p₂ ∨ r = p₃ ∨ r = q₁ ∨ r = q₂ ∨ r = q₃)
    (nd : [a, b, c, p₁, q₁, q₂, q₃, p₂, p₃].Nodup)
    (pp : t p₁ p₂ p₃) (a1 : t p₁ a q₁) (b1 : t p₁ b q₂) (c1 : t p₁ c q₃) (a2 : t p₂ a q₃) (a3 : t p₃ a q₂) {r : Nat} (hr : t p₂ b r) : t p₂ b q₁ := by
  simp only [List.nodup_cons, List.mem_cons, List.not_mem_nil, or_false, not_or, List.nodup_nil, and_true, not_false_eq_true] at nd
  have U : ∀ {p q r s}, t p q r → t p q s → r = s := fun h h' => S.uq h h'
  have C1 : ∀ {p q r}, t p q r → t q p r := fun h => S.c1 h
  have C2 : ∀ {p q r}, t p q r → t p r q := fun h => S.c2 h
  have n1 := S.ne hr; have n2 := S.ne2 hr; have n3 := S.ne3 hr
  have := hall r (S.mem3 hr)
  clear hall S
  grind

theorem fig_c2 (S : Sys os t) {a b c p₁ p₂ p₃ q₁ q₂ q₃ : Nat} (nab : ∀ r, ¬ t a b r) (nac : ∀ r, ¬ t a c r) (nbc : ∀ r, ¬ t b c r)
    (hall : ∀ r ∈ os, r = a ∨ r = b ∨ r = c ∨ r = p₁ ∨ r = p₂ ∨ r = p₃ ∨ r = q₁ ∨ r = q₂ ∨ r = q₃)
    (nd : [a, b, c, p₁, q₁, q₂, q₃, p₂, p₃].Nodup)
    (pp : t p₁ p₂ p₃) (a1 : t p₁ a q₁) (b1 : t p₁ b q₂) (c1 : t p₁ c q₃) (a2 : t p₂ a q₃) (a3 : t p₃ a q₂) (b2 : t p₂ b q₁) {r : Nat} (hr : t p₂ c r) : t p₂ c q₂ := by
  simp only [List.nodup_cons, List.mem_cons, List.not_mem_nil, or_false, not_or, List.nodup_nil, and_true, not_false_eq_true] at nd
  have U : ∀ {p q r s}, t p q r → t p q s → r = s := fun h h' => S.uq h h'
  have C1 : ∀ {p q r}, t p q r → t q p r := fun h => S.c1 h
  have C2 : ∀ {p q r}, t p q r → t p r q := fun h => S.c2 h
  have n1 := S.ne hr; have n2 := S.ne2 hr; have n3 := S.ne3 hr
  have := hall r (S.mem3 hr)
  clear hall S
  grind

theorem fig_b3 (S : Sys os t) {a b c p₁ p₂ p₃ q₁ q₂ q₃ : Nat} (nab : ∀ r, ¬ t a b r) (nac : ∀ r, ¬ t a c r) (nbc : ∀ r, ¬ t b c r)
    (hall : ∀ r ∈ os, r = a ∨ r = b ∨ r = c ∨ r = p₁ ∨ r = p₂ ∨ r = p₃ ∨ r = q₁ ∨ r = q₂ ∨ r = q₃)
    (nd : [a, b, c, p₁, q₁, q₂, q₃, p₂, p₃].Nodup)
    (pp : t p₁ p₂ p₃) (a1 : t p₁ a q₁) (b1 : t p₁ b q₂) (c1 : t p₁ c q₃) (a2 : t p₂ a q₃) (a3 : t p₃ a q₂) (b2 : t p₂ b q₁) (c2 : t p₂ c q₂) {r : Nat} (hr : t p₃ b r) : t p₃ b q₃ := by
  simp only [List.nodup_cons, List.mem_cons, List.not_mem_nil, or_false, not_or, List.nodup_nil, and_true, not_false_eq_true] at nd
  have U : ∀ {p q r s}, t p q r → t p q s → r = s := fun h h' => S.uq h h'
  have C1 : ∀ {p q r}, t p q r → t q p r := fun h => S.c1 h
  have C2 : ∀ {p q r}, t p q r → t p r q := fun h => S.c2 h
  have n1 := S.ne hr; have n2 := S.ne2 hr; have n3 := S.ne3 hr
  have := hall r (S.mem3 hr)
  clear hall S
  grind

theorem fig_c3 (S : Sys os t) {a b c p₁ p₂ p₃ q₁ q₂ q₃ : Nat} (nab : ∀ r, ¬ t a b r) (nac : ∀ r, ¬ t a c r) (nbc : ∀ r, ¬ t b c r)
    (hall : ∀ r ∈ os, r = a ∨ r = b ∨ r = c ∨ r = p₁ ∨ r = p₂ ∨ r = p₃ ∨ r = q₁ ∨ r = q₂ ∨ r = q₃)
    (nd : [a, b, c, p₁, q₁, q₂, q₃, p₂, p₃].Nodup)
    (pp : t p₁ p₂ p₃) (a1 : t p₁ a q₁) (b1 : t p₁ b q₂) (c1 : t p₁ c q₃) (a2 : t p₂ a q₃) (a3 : t p₃ a q₂) (b2 : t p₂ b q₁) (c2 : t p₂ c q₂) (b3 : t p₃ b q₃) {r : Nat} (hr : t p₃ c r) : t p₃ c q₁ := by
  simp only [List.nodup_cons, List.mem_cons, List.not_mem_nil, or_false, not_or, List.nodup_nil, and_true, not_false_eq_true] at nd
  have U : ∀ {p q r s}, t p q r → t p q s → r = s := fun h h' => S.uq h h'
  have C1 : ∀ {p q r}, t p q r → t q p r := fun h => S.c1 h
  have C2 : ∀ {p q r}, t p q r → t p r q := fun h => S.c2 h
  have n1 := S.ne hr; have n2 := S.ne2 hr; have n3 := S.ne3 hr
  have := hall r (S.mem3 hr)
  clear hall S
  grind

theorem fig_qq (S : Sys os t) {a b c p₁ p₂ p₃ q₁ q₂ q₃ : Nat} (nab : ∀ r, ¬ t a b r) (nac : ∀ r, ¬ t a c r) (nbc : ∀ r, ¬ t b c r)
    (hall : ∀ r ∈ os, r = a ∨ r = b ∨ r = c ∨ r = p₁ ∨ r = p₂ ∨ r = p₃ ∨ r = q₁ ∨ r = q₂ ∨ r = q₃)
    (nd : [a, b, c, p₁, q₁, q₂, q₃, p₂, p₃].Nodup)
    (pp : t p₁ p₂ p₃) (a1 : t p₁ a q₁) (b1 : t p₁ b q₂) (c1 : t p₁ c q₃) (a2 : t p₂ a q₃) (a3 : t p₃ a q₂) (b2 : t p₂ b q₁) (c2 : t p₂ c q₂) (b3 : t p₃ b q₃) (c3 : t p₃ c q₁) {r : Nat} (hr : t q₁ q₂ r) : t q₁ q₂ q₃ := by
  simp only [List.nodup_cons, List.mem_cons, List.not_mem_nil, or_false, not_or, List.nodup_nil, and_true, not_false_eq_true] at nd
  have U : ∀ {p q r s}, t p q r → t p q s → r = s := fun h h' => S.uq h h'
  have C1 : ∀ {p q r}, t p q r → t q p r := fun h => S.c1 h
  have C2 : ∀ {p q r}, t p q r → t p r q := fun h => S.c2 h
  have n1 := S.ne hr; have n2 := S.ne2 hr; have n3 := S.ne3 hr
  have := hall r (S.mem3 hr)
  clear hall S
  grind

theorem fig_of (S : Sys os t) {a b c p₁ p₂ p₃ q₁ q₂ q₃ : Nat} (nab : ∀ r, ¬ t a b r) (nac : ∀ r, ¬ t a c r) (nbc : ∀ r, ¬ t b c r)
    (hall : ∀ r ∈ os, r = a ∨ r = b ∨ r = c ∨ r = p₁ ∨ r = p₂ ∨ r = p₃ ∨ r = q₁ ∨ r = q₂ ∨ r = q₃)
    (nd : [a, b, c, p₁, q₁, q₂, q₃, p₂, p₃].Nodup)
    (ex : ∀ {p q}, p ∈ os → q ∈ os → p ≠ q → ¬ (p = a ∨ p = b ∨ p = c) → ∃ r, t p q r)
    (pp : t p₁ p₂ p₃) (a1 : t p₁ a q₁) (b1 : t p₁ b q₂) (c1 : t p₁ c q₃) (a2 : t p₂ a q₃) (a3 : t p₃ a q₂) : Fig t a b c p₁ p₂ p₃ q₁ q₂ q₃ := by
  have nd' := nd
  simp only [List.nodup_cons, List.mem_cons, List.not_mem_nil, or_false, not_or, List.nodup_nil, and_true, not_false_eq_true] at nd'
  obtain ⟨na, nb, nc, np1, nq1, nq2, nq3, np23⟩ := nd'
  have P2 := S.mem2 pp
  have P3 := S.mem3 pp
  have B := S.mem2 b1
  have C := S.mem2 c1
  obtain ⟨r, hr⟩ := ex P2 B (fun e => nb.2.2.2.2.2.1 e.symm) (by rintro (e | e | e) <;> subst e <;> simp_all)
  have b2 := fig_b2 S nab nac nbc hall nd pp a1 b1 c1 a2 a3 hr
  obtain ⟨r, hr⟩ := ex P2 C (fun e => nc.2.2.2.2.1 e.symm) (by rintro (e | e | e) <;> subst e <;> simp_all)
  have c2 := fig_c2 S nab nac nbc hall nd pp a1 b1 c1 a2 a3 b2 hr
  obtain ⟨r, hr⟩ := ex P3 B (fun e => nb.2.2.2.2.2.2 e.symm) (by rintro (e | e | e) <;> subst e <;> simp_all)
  have b3 := fig_b3 S nab nac nbc hall nd pp a1 b1 c1 a2 a3 b2 c2 hr
  obtain ⟨r, hr⟩ := ex P3 C (fun e => nc.2.2.2.2.2 e.symm) (by rintro (e | e | e) <;> subst e <;> simp_all)
  have c3 := fig_c3 S nab nac nbc hall nd pp a1 b1 c1 a2 a3 b2 c2 b3 hr
  obtain ⟨r, hr⟩ := ex (S.mem3 a1) (S.mem3 b1) nq1.1 (by rintro (e | e | e) <;> subst e <;> simp_all)
  have qq := fig_qq S nab nac nbc hall nd pp a1 b1 c1 a2 a3 b2 c2 b3 c3 hr
  exact ⟨pp, qq, a1, a2, a3, b1, b2, b3, c1, c2, c3⟩

theorem extra {l m : List Nat} (hn : l.Nodup) (h : m.length < l.length) : ∃ a ∈ l, a ∉ m := by
  by_cases c : ∃ a, a ∈ l ∧ a ∉ m
  · exact c
  · exfalso
    have := nodup_len (l := l) (m := m) hn fun a ha => by
      by_cases e : a ∈ m
      · exact e
      · exact absurd ⟨a, ha, e⟩ c
    omega

theorem nine_fig (S : Sys os t) (h : os.length = 9) {a b c : Nat} (hab : Odd2 os t a b) (hac : Odd2 os t a c) (hbc : Odd2 os t b c)
    (ho : ∀ p q, Odd2 os t p q → (p = a ∨ p = b ∨ p = c) ∧ (q = a ∨ q = b ∨ q = c)) :
    ∃ p₁ p₂ p₃ q₁ q₂ q₃, Fig t a b c p₁ p₂ p₃ q₁ q₂ q₃ ∧ q₂ ≠ a := by
  have nab := hab.2.2.2; have nac := hac.2.2.2; have nbc := hbc.2.2.2
  have ex : ∀ {p q}, p ∈ os → q ∈ os → p ≠ q → ¬ (p = a ∨ p = b ∨ p = c) → ∃ r, t p q r := fun {p q} hp hq hne hnot => third hp hq hne fun hh => hnot (ho _ _ hh).1
  have A := hab.1; have B := hab.2.1; have C := hac.2.1
  have x1 := hab.2.2.1; have x2 := hac.2.2.1; have x3 := hbc.2.2.1
  have U : ∀ {p q r s}, t p q r → t p q s → r = s := fun h h' => S.uq h h'
  have C1 : ∀ {p q r}, t p q r → t q p r := fun h => S.c1 h
  have C2 : ∀ {p q r}, t p q r → t p r q := fun h => S.c2 h
  obtain ⟨p₁, P1, hp1⟩ := extra (l := os) (m := [a, b, c]) S.nd (by simp only [List.length_cons, List.length_nil]; omega)
  simp only [List.mem_cons, List.not_mem_nil, or_false] at hp1
  obtain ⟨q₁, a1⟩ := ex P1 A (fun e => hp1 (Or.inl e)) hp1
  obtain ⟨q₂, b1⟩ := ex P1 B (fun e => hp1 (Or.inr (Or.inl e))) hp1
  obtain ⟨q₃, c1⟩ := ex P1 C (fun e => hp1 (Or.inr (Or.inr e))) hp1
  have a1n := S.ne3 a1; have b1n := S.ne3 b1; have c1n := S.ne3 c1
  have a1m := S.ne2 a1; have b1m := S.ne2 b1; have c1m := S.ne2 c1
  have nd7 : [a, b, c, p₁, q₁, q₂, q₃].Nodup := by
    simp only [List.nodup_cons, List.mem_cons, List.not_mem_nil, or_false, not_or, List.nodup_nil, and_true, not_false_eq_true]
    clear ex hab hac hbc ho S h
    grind
  obtain ⟨p₂, P2, hp2⟩ := extra (l := os) (m := [a, b, c, p₁, q₁, q₂, q₃]) S.nd (by simp only [List.length_cons, List.length_nil]; omega)
  simp only [List.mem_cons, List.not_mem_nil, or_false, not_or] at hp2
  obtain ⟨p₃, pp⟩ := ex P1 P2 (fun e => hp2.2.2.2.1 e.symm) hp1
  have ppn := S.ne3 pp; have ppm := S.ne2 pp
  have nd : [a, b, c, p₁, q₁, q₂, q₃, p₂, p₃].Nodup := by
    simp only [List.nodup_cons, List.mem_cons, List.not_mem_nil, or_false, not_or, List.nodup_nil, and_true, not_false_eq_true] at nd7 ⊢
    clear ex hab hac hbc ho S h
    grind
  have hall : ∀ r ∈ os, r = a ∨ r = b ∨ r = c ∨ r = p₁ ∨ r = p₂ ∨ r = p₃ ∨ r = q₁ ∨ r = q₂ ∨ r = q₃ := fun r hr => by
    by_cases e : r ∈ [a, b, c, p₁, q₁, q₂, q₃, p₂, p₃]
    · simp only [List.mem_cons, List.not_mem_nil, or_false] at e
      rcases e with e | e | e | e | e | e | e | e | e <;> simp [e]
    · exfalso
      have := nodup_len (l := r :: [a, b, c, p₁, q₁, q₂, q₃, p₂, p₃]) (m := os) (List.nodup_cons.mpr ⟨e, nd⟩) fun x hx => by
        simp only [List.mem_cons, List.not_mem_nil, or_false] at hx
        rcases hx with rfl | rfl | rfl | rfl | rfl | rfl | rfl | rfl | rfl | rfl
        · exact hr
        · exact A
        · exact B
        · exact C
        · exact P1
        · exact S.mem3 a1
        · exact S.mem3 b1
        · exact S.mem3 c1
        · exact P2
        · exact S.mem3 pp
      simp only [List.length_cons, List.length_nil] at this
      omega
  have nd' := nd
  simp only [List.nodup_cons, List.mem_cons, List.not_mem_nil, or_false, not_or, List.nodup_nil, and_true, not_false_eq_true] at nd'
  obtain ⟨na, nb, nc, np1, nq1, nq2, nq3, np23⟩ := nd'
  have P3 := S.mem3 pp
  obtain ⟨r, hr⟩ := ex P2 A (fun e => na.2.2.2.2.2.2.1 e.symm) (by rintro (e | e | e) <;> subst e <;> simp_all)
  have h2 := fig_a2 S nab nac nbc hall nd pp a1 b1 c1 hr
  obtain ⟨r', hr'⟩ := ex P3 A (fun e => na.2.2.2.2.2.2.2 e.symm) (by rintro (e | e | e) <;> subst e <;> simp_all)
  have h3 := fig_a3 S nab nac nbc hall nd pp a1 b1 c1 hr'
  have hne : q₂ ≠ a := fun e => na.2.2.2.2.1 e.symm
  rcases h2 with h2 | h2
  · have h3 : t p₃ a q₂ := by
      rcases h3 with h3 | h3
      · exact absurd (S.uq (S.c2 (S.c1 h2)) (S.c2 (S.c1 h3))) np23
      · exact h3
    exact ⟨p₁, p₂, p₃, q₁, q₂, q₃, fig_of S nab nac nbc hall nd ex pp a1 b1 c1 h2 h3, hne⟩
  · have h3 : t p₃ a q₃ := by
      rcases h3 with h3 | h3
      · exact h3
      · exact absurd (S.uq (S.c2 (S.c1 h2)) (S.c2 (S.c1 h3))) np23
    refine ⟨p₁, p₃, p₂, q₁, q₂, q₃, fig_of S nab nac nbc (fun r hr => ?_) ?_ ex (S.c2 pp) a1 b1 c1 h3 h2, hne⟩
    · have := hall r hr
      rcases this with e | e | e | e | e | e | e | e | e <;> simp [e]
    · have e : [a, b, c, p₁, q₁, q₂, q₃, p₂, p₃].Perm [a, b, c, p₁, q₁, q₂, q₃, p₃, p₂] := List.Perm.append_left [a, b, c, p₁, q₁, q₂, q₃] (List.Perm.swap ..)
      exact e.nodup_iff.mp nd
end Mine

-- part N4
namespace Mine

theorem sq_nonneg' (a : Int) : 0 ≤ a * a := by
  rcases Int.le_total 0 a with h | h
  · exact Int.mul_nonneg h h
  · exact Int.mul_nonneg_of_nonpos_of_nonpos h h
theorem sq_zero {a : Int} (h : a * a = 0) : a = 0 := by
  rcases Int.mul_eq_zero.mp h with h | h <;> exact h
theorem eis {u v : Int} (h : u * u + u * v + v * v = 0) : u = 0 ∧ v = 0 := by
  have h1 := sq_nonneg' (2 * u + v)
  have h2 := sq_nonneg' v
  have e : (2 * u + v) * (2 * u + v) + 3 * (v * v) = 0 := by grind
  have h3 : v * v = 0 := by omega
  have hv := sq_zero h3
  subst hv
  simp at h
  exact ⟨sq_zero h, rfl⟩

theorem cancel {a b : Int} (ha : a ≠ 0) (h : a * b = 0) : b = 0 := (Int.mul_eq_zero.mp h).resolve_left ha

/-- a point with three lines through it -/
theorem pencil {p₁ p₂ p₃ x y z hx hy hz a ha : Int} (h0 : ha ≠ 0) (e1 : (x - p₁) * ha = (a - p₁) * hx) (e2 : (y - p₂) * ha = (a - p₂) * hy) (e3 : (z - p₃) * ha = (a - p₃) * hz) :
    (p₂ - p₃) * (x - p₁) * (hy * hz) + (p₃ - p₁) * (y - p₂) * (hx * hz) + (p₁ - p₂) * (z - p₃) * (hx * hy) = 0 := by
  refine cancel h0 ?_
  have f1 : ha * ((p₂ - p₃) * (x - p₁) * (hy * hz)) = (p₂ - p₃) * (a - p₁) * (hx * hy * hz) := by
    have : ha * ((p₂ - p₃) * (x - p₁) * (hy * hz)) = (p₂ - p₃) * (hy * hz) * ((x - p₁) * ha) := by grind
    rw [this, e1]; grind
  have f2 : ha * ((p₃ - p₁) * (y - p₂) * (hx * hz)) = (p₃ - p₁) * (a - p₂) * (hx * hy * hz) := by
    have : ha * ((p₃ - p₁) * (y - p₂) * (hx * hz)) = (p₃ - p₁) * (hx * hz) * ((y - p₂) * ha) := by grind
    rw [this, e2]; grind
  have f3 : ha * ((p₁ - p₂) * (z - p₃) * (hx * hy)) = (p₁ - p₂) * (a - p₃) * (hx * hy * hz) := by
    have : ha * ((p₁ - p₂) * (z - p₃) * (hx * hy)) = (p₁ - p₂) * (hx * hy) * ((z - p₃) * ha) := by grind
    rw [this, e3]; grind
  rw [Int.mul_add, Int.mul_add, f1, f2, f3]
  grind

theorem no_fig {p₁ p₂ p₃ a b c q₁ q₂ q₃ ha hb hc h₁ h₂ h₃ : Int} (n1 : p₂ - p₃ ≠ 0) (na : ha ≠ 0) (nb : hb ≠ 0) (nc : hc ≠ 0) (m3 : h₃ ≠ 0)
    (a1 : (q₁ - p₁) * ha = (a - p₁) * h₁) (a2 : (q₃ - p₂) * ha = (a - p₂) * h₃) (a3 : (q₂ - p₃) * ha = (a - p₃) * h₂)
    (b1 : (q₂ - p₁) * hb = (b - p₁) * h₂) (b2 : (q₁ - p₂) * hb = (b - p₂) * h₁) (b3 : (q₃ - p₃) * hb = (b - p₃) * h₃)
    (c1 : (q₃ - p₁) * hc = (c - p₁) * h₃) (c2 : (q₂ - p₂) * hc = (c - p₂) * h₂) (c3 : (q₁ - p₃) * hc = (c - p₃) * h₁)
    (cq : (q₂ - q₁) * (h₃ - h₁) = (q₃ - q₁) * (h₂ - h₁)) : (q₂ - p₁) * h₁ = (q₁ - p₁) * h₂ := by
  have SA := pencil na a1 a2 a3
  have SB := pencil nb b1 b2 b3
  have SC := pencil nc c1 c2 c3
  clear a1 a2 a3 b1 b2 b3 c1 c2 c3 na nb nc
  have hw : ∃ w₁ w₂ : Int, w₁ = (p₂ - p₃) * ((q₂ - p₁) * h₁ - (q₁ - p₁) * h₂) * h₃ ∧ w₂ = (p₃ - p₁) * ((q₂ - p₂) * h₁ - (q₁ - p₂) * h₂) * h₃ := ⟨_, _, rfl, rfl⟩
  obtain ⟨w₁, w₂, hw1, hw2⟩ := hw
  have hv : ∃ v₁ v₂ : Int, v₁ = (p₂ - p₃) * ((q₃ - p₁) * h₁ - (q₁ - p₁) * h₃) * h₂ ∧ v₂ = (p₃ - p₁) * ((q₃ - p₂) * h₁ - (q₁ - p₂) * h₃) * h₂ := ⟨_, _, rfl, rfl⟩
  obtain ⟨v₁, v₂, hv1, hv2⟩ := hv
  have e2 : v₂ = w₁ + w₂ := by grind
  have e1 : v₁ = - w₂ := by grind
  have ecq : (q₂ - q₁) * (h₃ - h₁) - (q₃ - q₁) * (h₂ - h₁) = 0 := by omega
  have par : w₁ * v₂ - w₂ * v₁ = 0 := by
    have : w₁ * v₂ - w₂ * v₁ = - ((p₂ - p₃) * (p₃ - p₁) * (p₁ - p₂) * h₁ * h₂ * h₃) * ((q₂ - q₁) * (h₃ - h₁) - (q₃ - q₁) * (h₂ - h₁)) := by
      rw [hw1, hw2, hv1, hv2]; clear ecq e1 e2 SA SB SC cq hw1 hw2 hv1 hv2; grind
    rw [this, ecq]; simp
  have hz := eis (u := w₁) (v := w₂) (by rw [e1, e2] at par; clear hw1 hw2 hv1 hv2 SA SB SC cq ecq; grind)
  rw [hz.1] at hw1
  have h1 := cancel m3 (b := (p₂ - p₃) * ((q₂ - p₁) * h₁ - (q₁ - p₁) * h₂)) (by rw [Int.mul_comm]; exact hw1.symm)
  have h2 := cancel n1 h1
  omega
end Mine

open PySem PySem.W PyProof.Rows

-- the head, part G1
namespace Mine

/-- the parts of the program's defs, by their place in the text -/
def defParts (k : Nat) : Arguments × List Stmt × Scope := match PySem.Challenge.pw_rs0042_01.main.body[k]? with
  | some (.FunctionDef _ a b _ _ _ sc _ _ _) => (a, b, sc)
  | _ => (default, [], default)
def fPar (k : Nat) : Arguments := (defParts k).1
def fBody (k : Nat) : List Stmt := (defParts k).2.1
def fScope (k : Nat) : Scope := (defParts k).2.2
def life0 : Life := {}
def drawn0 : Drawn := {}

noncomputable def topO11I (P : Params) : Obj :=
  { cls := Value.type "tuple", data := Data.seq #[] }
noncomputable def topO12I (P : Params) : Obj :=
  { cls := Value.none, data := Data.fields #[] }
noncomputable def topO13I (P : Params) : Obj :=
  { cls := Value.type "code",
    data :=
      Data.fields
        #[Value.str (Str.ofString "<module>") 182, Value.str (Str.ofString "<module>") 183, Value.str (Str.ofString "/claim/cut.py") 184, Value.int 1 0,
          Value.int 0 0, Value.int 0 0, Value.int 0 0, Value.int 0 0, Value.ref 11, Value.bool false, Value.int 181 0, Value.ref 12, Value.none, Value.none,
          Value.none, Value.none, Value.int 185 0, Value.int 1 0, Value.str (Str.ofString "/claim/cut.py") 186] }
noncomputable def topO14I (P : Params) : Obj :=
  { cls := Value.type "frame",
    slots := #[some (Value.ref 13), some (Value.ref 3), some (Value.ref 3), none, some (Value.str (Str.ofString "__main__") 164), none, some (Value.ref 0)] }
noncomputable def topTreeI (P : Params) : BT :=
  (.node (boot_o_0 P) (.node (boot_o_1 P) (.node (boot_o_3 P) (.node (boot_o_7 P) .nil .nil) (.node (topO11I P) .nil .nil)) (.node (boot_o_5 P) (.node (boot_o_9 P) .nil .nil) (.node (topO13I P) .nil .nil))) (.node (boot_o_2 P) (.node (boot_o_4 P) (.node (boot_o_8 P) .nil .nil) (.node (topO12I P) .nil .nil)) (.node (boot_o_6 P) (.node (boot_o_10 P) .nil .nil) (.node (topO14I P) .nil .nil))))
noncomputable def topStI (w : World) (os : OsState) : SharedT := ⟨topTreeI w.params, 15, life0, #[], drawn0, 187, os⟩
noncomputable def topO3A (P : Params) : Obj :=
  { cls := Value.type "dict",
    data :=
      Data.dict
        #[{ hash := PyData.keyHash P (Str.ofString "__name__"), key := Value.str (Str.ofString "__name__") 165,
            val := Value.str (Str.ofString "cpy313.pstats") 187 },
          { hash := PyData.keyHash P (Str.ofString "__doc__"), key := Value.str (Str.ofString "__doc__") 166, val := Value.none },
          { hash := PyData.keyHash P (Str.ofString "__package__"), key := Value.str (Str.ofString "__package__") 167, val := Value.none },
          { hash := PyData.keyHash P (Str.ofString "__loader__"), key := Value.str (Str.ofString "__loader__") 168,
            val := Value.builtin "__main__.__loader__#opaque" },
          { hash := PyData.keyHash P (Str.ofString "__spec__"), key := Value.str (Str.ofString "__spec__") 169, val := Value.none },
          { hash := PyData.keyHash P (Str.ofString "__annotations__"), key := Value.str (Str.ofString "__annotations__") 170, val := Value.ref 6 },
          { hash := PyData.keyHash P (Str.ofString "__builtins__"), key := Value.str (Str.ofString "__builtins__") 171, val := Value.ref 4 },
          { hash := PyData.keyHash P (Str.ofString "__file__"), key := Value.str (Str.ofString "__file__") 173,
            val := Value.str (Str.ofString "/claim/cut.py") 172 },
          { hash := PyData.keyHash P (Str.ofString "__cached__"), key := Value.str (Str.ofString "__cached__") 174, val := Value.none },
          { hash := PyData.keyHash P (Str.ofString "add_callers"), key := Value.str (Str.ofString "add_callers") 199, val := Value.ref 21 },
          { hash := PyData.keyHash P (Str.ofString "count_calls"), key := Value.str (Str.ofString "count_calls") 208, val := Value.ref 28 },
          { hash := PyData.keyHash P (Str.ofString "NL"), key := Value.str (Str.ofString "NL") 210, val := Value.str (Str.ofString "\n") 209 }]
        12 }
noncomputable def topO12A (P : Params) : Obj :=
  { cls := Value.none, data := Data.fields #[Value.int 2 0, Value.int 0 0, Value.ref 20, Value.int 15 0, Value.int 0 0, Value.ref 27] }
noncomputable def topO15A (P : Params) : Obj :=
  { cls := Value.type "tuple", data := Data.seq #[] }
noncomputable def topO16A (P : Params) : Obj :=
  { cls := Value.none, data := Data.fields #[] }
noncomputable def topO17A (P : Params) : Obj :=
  { cls := Value.type "tuple",
    data :=
      Data.seq
        #[Value.str (Str.ofString "target") 192, Value.str (Str.ofString "source") 193, Value.str (Str.ofString "new_callers") 194,
          Value.str (Str.ofString "func") 195, Value.str (Str.ofString "caller") 196] }
noncomputable def topO18A (P : Params) : Obj :=
  { cls := Value.type "tuple", data := Data.seq #[] }
noncomputable def topO19A (P : Params) : Obj :=
  { cls := Value.none, data := Data.func { name := Str.ofString "add_callers", qualname := Str.ofString "add_callers", params := fPar 1, body := FuncBody.stmts (fBody 1), scope := fScope 1, globals := 0, closure := [], defaults := Value.none, kwdefaults := Value.none } }
noncomputable def topO20A (P : Params) : Obj :=
  { cls := Value.type "code",
    data :=
      Data.fields
        #[Value.str (Str.ofString "add_callers") 189, Value.str (Str.ofString "add_callers") 190, Value.str (Str.ofString "/claim/cut.py") 191, Value.int 2 0,
          Value.int 2 0, Value.int 0 0, Value.int 0 0, Value.int 3 0, Value.ref 15, Value.bool true, Value.int 181 0, Value.ref 16, Value.none, Value.ref 17,
          Value.ref 18, Value.ref 19, Value.int 197 0, Value.int 2 0, Value.str (Str.ofString "/claim/cut.py") 198] }
noncomputable def topO21A (P : Params) : Obj :=
  { cls := Value.type "function", data := Data.func { name := Str.ofString "add_callers", qualname := Str.ofString "add_callers", params := fPar 1, body := FuncBody.stmts (fBody 1), scope := fScope 1, globals := 3, closure := [], defaults := Value.none, kwdefaults := Value.none, pyModule := Value.str (Str.ofString "cpy313.pstats") 187, code := Value.ref 20 } }
noncomputable def topO22A (P : Params) : Obj :=
  { cls := Value.type "tuple", data := Data.seq #[] }
noncomputable def topO23A (P : Params) : Obj :=
  { cls := Value.none, data := Data.fields #[] }
noncomputable def topO24A (P : Params) : Obj :=
  { cls := Value.type "tuple",
    data := Data.seq #[Value.str (Str.ofString "callers") 203, Value.str (Str.ofString "nc") 204, Value.str (Str.ofString "calls") 205] }
noncomputable def topO25A (P : Params) : Obj :=
  { cls := Value.type "tuple", data := Data.seq #[] }
noncomputable def topO26A (P : Params) : Obj :=
  { cls := Value.none, data := Data.func { name := Str.ofString "count_calls", qualname := Str.ofString "count_calls", params := fPar 2, body := FuncBody.stmts (fBody 2), scope := fScope 2, globals := 0, closure := [], defaults := Value.none, kwdefaults := Value.none } }
noncomputable def topO27A (P : Params) : Obj :=
  { cls := Value.type "code",
    data :=
      Data.fields
        #[Value.str (Str.ofString "count_calls") 200, Value.str (Str.ofString "count_calls") 201, Value.str (Str.ofString "/claim/cut.py") 202, Value.int 15 0,
          Value.int 1 0, Value.int 0 0, Value.int 0 0, Value.int 3 0, Value.ref 22, Value.bool true, Value.int 181 0, Value.ref 23, Value.none, Value.ref 24,
          Value.ref 25, Value.ref 26, Value.int 206 0, Value.int 15 0, Value.str (Str.ofString "/claim/cut.py") 207] }
noncomputable def topO28A (P : Params) : Obj :=
  { cls := Value.type "function", data := Data.func { name := Str.ofString "count_calls", qualname := Str.ofString "count_calls", params := fPar 2, body := FuncBody.stmts (fBody 2), scope := fScope 2, globals := 3, closure := [], defaults := Value.none, kwdefaults := Value.none, pyModule := Value.str (Str.ofString "cpy313.pstats") 187, code := Value.ref 27 } }
noncomputable def topTreeA (P : Params) : BT :=
  (.node (boot_o_0 P) (.node (boot_o_1 P) (.node (topO3A P) (.node (boot_o_7 P) (.node (topO15A P) .nil .nil) (.node (topO23A P) .nil .nil)) (.node (topO11I P) (.node (topO19A P) .nil .nil) (.node (topO27A P) .nil .nil))) (.node (boot_o_5 P) (.node (boot_o_9 P) (.node (topO17A P) .nil .nil) (.node (topO25A P) .nil .nil)) (.node (topO13I P) (.node (topO21A P) .nil .nil) .nil))) (.node (boot_o_2 P) (.node (boot_o_4 P) (.node (boot_o_8 P) (.node (topO16A P) .nil .nil) (.node (topO24A P) .nil .nil)) (.node (topO12A P) (.node (topO20A P) .nil .nil) (.node (topO28A P) .nil .nil))) (.node (boot_o_6 P) (.node (boot_o_10 P) (.node (topO18A P) .nil .nil) (.node (topO26A P) .nil .nil)) (.node (topO14I P) (.node (topO22A P) .nil .nil) .nil))))
noncomputable def topStA (w : World) (os : OsState) : SharedT := ⟨topTreeA w.params, 29, life0, #[], drawn0, 211, os⟩
noncomputable def topO3B (P : Params) : Obj :=
  { cls := Value.type "dict",
    data :=
      Data.dict
        #[{ hash := PyData.keyHash P (Str.ofString "__name__"), key := Value.str (Str.ofString "__name__") 165,
            val := Value.str (Str.ofString "cpy313.pstats") 187 },
          { hash := PyData.keyHash P (Str.ofString "__doc__"), key := Value.str (Str.ofString "__doc__") 166, val := Value.none },
          { hash := PyData.keyHash P (Str.ofString "__package__"), key := Value.str (Str.ofString "__package__") 167, val := Value.none },
          { hash := PyData.keyHash P (Str.ofString "__loader__"), key := Value.str (Str.ofString "__loader__") 168,
            val := Value.builtin "__main__.__loader__#opaque" },
          { hash := PyData.keyHash P (Str.ofString "__spec__"), key := Value.str (Str.ofString "__spec__") 169, val := Value.none },
          { hash := PyData.keyHash P (Str.ofString "__annotations__"), key := Value.str (Str.ofString "__annotations__") 170, val := Value.ref 6 },
          { hash := PyData.keyHash P (Str.ofString "__builtins__"), key := Value.str (Str.ofString "__builtins__") 171, val := Value.ref 4 },
          { hash := PyData.keyHash P (Str.ofString "__file__"), key := Value.str (Str.ofString "__file__") 173,
            val := Value.str (Str.ofString "/claim/cut.py") 172 },
          { hash := PyData.keyHash P (Str.ofString "__cached__"), key := Value.str (Str.ofString "__cached__") 174, val := Value.none },
          { hash := PyData.keyHash P (Str.ofString "add_callers"), key := Value.str (Str.ofString "add_callers") 199, val := Value.ref 21 },
          { hash := PyData.keyHash P (Str.ofString "count_calls"), key := Value.str (Str.ofString "count_calls") 208, val := Value.ref 28 },
          { hash := PyData.keyHash P (Str.ofString "NL"), key := Value.str (Str.ofString "NL") 210, val := Value.str (Str.ofString "\n") 209 },
          { hash := PyData.keyHash P (Str.ofString "_QUOPRI_MAP"), key := Value.str (Str.ofString "_QUOPRI_MAP") 1238, val := Value.ref 31 }]
        13 }
noncomputable def topO29B (P : Params) : Obj :=
  { cls := Value.type "range", data := Data.fields #[Value.int 0 212, Value.int 256 211, Value.int 1 213] }
noncomputable def topO30B (P : Params) : Obj :=
  { cls := Value.type "range_iterator", data := Data.fields #[Value.int 256 0, Value.int 0 0, Value.int 1 0] }
noncomputable def topO31B (P : Params) : Obj :=
  { cls := Value.type "list",
    data :=
      Data.seq
        #[Value.str (Str.ofString "=00") 217, Value.str (Str.ofString "=01") 221, Value.str (Str.ofString "=02") 225, Value.str (Str.ofString "=03") 229,
          Value.str (Str.ofString "=04") 233, Value.str (Str.ofString "=05") 237, Value.str (Str.ofString "=06") 241, Value.str (Str.ofString "=07") 245,
          Value.str (Str.ofString "=08") 249, Value.str (Str.ofString "=09") 253, Value.str (Str.ofString "=0A") 257, Value.str (Str.ofString "=0B") 261,
          Value.str (Str.ofString "=0C") 265, Value.str (Str.ofString "=0D") 269, Value.str (Str.ofString "=0E") 273, Value.str (Str.ofString "=0F") 277,
          Value.str (Str.ofString "=10") 281, Value.str (Str.ofString "=11") 285, Value.str (Str.ofString "=12") 289, Value.str (Str.ofString "=13") 293,
          Value.str (Str.ofString "=14") 297, Value.str (Str.ofString "=15") 301, Value.str (Str.ofString "=16") 305, Value.str (Str.ofString "=17") 309,
          Value.str (Str.ofString "=18") 313, Value.str (Str.ofString "=19") 317, Value.str (Str.ofString "=1A") 321, Value.str (Str.ofString "=1B") 325,
          Value.str (Str.ofString "=1C") 329, Value.str (Str.ofString "=1D") 333, Value.str (Str.ofString "=1E") 337, Value.str (Str.ofString "=1F") 341,
          Value.str (Str.ofString "=20") 345, Value.str (Str.ofString "=21") 349, Value.str (Str.ofString "=22") 353, Value.str (Str.ofString "=23") 357,
          Value.str (Str.ofString "=24") 361, Value.str (Str.ofString "=25") 365, Value.str (Str.ofString "=26") 369, Value.str (Str.ofString "=27") 373,
          Value.str (Str.ofString "=28") 377, Value.str (Str.ofString "=29") 381, Value.str (Str.ofString "=2A") 385, Value.str (Str.ofString "=2B") 389,
          Value.str (Str.ofString "=2C") 393, Value.str (Str.ofString "=2D") 397, Value.str (Str.ofString "=2E") 401, Value.str (Str.ofString "=2F") 405,
          Value.str (Str.ofString "=30") 409, Value.str (Str.ofString "=31") 413, Value.str (Str.ofString "=32") 417, Value.str (Str.ofString "=33") 421,
          Value.str (Str.ofString "=34") 425, Value.str (Str.ofString "=35") 429, Value.str (Str.ofString "=36") 433, Value.str (Str.ofString "=37") 437,
          Value.str (Str.ofString "=38") 441, Value.str (Str.ofString "=39") 445, Value.str (Str.ofString "=3A") 449, Value.str (Str.ofString "=3B") 453,
          Value.str (Str.ofString "=3C") 457, Value.str (Str.ofString "=3D") 461, Value.str (Str.ofString "=3E") 465, Value.str (Str.ofString "=3F") 469,
          Value.str (Str.ofString "=40") 473, Value.str (Str.ofString "=41") 477, Value.str (Str.ofString "=42") 481, Value.str (Str.ofString "=43") 485,
          Value.str (Str.ofString "=44") 489, Value.str (Str.ofString "=45") 493, Value.str (Str.ofString "=46") 497, Value.str (Str.ofString "=47") 501,
          Value.str (Str.ofString "=48") 505, Value.str (Str.ofString "=49") 509, Value.str (Str.ofString "=4A") 513, Value.str (Str.ofString "=4B") 517,
          Value.str (Str.ofString "=4C") 521, Value.str (Str.ofString "=4D") 525, Value.str (Str.ofString "=4E") 529, Value.str (Str.ofString "=4F") 533,
          Value.str (Str.ofString "=50") 537, Value.str (Str.ofString "=51") 541, Value.str (Str.ofString "=52") 545, Value.str (Str.ofString "=53") 549,
          Value.str (Str.ofString "=54") 553, Value.str (Str.ofString "=55") 557, Value.str (Str.ofString "=56") 561, Value.str (Str.ofString "=57") 565,
          Value.str (Str.ofString "=58") 569, Value.str (Str.ofString "=59") 573, Value.str (Str.ofString "=5A") 577, Value.str (Str.ofString "=5B") 581,
          Value.str (Str.ofString "=5C") 585, Value.str (Str.ofString "=5D") 589, Value.str (Str.ofString "=5E") 593, Value.str (Str.ofString "=5F") 597,
          Value.str (Str.ofString "=60") 601, Value.str (Str.ofString "=61") 605, Value.str (Str.ofString "=62") 609, Value.str (Str.ofString "=63") 613,
          Value.str (Str.ofString "=64") 617, Value.str (Str.ofString "=65") 621, Value.str (Str.ofString "=66") 625, Value.str (Str.ofString "=67") 629,
          Value.str (Str.ofString "=68") 633, Value.str (Str.ofString "=69") 637, Value.str (Str.ofString "=6A") 641, Value.str (Str.ofString "=6B") 645,
          Value.str (Str.ofString "=6C") 649, Value.str (Str.ofString "=6D") 653, Value.str (Str.ofString "=6E") 657, Value.str (Str.ofString "=6F") 661,
          Value.str (Str.ofString "=70") 665, Value.str (Str.ofString "=71") 669, Value.str (Str.ofString "=72") 673, Value.str (Str.ofString "=73") 677,
          Value.str (Str.ofString "=74") 681, Value.str (Str.ofString "=75") 685, Value.str (Str.ofString "=76") 689, Value.str (Str.ofString "=77") 693,
          Value.str (Str.ofString "=78") 697, Value.str (Str.ofString "=79") 701, Value.str (Str.ofString "=7A") 705, Value.str (Str.ofString "=7B") 709,
          Value.str (Str.ofString "=7C") 713, Value.str (Str.ofString "=7D") 717, Value.str (Str.ofString "=7E") 721, Value.str (Str.ofString "=7F") 725,
          Value.str (Str.ofString "=80") 729, Value.str (Str.ofString "=81") 733, Value.str (Str.ofString "=82") 737, Value.str (Str.ofString "=83") 741,
          Value.str (Str.ofString "=84") 745, Value.str (Str.ofString "=85") 749, Value.str (Str.ofString "=86") 753, Value.str (Str.ofString "=87") 757,
          Value.str (Str.ofString "=88") 761, Value.str (Str.ofString "=89") 765, Value.str (Str.ofString "=8A") 769, Value.str (Str.ofString "=8B") 773,
          Value.str (Str.ofString "=8C") 777, Value.str (Str.ofString "=8D") 781, Value.str (Str.ofString "=8E") 785, Value.str (Str.ofString "=8F") 789,
          Value.str (Str.ofString "=90") 793, Value.str (Str.ofString "=91") 797, Value.str (Str.ofString "=92") 801, Value.str (Str.ofString "=93") 805,
          Value.str (Str.ofString "=94") 809, Value.str (Str.ofString "=95") 813, Value.str (Str.ofString "=96") 817, Value.str (Str.ofString "=97") 821,
          Value.str (Str.ofString "=98") 825, Value.str (Str.ofString "=99") 829, Value.str (Str.ofString "=9A") 833, Value.str (Str.ofString "=9B") 837,
          Value.str (Str.ofString "=9C") 841, Value.str (Str.ofString "=9D") 845, Value.str (Str.ofString "=9E") 849, Value.str (Str.ofString "=9F") 853,
          Value.str (Str.ofString "=A0") 857, Value.str (Str.ofString "=A1") 861, Value.str (Str.ofString "=A2") 865, Value.str (Str.ofString "=A3") 869,
          Value.str (Str.ofString "=A4") 873, Value.str (Str.ofString "=A5") 877, Value.str (Str.ofString "=A6") 881, Value.str (Str.ofString "=A7") 885,
          Value.str (Str.ofString "=A8") 889, Value.str (Str.ofString "=A9") 893, Value.str (Str.ofString "=AA") 897, Value.str (Str.ofString "=AB") 901,
          Value.str (Str.ofString "=AC") 905, Value.str (Str.ofString "=AD") 909, Value.str (Str.ofString "=AE") 913, Value.str (Str.ofString "=AF") 917,
          Value.str (Str.ofString "=B0") 921, Value.str (Str.ofString "=B1") 925, Value.str (Str.ofString "=B2") 929, Value.str (Str.ofString "=B3") 933,
          Value.str (Str.ofString "=B4") 937, Value.str (Str.ofString "=B5") 941, Value.str (Str.ofString "=B6") 945, Value.str (Str.ofString "=B7") 949,
          Value.str (Str.ofString "=B8") 953, Value.str (Str.ofString "=B9") 957, Value.str (Str.ofString "=BA") 961, Value.str (Str.ofString "=BB") 965,
          Value.str (Str.ofString "=BC") 969, Value.str (Str.ofString "=BD") 973, Value.str (Str.ofString "=BE") 977, Value.str (Str.ofString "=BF") 981,
          Value.str (Str.ofString "=C0") 985, Value.str (Str.ofString "=C1") 989, Value.str (Str.ofString "=C2") 993, Value.str (Str.ofString "=C3") 997,
          Value.str (Str.ofString "=C4") 1001, Value.str (Str.ofString "=C5") 1005, Value.str (Str.ofString "=C6") 1009, Value.str (Str.ofString "=C7") 1013,
          Value.str (Str.ofString "=C8") 1017, Value.str (Str.ofString "=C9") 1021, Value.str (Str.ofString "=CA") 1025, Value.str (Str.ofString "=CB") 1029,
          Value.str (Str.ofString "=CC") 1033, Value.str (Str.ofString "=CD") 1037, Value.str (Str.ofString "=CE") 1041, Value.str (Str.ofString "=CF") 1045,
          Value.str (Str.ofString "=D0") 1049, Value.str (Str.ofString "=D1") 1053, Value.str (Str.ofString "=D2") 1057, Value.str (Str.ofString "=D3") 1061,
          Value.str (Str.ofString "=D4") 1065, Value.str (Str.ofString "=D5") 1069, Value.str (Str.ofString "=D6") 1073, Value.str (Str.ofString "=D7") 1077,
          Value.str (Str.ofString "=D8") 1081, Value.str (Str.ofString "=D9") 1085, Value.str (Str.ofString "=DA") 1089, Value.str (Str.ofString "=DB") 1093,
          Value.str (Str.ofString "=DC") 1097, Value.str (Str.ofString "=DD") 1101, Value.str (Str.ofString "=DE") 1105, Value.str (Str.ofString "=DF") 1109,
          Value.str (Str.ofString "=E0") 1113, Value.str (Str.ofString "=E1") 1117, Value.str (Str.ofString "=E2") 1121, Value.str (Str.ofString "=E3") 1125,
          Value.str (Str.ofString "=E4") 1129, Value.str (Str.ofString "=E5") 1133, Value.str (Str.ofString "=E6") 1137, Value.str (Str.ofString "=E7") 1141,
          Value.str (Str.ofString "=E8") 1145, Value.str (Str.ofString "=E9") 1149, Value.str (Str.ofString "=EA") 1153, Value.str (Str.ofString "=EB") 1157,
          Value.str (Str.ofString "=EC") 1161, Value.str (Str.ofString "=ED") 1165, Value.str (Str.ofString "=EE") 1169, Value.str (Str.ofString "=EF") 1173,
          Value.str (Str.ofString "=F0") 1177, Value.str (Str.ofString "=F1") 1181, Value.str (Str.ofString "=F2") 1185, Value.str (Str.ofString "=F3") 1189,
          Value.str (Str.ofString "=F4") 1193, Value.str (Str.ofString "=F5") 1197, Value.str (Str.ofString "=F6") 1201, Value.str (Str.ofString "=F7") 1205,
          Value.str (Str.ofString "=F8") 1209, Value.str (Str.ofString "=F9") 1213, Value.str (Str.ofString "=FA") 1217, Value.str (Str.ofString "=FB") 1221,
          Value.str (Str.ofString "=FC") 1225, Value.str (Str.ofString "=FD") 1229, Value.str (Str.ofString "=FE") 1233, Value.str (Str.ofString "=FF") 1237]
        256 }
noncomputable def topO32B (P : Params) : Obj :=
  { cls := Value.type "dict", data := Data.dict #[] 2 }
noncomputable def topO33B (P : Params) : Obj :=
  { cls := Value.type "tuple", data := Data.seq #[] }
noncomputable def topO34B (P : Params) : Obj :=
  { cls := Value.type "StopIteration", data := Data.fields #[Value.ref 33, Value.none, Value.none, Value.none, Value.bool false, Value.none] }
noncomputable def topTreeB (P : Params) : BT :=
  (.node (boot_o_0 P) (.node (boot_o_1 P) (.node (topO3B P) (.node (boot_o_7 P) (.node (topO15A P) (.node (topO31B P) .nil .nil) .nil) (.node (topO23A P) .nil .nil)) (.node (topO11I P) (.node (topO19A P) .nil .nil) (.node (topO27A P) .nil .nil))) (.node (boot_o_5 P) (.node (boot_o_9 P) (.node (topO17A P) (.node (topO33B P) .nil .nil) .nil) (.node (topO25A P) .nil .nil)) (.node (topO13I P) (.node (topO21A P) .nil .nil) (.node (topO29B P) .nil .nil)))) (.node (boot_o_2 P) (.node (boot_o_4 P) (.node (boot_o_8 P) (.node (topO16A P) (.node (topO32B P) .nil .nil) .nil) (.node (topO24A P) .nil .nil)) (.node (topO12A P) (.node (topO20A P) .nil .nil) (.node (topO28A P) .nil .nil))) (.node (boot_o_6 P) (.node (boot_o_10 P) (.node (topO18A P) (.node (topO34B P) .nil .nil) .nil) (.node (topO26A P) .nil .nil)) (.node (topO14I P) (.node (topO22A P) .nil .nil) (.node (topO30B P) .nil .nil)))))
noncomputable def topStB (w : World) (os : OsState) : SharedT := ⟨topTreeB w.params, 35, life0, #[], drawn0, 1239, os⟩
noncomputable def topO3C (P : Params) : Obj :=
  { cls := Value.type "dict",
    data :=
      Data.dict
        #[{ hash := PyData.keyHash P (Str.ofString "__name__"), key := Value.str (Str.ofString "__name__") 165,
            val := Value.str (Str.ofString "cpy313.email.quoprimime") 1254 },
          { hash := PyData.keyHash P (Str.ofString "__doc__"), key := Value.str (Str.ofString "__doc__") 166, val := Value.none },
          { hash := PyData.keyHash P (Str.ofString "__package__"), key := Value.str (Str.ofString "__package__") 167, val := Value.none },
          { hash := PyData.keyHash P (Str.ofString "__loader__"), key := Value.str (Str.ofString "__loader__") 168,
            val := Value.builtin "__main__.__loader__#opaque" },
          { hash := PyData.keyHash P (Str.ofString "__spec__"), key := Value.str (Str.ofString "__spec__") 169, val := Value.none },
          { hash := PyData.keyHash P (Str.ofString "__annotations__"), key := Value.str (Str.ofString "__annotations__") 170, val := Value.ref 6 },
          { hash := PyData.keyHash P (Str.ofString "__builtins__"), key := Value.str (Str.ofString "__builtins__") 171, val := Value.ref 4 },
          { hash := PyData.keyHash P (Str.ofString "__file__"), key := Value.str (Str.ofString "__file__") 173,
            val := Value.str (Str.ofString "/claim/cut.py") 172 },
          { hash := PyData.keyHash P (Str.ofString "__cached__"), key := Value.str (Str.ofString "__cached__") 174, val := Value.none },
          { hash := PyData.keyHash P (Str.ofString "add_callers"), key := Value.str (Str.ofString "add_callers") 199, val := Value.ref 21 },
          { hash := PyData.keyHash P (Str.ofString "count_calls"), key := Value.str (Str.ofString "count_calls") 208, val := Value.ref 28 },
          { hash := PyData.keyHash P (Str.ofString "NL"), key := Value.str (Str.ofString "NL") 210, val := Value.str (Str.ofString "\n") 209 },
          { hash := PyData.keyHash P (Str.ofString "_QUOPRI_MAP"), key := Value.str (Str.ofString "_QUOPRI_MAP") 1238, val := Value.ref 31 },
          { hash := PyData.keyHash P (Str.ofString "_QUOPRI_HEADER_MAP"), key := Value.str (Str.ofString "_QUOPRI_HEADER_MAP") 1239, val := Value.ref 36 },
          { hash := PyData.keyHash P (Str.ofString "_QUOPRI_BODY_MAP"), key := Value.str (Str.ofString "_QUOPRI_BODY_MAP") 1240, val := Value.ref 38 },
          { hash := PyData.keyHash P (Str.ofString "ascii_lowercase"), key := Value.str (Str.ofString "ascii_lowercase") 1242,
            val := Value.str (Str.ofString "abcdefghijklmnopqrstuvwxyz") 1241 },
          { hash := PyData.keyHash P (Str.ofString "ascii_uppercase"), key := Value.str (Str.ofString "ascii_uppercase") 1244,
            val := Value.str (Str.ofString "ABCDEFGHIJKLMNOPQRSTUVWXYZ") 1243 },
          { hash := PyData.keyHash P (Str.ofString "ascii_letters"), key := Value.str (Str.ofString "ascii_letters") 1246,
            val := Value.str (Str.ofString "abcdefghijklmnopqrstuvwxyzABCDEFGHIJKLMNOPQRSTUVWXYZ") 1245 },
          { hash := PyData.keyHash P (Str.ofString "digits"), key := Value.str (Str.ofString "digits") 1248, val := Value.str (Str.ofString "0123456789") 1247 },
          { hash := PyData.keyHash P (Str.ofString "hexdigits"), key := Value.str (Str.ofString "hexdigits") 1253,
            val := Value.str (Str.ofString "0123456789abcdefABCDEF") 1252 }]
        20 }
noncomputable def topO35C (P : Params) : Obj :=
  { cls := Value.type "slice", data := Data.fields #[Value.none, Value.none, Value.none] }
noncomputable def topO36C (P : Params) : Obj :=
  { cls := Value.type "list",
    data :=
      Data.seq
        #[Value.str (Str.ofString "=00") 217, Value.str (Str.ofString "=01") 221, Value.str (Str.ofString "=02") 225, Value.str (Str.ofString "=03") 229,
          Value.str (Str.ofString "=04") 233, Value.str (Str.ofString "=05") 237, Value.str (Str.ofString "=06") 241, Value.str (Str.ofString "=07") 245,
          Value.str (Str.ofString "=08") 249, Value.str (Str.ofString "=09") 253, Value.str (Str.ofString "=0A") 257, Value.str (Str.ofString "=0B") 261,
          Value.str (Str.ofString "=0C") 265, Value.str (Str.ofString "=0D") 269, Value.str (Str.ofString "=0E") 273, Value.str (Str.ofString "=0F") 277,
          Value.str (Str.ofString "=10") 281, Value.str (Str.ofString "=11") 285, Value.str (Str.ofString "=12") 289, Value.str (Str.ofString "=13") 293,
          Value.str (Str.ofString "=14") 297, Value.str (Str.ofString "=15") 301, Value.str (Str.ofString "=16") 305, Value.str (Str.ofString "=17") 309,
          Value.str (Str.ofString "=18") 313, Value.str (Str.ofString "=19") 317, Value.str (Str.ofString "=1A") 321, Value.str (Str.ofString "=1B") 325,
          Value.str (Str.ofString "=1C") 329, Value.str (Str.ofString "=1D") 333, Value.str (Str.ofString "=1E") 337, Value.str (Str.ofString "=1F") 341,
          Value.str (Str.ofString "=20") 345, Value.str (Str.ofString "=21") 349, Value.str (Str.ofString "=22") 353, Value.str (Str.ofString "=23") 357,
          Value.str (Str.ofString "=24") 361, Value.str (Str.ofString "=25") 365, Value.str (Str.ofString "=26") 369, Value.str (Str.ofString "=27") 373,
          Value.str (Str.ofString "=28") 377, Value.str (Str.ofString "=29") 381, Value.str (Str.ofString "=2A") 385, Value.str (Str.ofString "=2B") 389,
          Value.str (Str.ofString "=2C") 393, Value.str (Str.ofString "=2D") 397, Value.str (Str.ofString "=2E") 401, Value.str (Str.ofString "=2F") 405,
          Value.str (Str.ofString "=30") 409, Value.str (Str.ofString "=31") 413, Value.str (Str.ofString "=32") 417, Value.str (Str.ofString "=33") 421,
          Value.str (Str.ofString "=34") 425, Value.str (Str.ofString "=35") 429, Value.str (Str.ofString "=36") 433, Value.str (Str.ofString "=37") 437,
          Value.str (Str.ofString "=38") 441, Value.str (Str.ofString "=39") 445, Value.str (Str.ofString "=3A") 449, Value.str (Str.ofString "=3B") 453,
          Value.str (Str.ofString "=3C") 457, Value.str (Str.ofString "=3D") 461, Value.str (Str.ofString "=3E") 465, Value.str (Str.ofString "=3F") 469,
          Value.str (Str.ofString "=40") 473, Value.str (Str.ofString "=41") 477, Value.str (Str.ofString "=42") 481, Value.str (Str.ofString "=43") 485,
          Value.str (Str.ofString "=44") 489, Value.str (Str.ofString "=45") 493, Value.str (Str.ofString "=46") 497, Value.str (Str.ofString "=47") 501,
          Value.str (Str.ofString "=48") 505, Value.str (Str.ofString "=49") 509, Value.str (Str.ofString "=4A") 513, Value.str (Str.ofString "=4B") 517,
          Value.str (Str.ofString "=4C") 521, Value.str (Str.ofString "=4D") 525, Value.str (Str.ofString "=4E") 529, Value.str (Str.ofString "=4F") 533,
          Value.str (Str.ofString "=50") 537, Value.str (Str.ofString "=51") 541, Value.str (Str.ofString "=52") 545, Value.str (Str.ofString "=53") 549,
          Value.str (Str.ofString "=54") 553, Value.str (Str.ofString "=55") 557, Value.str (Str.ofString "=56") 561, Value.str (Str.ofString "=57") 565,
          Value.str (Str.ofString "=58") 569, Value.str (Str.ofString "=59") 573, Value.str (Str.ofString "=5A") 577, Value.str (Str.ofString "=5B") 581,
          Value.str (Str.ofString "=5C") 585, Value.str (Str.ofString "=5D") 589, Value.str (Str.ofString "=5E") 593, Value.str (Str.ofString "=5F") 597,
          Value.str (Str.ofString "=60") 601, Value.str (Str.ofString "=61") 605, Value.str (Str.ofString "=62") 609, Value.str (Str.ofString "=63") 613,
          Value.str (Str.ofString "=64") 617, Value.str (Str.ofString "=65") 621, Value.str (Str.ofString "=66") 625, Value.str (Str.ofString "=67") 629,
          Value.str (Str.ofString "=68") 633, Value.str (Str.ofString "=69") 637, Value.str (Str.ofString "=6A") 641, Value.str (Str.ofString "=6B") 645,
          Value.str (Str.ofString "=6C") 649, Value.str (Str.ofString "=6D") 653, Value.str (Str.ofString "=6E") 657, Value.str (Str.ofString "=6F") 661,
          Value.str (Str.ofString "=70") 665, Value.str (Str.ofString "=71") 669, Value.str (Str.ofString "=72") 673, Value.str (Str.ofString "=73") 677,
          Value.str (Str.ofString "=74") 681, Value.str (Str.ofString "=75") 685, Value.str (Str.ofString "=76") 689, Value.str (Str.ofString "=77") 693,
          Value.str (Str.ofString "=78") 697, Value.str (Str.ofString "=79") 701, Value.str (Str.ofString "=7A") 705, Value.str (Str.ofString "=7B") 709,
          Value.str (Str.ofString "=7C") 713, Value.str (Str.ofString "=7D") 717, Value.str (Str.ofString "=7E") 721, Value.str (Str.ofString "=7F") 725,
          Value.str (Str.ofString "=80") 729, Value.str (Str.ofString "=81") 733, Value.str (Str.ofString "=82") 737, Value.str (Str.ofString "=83") 741,
          Value.str (Str.ofString "=84") 745, Value.str (Str.ofString "=85") 749, Value.str (Str.ofString "=86") 753, Value.str (Str.ofString "=87") 757,
          Value.str (Str.ofString "=88") 761, Value.str (Str.ofString "=89") 765, Value.str (Str.ofString "=8A") 769, Value.str (Str.ofString "=8B") 773,
          Value.str (Str.ofString "=8C") 777, Value.str (Str.ofString "=8D") 781, Value.str (Str.ofString "=8E") 785, Value.str (Str.ofString "=8F") 789,
          Value.str (Str.ofString "=90") 793, Value.str (Str.ofString "=91") 797, Value.str (Str.ofString "=92") 801, Value.str (Str.ofString "=93") 805,
          Value.str (Str.ofString "=94") 809, Value.str (Str.ofString "=95") 813, Value.str (Str.ofString "=96") 817, Value.str (Str.ofString "=97") 821,
          Value.str (Str.ofString "=98") 825, Value.str (Str.ofString "=99") 829, Value.str (Str.ofString "=9A") 833, Value.str (Str.ofString "=9B") 837,
          Value.str (Str.ofString "=9C") 841, Value.str (Str.ofString "=9D") 845, Value.str (Str.ofString "=9E") 849, Value.str (Str.ofString "=9F") 853,
          Value.str (Str.ofString "=A0") 857, Value.str (Str.ofString "=A1") 861, Value.str (Str.ofString "=A2") 865, Value.str (Str.ofString "=A3") 869,
          Value.str (Str.ofString "=A4") 873, Value.str (Str.ofString "=A5") 877, Value.str (Str.ofString "=A6") 881, Value.str (Str.ofString "=A7") 885,
          Value.str (Str.ofString "=A8") 889, Value.str (Str.ofString "=A9") 893, Value.str (Str.ofString "=AA") 897, Value.str (Str.ofString "=AB") 901,
          Value.str (Str.ofString "=AC") 905, Value.str (Str.ofString "=AD") 909, Value.str (Str.ofString "=AE") 913, Value.str (Str.ofString "=AF") 917,
          Value.str (Str.ofString "=B0") 921, Value.str (Str.ofString "=B1") 925, Value.str (Str.ofString "=B2") 929, Value.str (Str.ofString "=B3") 933,
          Value.str (Str.ofString "=B4") 937, Value.str (Str.ofString "=B5") 941, Value.str (Str.ofString "=B6") 945, Value.str (Str.ofString "=B7") 949,
          Value.str (Str.ofString "=B8") 953, Value.str (Str.ofString "=B9") 957, Value.str (Str.ofString "=BA") 961, Value.str (Str.ofString "=BB") 965,
          Value.str (Str.ofString "=BC") 969, Value.str (Str.ofString "=BD") 973, Value.str (Str.ofString "=BE") 977, Value.str (Str.ofString "=BF") 981,
          Value.str (Str.ofString "=C0") 985, Value.str (Str.ofString "=C1") 989, Value.str (Str.ofString "=C2") 993, Value.str (Str.ofString "=C3") 997,
          Value.str (Str.ofString "=C4") 1001, Value.str (Str.ofString "=C5") 1005, Value.str (Str.ofString "=C6") 1009, Value.str (Str.ofString "=C7") 1013,
          Value.str (Str.ofString "=C8") 1017, Value.str (Str.ofString "=C9") 1021, Value.str (Str.ofString "=CA") 1025, Value.str (Str.ofString "=CB") 1029,
          Value.str (Str.ofString "=CC") 1033, Value.str (Str.ofString "=CD") 1037, Value.str (Str.ofString "=CE") 1041, Value.str (Str.ofString "=CF") 1045,
          Value.str (Str.ofString "=D0") 1049, Value.str (Str.ofString "=D1") 1053, Value.str (Str.ofString "=D2") 1057, Value.str (Str.ofString "=D3") 1061,
          Value.str (Str.ofString "=D4") 1065, Value.str (Str.ofString "=D5") 1069, Value.str (Str.ofString "=D6") 1073, Value.str (Str.ofString "=D7") 1077,
          Value.str (Str.ofString "=D8") 1081, Value.str (Str.ofString "=D9") 1085, Value.str (Str.ofString "=DA") 1089, Value.str (Str.ofString "=DB") 1093,
          Value.str (Str.ofString "=DC") 1097, Value.str (Str.ofString "=DD") 1101, Value.str (Str.ofString "=DE") 1105, Value.str (Str.ofString "=DF") 1109,
          Value.str (Str.ofString "=E0") 1113, Value.str (Str.ofString "=E1") 1117, Value.str (Str.ofString "=E2") 1121, Value.str (Str.ofString "=E3") 1125,
          Value.str (Str.ofString "=E4") 1129, Value.str (Str.ofString "=E5") 1133, Value.str (Str.ofString "=E6") 1137, Value.str (Str.ofString "=E7") 1141,
          Value.str (Str.ofString "=E8") 1145, Value.str (Str.ofString "=E9") 1149, Value.str (Str.ofString "=EA") 1153, Value.str (Str.ofString "=EB") 1157,
          Value.str (Str.ofString "=EC") 1161, Value.str (Str.ofString "=ED") 1165, Value.str (Str.ofString "=EE") 1169, Value.str (Str.ofString "=EF") 1173,
          Value.str (Str.ofString "=F0") 1177, Value.str (Str.ofString "=F1") 1181, Value.str (Str.ofString "=F2") 1185, Value.str (Str.ofString "=F3") 1189,
          Value.str (Str.ofString "=F4") 1193, Value.str (Str.ofString "=F5") 1197, Value.str (Str.ofString "=F6") 1201, Value.str (Str.ofString "=F7") 1205,
          Value.str (Str.ofString "=F8") 1209, Value.str (Str.ofString "=F9") 1213, Value.str (Str.ofString "=FA") 1217, Value.str (Str.ofString "=FB") 1221,
          Value.str (Str.ofString "=FC") 1225, Value.str (Str.ofString "=FD") 1229, Value.str (Str.ofString "=FE") 1233, Value.str (Str.ofString "=FF") 1237] }
noncomputable def topO37C (P : Params) : Obj :=
  { cls := Value.type "slice", data := Data.fields #[Value.none, Value.none, Value.none] }
noncomputable def topO38C (P : Params) : Obj :=
  { cls := Value.type "list",
    data :=
      Data.seq
        #[Value.str (Str.ofString "=00") 217, Value.str (Str.ofString "=01") 221, Value.str (Str.ofString "=02") 225, Value.str (Str.ofString "=03") 229,
          Value.str (Str.ofString "=04") 233, Value.str (Str.ofString "=05") 237, Value.str (Str.ofString "=06") 241, Value.str (Str.ofString "=07") 245,
          Value.str (Str.ofString "=08") 249, Value.str (Str.ofString "=09") 253, Value.str (Str.ofString "=0A") 257, Value.str (Str.ofString "=0B") 261,
          Value.str (Str.ofString "=0C") 265, Value.str (Str.ofString "=0D") 269, Value.str (Str.ofString "=0E") 273, Value.str (Str.ofString "=0F") 277,
          Value.str (Str.ofString "=10") 281, Value.str (Str.ofString "=11") 285, Value.str (Str.ofString "=12") 289, Value.str (Str.ofString "=13") 293,
          Value.str (Str.ofString "=14") 297, Value.str (Str.ofString "=15") 301, Value.str (Str.ofString "=16") 305, Value.str (Str.ofString "=17") 309,
          Value.str (Str.ofString "=18") 313, Value.str (Str.ofString "=19") 317, Value.str (Str.ofString "=1A") 321, Value.str (Str.ofString "=1B") 325,
          Value.str (Str.ofString "=1C") 329, Value.str (Str.ofString "=1D") 333, Value.str (Str.ofString "=1E") 337, Value.str (Str.ofString "=1F") 341,
          Value.str (Str.ofString "=20") 345, Value.str (Str.ofString "=21") 349, Value.str (Str.ofString "=22") 353, Value.str (Str.ofString "=23") 357,
          Value.str (Str.ofString "=24") 361, Value.str (Str.ofString "=25") 365, Value.str (Str.ofString "=26") 369, Value.str (Str.ofString "=27") 373,
          Value.str (Str.ofString "=28") 377, Value.str (Str.ofString "=29") 381, Value.str (Str.ofString "=2A") 385, Value.str (Str.ofString "=2B") 389,
          Value.str (Str.ofString "=2C") 393, Value.str (Str.ofString "=2D") 397, Value.str (Str.ofString "=2E") 401, Value.str (Str.ofString "=2F") 405,
          Value.str (Str.ofString "=30") 409, Value.str (Str.ofString "=31") 413, Value.str (Str.ofString "=32") 417, Value.str (Str.ofString "=33") 421,
          Value.str (Str.ofString "=34") 425, Value.str (Str.ofString "=35") 429, Value.str (Str.ofString "=36") 433, Value.str (Str.ofString "=37") 437,
          Value.str (Str.ofString "=38") 441, Value.str (Str.ofString "=39") 445, Value.str (Str.ofString "=3A") 449, Value.str (Str.ofString "=3B") 453,
          Value.str (Str.ofString "=3C") 457, Value.str (Str.ofString "=3D") 461, Value.str (Str.ofString "=3E") 465, Value.str (Str.ofString "=3F") 469,
          Value.str (Str.ofString "=40") 473, Value.str (Str.ofString "=41") 477, Value.str (Str.ofString "=42") 481, Value.str (Str.ofString "=43") 485,
          Value.str (Str.ofString "=44") 489, Value.str (Str.ofString "=45") 493, Value.str (Str.ofString "=46") 497, Value.str (Str.ofString "=47") 501,
          Value.str (Str.ofString "=48") 505, Value.str (Str.ofString "=49") 509, Value.str (Str.ofString "=4A") 513, Value.str (Str.ofString "=4B") 517,
          Value.str (Str.ofString "=4C") 521, Value.str (Str.ofString "=4D") 525, Value.str (Str.ofString "=4E") 529, Value.str (Str.ofString "=4F") 533,
          Value.str (Str.ofString "=50") 537, Value.str (Str.ofString "=51") 541, Value.str (Str.ofString "=52") 545, Value.str (Str.ofString "=53") 549,
          Value.str (Str.ofString "=54") 553, Value.str (Str.ofString "=55") 557, Value.str (Str.ofString "=56") 561, Value.str (Str.ofString "=57") 565,
          Value.str (Str.ofString "=58") 569, Value.str (Str.ofString "=59") 573, Value.str (Str.ofString "=5A") 577, Value.str (Str.ofString "=5B") 581,
          Value.str (Str.ofString "=5C") 585, Value.str (Str.ofString "=5D") 589, Value.str (Str.ofString "=5E") 593, Value.str (Str.ofString "=5F") 597,
          Value.str (Str.ofString "=60") 601, Value.str (Str.ofString "=61") 605, Value.str (Str.ofString "=62") 609, Value.str (Str.ofString "=63") 613,
          Value.str (Str.ofString "=64") 617, Value.str (Str.ofString "=65") 621, Value.str (Str.ofString "=66") 625, Value.str (Str.ofString "=67") 629,
          Value.str (Str.ofString "=68") 633, Value.str (Str.ofString "=69") 637, Value.str (Str.ofString "=6A") 641, Value.str (Str.ofString "=6B") 645,
          Value.str (Str.ofString "=6C") 649, Value.str (Str.ofString "=6D") 653, Value.str (Str.ofString "=6E") 657, Value.str (Str.ofString "=6F") 661,
          Value.str (Str.ofString "=70") 665, Value.str (Str.ofString "=71") 669, Value.str (Str.ofString "=72") 673, Value.str (Str.ofString "=73") 677,
          Value.str (Str.ofString "=74") 681, Value.str (Str.ofString "=75") 685, Value.str (Str.ofString "=76") 689, Value.str (Str.ofString "=77") 693,
          Value.str (Str.ofString "=78") 697, Value.str (Str.ofString "=79") 701, Value.str (Str.ofString "=7A") 705, Value.str (Str.ofString "=7B") 709,
          Value.str (Str.ofString "=7C") 713, Value.str (Str.ofString "=7D") 717, Value.str (Str.ofString "=7E") 721, Value.str (Str.ofString "=7F") 725,
          Value.str (Str.ofString "=80") 729, Value.str (Str.ofString "=81") 733, Value.str (Str.ofString "=82") 737, Value.str (Str.ofString "=83") 741,
          Value.str (Str.ofString "=84") 745, Value.str (Str.ofString "=85") 749, Value.str (Str.ofString "=86") 753, Value.str (Str.ofString "=87") 757,
          Value.str (Str.ofString "=88") 761, Value.str (Str.ofString "=89") 765, Value.str (Str.ofString "=8A") 769, Value.str (Str.ofString "=8B") 773,
          Value.str (Str.ofString "=8C") 777, Value.str (Str.ofString "=8D") 781, Value.str (Str.ofString "=8E") 785, Value.str (Str.ofString "=8F") 789,
          Value.str (Str.ofString "=90") 793, Value.str (Str.ofString "=91") 797, Value.str (Str.ofString "=92") 801, Value.str (Str.ofString "=93") 805,
          Value.str (Str.ofString "=94") 809, Value.str (Str.ofString "=95") 813, Value.str (Str.ofString "=96") 817, Value.str (Str.ofString "=97") 821,
          Value.str (Str.ofString "=98") 825, Value.str (Str.ofString "=99") 829, Value.str (Str.ofString "=9A") 833, Value.str (Str.ofString "=9B") 837,
          Value.str (Str.ofString "=9C") 841, Value.str (Str.ofString "=9D") 845, Value.str (Str.ofString "=9E") 849, Value.str (Str.ofString "=9F") 853,
          Value.str (Str.ofString "=A0") 857, Value.str (Str.ofString "=A1") 861, Value.str (Str.ofString "=A2") 865, Value.str (Str.ofString "=A3") 869,
          Value.str (Str.ofString "=A4") 873, Value.str (Str.ofString "=A5") 877, Value.str (Str.ofString "=A6") 881, Value.str (Str.ofString "=A7") 885,
          Value.str (Str.ofString "=A8") 889, Value.str (Str.ofString "=A9") 893, Value.str (Str.ofString "=AA") 897, Value.str (Str.ofString "=AB") 901,
          Value.str (Str.ofString "=AC") 905, Value.str (Str.ofString "=AD") 909, Value.str (Str.ofString "=AE") 913, Value.str (Str.ofString "=AF") 917,
          Value.str (Str.ofString "=B0") 921, Value.str (Str.ofString "=B1") 925, Value.str (Str.ofString "=B2") 929, Value.str (Str.ofString "=B3") 933,
          Value.str (Str.ofString "=B4") 937, Value.str (Str.ofString "=B5") 941, Value.str (Str.ofString "=B6") 945, Value.str (Str.ofString "=B7") 949,
          Value.str (Str.ofString "=B8") 953, Value.str (Str.ofString "=B9") 957, Value.str (Str.ofString "=BA") 961, Value.str (Str.ofString "=BB") 965,
          Value.str (Str.ofString "=BC") 969, Value.str (Str.ofString "=BD") 973, Value.str (Str.ofString "=BE") 977, Value.str (Str.ofString "=BF") 981,
          Value.str (Str.ofString "=C0") 985, Value.str (Str.ofString "=C1") 989, Value.str (Str.ofString "=C2") 993, Value.str (Str.ofString "=C3") 997,
          Value.str (Str.ofString "=C4") 1001, Value.str (Str.ofString "=C5") 1005, Value.str (Str.ofString "=C6") 1009, Value.str (Str.ofString "=C7") 1013,
          Value.str (Str.ofString "=C8") 1017, Value.str (Str.ofString "=C9") 1021, Value.str (Str.ofString "=CA") 1025, Value.str (Str.ofString "=CB") 1029,
          Value.str (Str.ofString "=CC") 1033, Value.str (Str.ofString "=CD") 1037, Value.str (Str.ofString "=CE") 1041, Value.str (Str.ofString "=CF") 1045,
          Value.str (Str.ofString "=D0") 1049, Value.str (Str.ofString "=D1") 1053, Value.str (Str.ofString "=D2") 1057, Value.str (Str.ofString "=D3") 1061,
          Value.str (Str.ofString "=D4") 1065, Value.str (Str.ofString "=D5") 1069, Value.str (Str.ofString "=D6") 1073, Value.str (Str.ofString "=D7") 1077,
          Value.str (Str.ofString "=D8") 1081, Value.str (Str.ofString "=D9") 1085, Value.str (Str.ofString "=DA") 1089, Value.str (Str.ofString "=DB") 1093,
          Value.str (Str.ofString "=DC") 1097, Value.str (Str.ofString "=DD") 1101, Value.str (Str.ofString "=DE") 1105, Value.str (Str.ofString "=DF") 1109,
          Value.str (Str.ofString "=E0") 1113, Value.str (Str.ofString "=E1") 1117, Value.str (Str.ofString "=E2") 1121, Value.str (Str.ofString "=E3") 1125,
          Value.str (Str.ofString "=E4") 1129, Value.str (Str.ofString "=E5") 1133, Value.str (Str.ofString "=E6") 1137, Value.str (Str.ofString "=E7") 1141,
          Value.str (Str.ofString "=E8") 1145, Value.str (Str.ofString "=E9") 1149, Value.str (Str.ofString "=EA") 1153, Value.str (Str.ofString "=EB") 1157,
          Value.str (Str.ofString "=EC") 1161, Value.str (Str.ofString "=ED") 1165, Value.str (Str.ofString "=EE") 1169, Value.str (Str.ofString "=EF") 1173,
          Value.str (Str.ofString "=F0") 1177, Value.str (Str.ofString "=F1") 1181, Value.str (Str.ofString "=F2") 1185, Value.str (Str.ofString "=F3") 1189,
          Value.str (Str.ofString "=F4") 1193, Value.str (Str.ofString "=F5") 1197, Value.str (Str.ofString "=F6") 1201, Value.str (Str.ofString "=F7") 1205,
          Value.str (Str.ofString "=F8") 1209, Value.str (Str.ofString "=F9") 1213, Value.str (Str.ofString "=FA") 1217, Value.str (Str.ofString "=FB") 1221,
          Value.str (Str.ofString "=FC") 1225, Value.str (Str.ofString "=FD") 1229, Value.str (Str.ofString "=FE") 1233, Value.str (Str.ofString "=FF") 1237] }
noncomputable def topTreeC (P : Params) : BT :=
  (.node (boot_o_0 P) (.node (boot_o_1 P) (.node (topO3C P) (.node (boot_o_7 P) (.node (topO15A P) (.node (topO31B P) .nil .nil) .nil) (.node (topO23A P) .nil .nil)) (.node (topO11I P) (.node (topO19A P) (.node (topO35C P) .nil .nil) .nil) (.node (topO27A P) .nil .nil))) (.node (boot_o_5 P) (.node (boot_o_9 P) (.node (topO17A P) (.node (topO33B P) .nil .nil) .nil) (.node (topO25A P) .nil .nil)) (.node (topO13I P) (.node (topO21A P) (.node (topO37C P) .nil .nil) .nil) (.node (topO29B P) .nil .nil)))) (.node (boot_o_2 P) (.node (boot_o_4 P) (.node (boot_o_8 P) (.node (topO16A P) (.node (topO32B P) .nil .nil) .nil) (.node (topO24A P) .nil .nil)) (.node (topO12A P) (.node (topO20A P) (.node (topO36C P) .nil .nil) .nil) (.node (topO28A P) .nil .nil))) (.node (boot_o_6 P) (.node (boot_o_10 P) (.node (topO18A P) (.node (topO34B P) .nil .nil) .nil) (.node (topO26A P) .nil .nil)) (.node (topO14I P) (.node (topO22A P) (.node (topO38C P) .nil .nil) .nil) (.node (topO30B P) .nil .nil)))))
noncomputable def topStC (w : World) (os : OsState) : SharedT := ⟨topTreeC w.params, 39, life0, #[], drawn0, 1256, os⟩
noncomputable def topO3D (P : Params) : Obj :=
  { cls := Value.type "dict",
    data :=
      Data.dict
        #[{ hash := PyData.keyHash P (Str.ofString "__name__"), key := Value.str (Str.ofString "__name__") 165,
            val := Value.str (Str.ofString "cpy313.email.quoprimime") 1254 },
          { hash := PyData.keyHash P (Str.ofString "__doc__"), key := Value.str (Str.ofString "__doc__") 166, val := Value.none },
          { hash := PyData.keyHash P (Str.ofString "__package__"), key := Value.str (Str.ofString "__package__") 167, val := Value.none },
          { hash := PyData.keyHash P (Str.ofString "__loader__"), key := Value.str (Str.ofString "__loader__") 168,
            val := Value.builtin "__main__.__loader__#opaque" },
          { hash := PyData.keyHash P (Str.ofString "__spec__"), key := Value.str (Str.ofString "__spec__") 169, val := Value.none },
          { hash := PyData.keyHash P (Str.ofString "__annotations__"), key := Value.str (Str.ofString "__annotations__") 170, val := Value.ref 6 },
          { hash := PyData.keyHash P (Str.ofString "__builtins__"), key := Value.str (Str.ofString "__builtins__") 171, val := Value.ref 4 },
          { hash := PyData.keyHash P (Str.ofString "__file__"), key := Value.str (Str.ofString "__file__") 173,
            val := Value.str (Str.ofString "/claim/cut.py") 172 },
          { hash := PyData.keyHash P (Str.ofString "__cached__"), key := Value.str (Str.ofString "__cached__") 174, val := Value.none },
          { hash := PyData.keyHash P (Str.ofString "add_callers"), key := Value.str (Str.ofString "add_callers") 199, val := Value.ref 21 },
          { hash := PyData.keyHash P (Str.ofString "count_calls"), key := Value.str (Str.ofString "count_calls") 208, val := Value.ref 28 },
          { hash := PyData.keyHash P (Str.ofString "NL"), key := Value.str (Str.ofString "NL") 210, val := Value.str (Str.ofString "\n") 209 },
          { hash := PyData.keyHash P (Str.ofString "_QUOPRI_MAP"), key := Value.str (Str.ofString "_QUOPRI_MAP") 1238, val := Value.ref 31 },
          { hash := PyData.keyHash P (Str.ofString "_QUOPRI_HEADER_MAP"), key := Value.str (Str.ofString "_QUOPRI_HEADER_MAP") 1239, val := Value.ref 36 },
          { hash := PyData.keyHash P (Str.ofString "_QUOPRI_BODY_MAP"), key := Value.str (Str.ofString "_QUOPRI_BODY_MAP") 1240, val := Value.ref 38 },
          { hash := PyData.keyHash P (Str.ofString "ascii_lowercase"), key := Value.str (Str.ofString "ascii_lowercase") 1242,
            val := Value.str (Str.ofString "abcdefghijklmnopqrstuvwxyz") 1241 },
          { hash := PyData.keyHash P (Str.ofString "ascii_uppercase"), key := Value.str (Str.ofString "ascii_uppercase") 1244,
            val := Value.str (Str.ofString "ABCDEFGHIJKLMNOPQRSTUVWXYZ") 1243 },
          { hash := PyData.keyHash P (Str.ofString "ascii_letters"), key := Value.str (Str.ofString "ascii_letters") 1246,
            val := Value.str (Str.ofString "abcdefghijklmnopqrstuvwxyzABCDEFGHIJKLMNOPQRSTUVWXYZ") 1245 },
          { hash := PyData.keyHash P (Str.ofString "digits"), key := Value.str (Str.ofString "digits") 1248, val := Value.str (Str.ofString "0123456789") 1247 },
          { hash := PyData.keyHash P (Str.ofString "hexdigits"), key := Value.str (Str.ofString "hexdigits") 1253,
            val := Value.str (Str.ofString "0123456789abcdefABCDEF") 1252 },
          { hash := PyData.keyHash P (Str.ofString "c"), key := Value.str (Str.ofString "c") 1264, val := Value.int 57 1461 }]
        21 }
noncomputable def topO36D (P : Params) : Obj :=
  { cls := Value.type "list",
    data :=
      Data.seq
        #[Value.str (Str.ofString "=00") 217, Value.str (Str.ofString "=01") 221, Value.str (Str.ofString "=02") 225, Value.str (Str.ofString "=03") 229,
          Value.str (Str.ofString "=04") 233, Value.str (Str.ofString "=05") 237, Value.str (Str.ofString "=06") 241, Value.str (Str.ofString "=07") 245,
          Value.str (Str.ofString "=08") 249, Value.str (Str.ofString "=09") 253, Value.str (Str.ofString "=0A") 257, Value.str (Str.ofString "=0B") 261,
          Value.str (Str.ofString "=0C") 265, Value.str (Str.ofString "=0D") 269, Value.str (Str.ofString "=0E") 273, Value.str (Str.ofString "=0F") 277,
          Value.str (Str.ofString "=10") 281, Value.str (Str.ofString "=11") 285, Value.str (Str.ofString "=12") 289, Value.str (Str.ofString "=13") 293,
          Value.str (Str.ofString "=14") 297, Value.str (Str.ofString "=15") 301, Value.str (Str.ofString "=16") 305, Value.str (Str.ofString "=17") 309,
          Value.str (Str.ofString "=18") 313, Value.str (Str.ofString "=19") 317, Value.str (Str.ofString "=1A") 321, Value.str (Str.ofString "=1B") 325,
          Value.str (Str.ofString "=1C") 329, Value.str (Str.ofString "=1D") 333, Value.str (Str.ofString "=1E") 337, Value.str (Str.ofString "=1F") 341,
          Value.str (Str.ofString "=20") 345, Value.str (Str.ofString "!") 1268, Value.str (Str.ofString "=22") 353, Value.str (Str.ofString "=23") 357,
          Value.str (Str.ofString "=24") 361, Value.str (Str.ofString "=25") 365, Value.str (Str.ofString "=26") 369, Value.str (Str.ofString "=27") 373,
          Value.str (Str.ofString "=28") 377, Value.str (Str.ofString "=29") 381, Value.str (Str.ofString "*") 1271, Value.str (Str.ofString "+") 1274,
          Value.str (Str.ofString "=2C") 393, Value.str (Str.ofString "-") 1265, Value.str (Str.ofString "=2E") 401, Value.str (Str.ofString "/") 1277,
          Value.str (Str.ofString "0") 1436, Value.str (Str.ofString "1") 1439, Value.str (Str.ofString "2") 1442, Value.str (Str.ofString "3") 1445,
          Value.str (Str.ofString "4") 1448, Value.str (Str.ofString "5") 1451, Value.str (Str.ofString "6") 1454, Value.str (Str.ofString "7") 1457,
          Value.str (Str.ofString "8") 1460, Value.str (Str.ofString "9") 1463, Value.str (Str.ofString "=3A") 449, Value.str (Str.ofString "=3B") 453,
          Value.str (Str.ofString "=3C") 457, Value.str (Str.ofString "=3D") 461, Value.str (Str.ofString "=3E") 465, Value.str (Str.ofString "=3F") 469,
          Value.str (Str.ofString "=40") 473, Value.str (Str.ofString "A") 1358, Value.str (Str.ofString "B") 1361, Value.str (Str.ofString "C") 1364,
          Value.str (Str.ofString "D") 1367, Value.str (Str.ofString "E") 1370, Value.str (Str.ofString "F") 1373, Value.str (Str.ofString "G") 1376,
          Value.str (Str.ofString "H") 1379, Value.str (Str.ofString "I") 1382, Value.str (Str.ofString "J") 1385, Value.str (Str.ofString "K") 1388,
          Value.str (Str.ofString "L") 1391, Value.str (Str.ofString "M") 1394, Value.str (Str.ofString "N") 1397, Value.str (Str.ofString "O") 1400,
          Value.str (Str.ofString "P") 1403, Value.str (Str.ofString "Q") 1406, Value.str (Str.ofString "R") 1409, Value.str (Str.ofString "S") 1412,
          Value.str (Str.ofString "T") 1415, Value.str (Str.ofString "U") 1418, Value.str (Str.ofString "V") 1421, Value.str (Str.ofString "W") 1424,
          Value.str (Str.ofString "X") 1427, Value.str (Str.ofString "Y") 1430, Value.str (Str.ofString "Z") 1433, Value.str (Str.ofString "=5B") 581,
          Value.str (Str.ofString "=5C") 585, Value.str (Str.ofString "=5D") 589, Value.str (Str.ofString "=5E") 593, Value.str (Str.ofString "=5F") 597,
          Value.str (Str.ofString "=60") 601, Value.str (Str.ofString "a") 1280, Value.str (Str.ofString "b") 1283, Value.str (Str.ofString "c") 1286,
          Value.str (Str.ofString "d") 1289, Value.str (Str.ofString "e") 1292, Value.str (Str.ofString "f") 1295, Value.str (Str.ofString "g") 1298,
          Value.str (Str.ofString "h") 1301, Value.str (Str.ofString "i") 1304, Value.str (Str.ofString "j") 1307, Value.str (Str.ofString "k") 1310,
          Value.str (Str.ofString "l") 1313, Value.str (Str.ofString "m") 1316, Value.str (Str.ofString "n") 1319, Value.str (Str.ofString "o") 1322,
          Value.str (Str.ofString "p") 1325, Value.str (Str.ofString "q") 1328, Value.str (Str.ofString "r") 1331, Value.str (Str.ofString "s") 1334,
          Value.str (Str.ofString "t") 1337, Value.str (Str.ofString "u") 1340, Value.str (Str.ofString "v") 1343, Value.str (Str.ofString "w") 1346,
          Value.str (Str.ofString "x") 1349, Value.str (Str.ofString "y") 1352, Value.str (Str.ofString "z") 1355, Value.str (Str.ofString "=7B") 709,
          Value.str (Str.ofString "=7C") 713, Value.str (Str.ofString "=7D") 717, Value.str (Str.ofString "=7E") 721, Value.str (Str.ofString "=7F") 725,
          Value.str (Str.ofString "=80") 729, Value.str (Str.ofString "=81") 733, Value.str (Str.ofString "=82") 737, Value.str (Str.ofString "=83") 741,
          Value.str (Str.ofString "=84") 745, Value.str (Str.ofString "=85") 749, Value.str (Str.ofString "=86") 753, Value.str (Str.ofString "=87") 757,
          Value.str (Str.ofString "=88") 761, Value.str (Str.ofString "=89") 765, Value.str (Str.ofString "=8A") 769, Value.str (Str.ofString "=8B") 773,
          Value.str (Str.ofString "=8C") 777, Value.str (Str.ofString "=8D") 781, Value.str (Str.ofString "=8E") 785, Value.str (Str.ofString "=8F") 789,
          Value.str (Str.ofString "=90") 793, Value.str (Str.ofString "=91") 797, Value.str (Str.ofString "=92") 801, Value.str (Str.ofString "=93") 805,
          Value.str (Str.ofString "=94") 809, Value.str (Str.ofString "=95") 813, Value.str (Str.ofString "=96") 817, Value.str (Str.ofString "=97") 821,
          Value.str (Str.ofString "=98") 825, Value.str (Str.ofString "=99") 829, Value.str (Str.ofString "=9A") 833, Value.str (Str.ofString "=9B") 837,
          Value.str (Str.ofString "=9C") 841, Value.str (Str.ofString "=9D") 845, Value.str (Str.ofString "=9E") 849, Value.str (Str.ofString "=9F") 853,
          Value.str (Str.ofString "=A0") 857, Value.str (Str.ofString "=A1") 861, Value.str (Str.ofString "=A2") 865, Value.str (Str.ofString "=A3") 869,
          Value.str (Str.ofString "=A4") 873, Value.str (Str.ofString "=A5") 877, Value.str (Str.ofString "=A6") 881, Value.str (Str.ofString "=A7") 885,
          Value.str (Str.ofString "=A8") 889, Value.str (Str.ofString "=A9") 893, Value.str (Str.ofString "=AA") 897, Value.str (Str.ofString "=AB") 901,
          Value.str (Str.ofString "=AC") 905, Value.str (Str.ofString "=AD") 909, Value.str (Str.ofString "=AE") 913, Value.str (Str.ofString "=AF") 917,
          Value.str (Str.ofString "=B0") 921, Value.str (Str.ofString "=B1") 925, Value.str (Str.ofString "=B2") 929, Value.str (Str.ofString "=B3") 933,
          Value.str (Str.ofString "=B4") 937, Value.str (Str.ofString "=B5") 941, Value.str (Str.ofString "=B6") 945, Value.str (Str.ofString "=B7") 949,
          Value.str (Str.ofString "=B8") 953, Value.str (Str.ofString "=B9") 957, Value.str (Str.ofString "=BA") 961, Value.str (Str.ofString "=BB") 965,
          Value.str (Str.ofString "=BC") 969, Value.str (Str.ofString "=BD") 973, Value.str (Str.ofString "=BE") 977, Value.str (Str.ofString "=BF") 981,
          Value.str (Str.ofString "=C0") 985, Value.str (Str.ofString "=C1") 989, Value.str (Str.ofString "=C2") 993, Value.str (Str.ofString "=C3") 997,
          Value.str (Str.ofString "=C4") 1001, Value.str (Str.ofString "=C5") 1005, Value.str (Str.ofString "=C6") 1009, Value.str (Str.ofString "=C7") 1013,
          Value.str (Str.ofString "=C8") 1017, Value.str (Str.ofString "=C9") 1021, Value.str (Str.ofString "=CA") 1025, Value.str (Str.ofString "=CB") 1029,
          Value.str (Str.ofString "=CC") 1033, Value.str (Str.ofString "=CD") 1037, Value.str (Str.ofString "=CE") 1041, Value.str (Str.ofString "=CF") 1045,
          Value.str (Str.ofString "=D0") 1049, Value.str (Str.ofString "=D1") 1053, Value.str (Str.ofString "=D2") 1057, Value.str (Str.ofString "=D3") 1061,
          Value.str (Str.ofString "=D4") 1065, Value.str (Str.ofString "=D5") 1069, Value.str (Str.ofString "=D6") 1073, Value.str (Str.ofString "=D7") 1077,
          Value.str (Str.ofString "=D8") 1081, Value.str (Str.ofString "=D9") 1085, Value.str (Str.ofString "=DA") 1089, Value.str (Str.ofString "=DB") 1093,
          Value.str (Str.ofString "=DC") 1097, Value.str (Str.ofString "=DD") 1101, Value.str (Str.ofString "=DE") 1105, Value.str (Str.ofString "=DF") 1109,
          Value.str (Str.ofString "=E0") 1113, Value.str (Str.ofString "=E1") 1117, Value.str (Str.ofString "=E2") 1121, Value.str (Str.ofString "=E3") 1125,
          Value.str (Str.ofString "=E4") 1129, Value.str (Str.ofString "=E5") 1133, Value.str (Str.ofString "=E6") 1137, Value.str (Str.ofString "=E7") 1141,
          Value.str (Str.ofString "=E8") 1145, Value.str (Str.ofString "=E9") 1149, Value.str (Str.ofString "=EA") 1153, Value.str (Str.ofString "=EB") 1157,
          Value.str (Str.ofString "=EC") 1161, Value.str (Str.ofString "=ED") 1165, Value.str (Str.ofString "=EE") 1169, Value.str (Str.ofString "=EF") 1173,
          Value.str (Str.ofString "=F0") 1177, Value.str (Str.ofString "=F1") 1181, Value.str (Str.ofString "=F2") 1185, Value.str (Str.ofString "=F3") 1189,
          Value.str (Str.ofString "=F4") 1193, Value.str (Str.ofString "=F5") 1197, Value.str (Str.ofString "=F6") 1201, Value.str (Str.ofString "=F7") 1205,
          Value.str (Str.ofString "=F8") 1209, Value.str (Str.ofString "=F9") 1213, Value.str (Str.ofString "=FA") 1217, Value.str (Str.ofString "=FB") 1221,
          Value.str (Str.ofString "=FC") 1225, Value.str (Str.ofString "=FD") 1229, Value.str (Str.ofString "=FE") 1233, Value.str (Str.ofString "=FF") 1237] }
noncomputable def topO39D (P : Params) : Obj :=
  { cls := Value.type "bytes_iterator", data := Data.fields #[Value.none, Value.int 67 0] }
noncomputable def topO40D (P : Params) : Obj :=
  { cls := Value.type "tuple", data := Data.seq #[] }
noncomputable def topO41D (P : Params) : Obj :=
  { cls := Value.type "StopIteration", data := Data.fields #[Value.ref 40, Value.none, Value.none, Value.none, Value.bool false, Value.none] }
noncomputable def topTreeD (P : Params) : BT :=
  (.node (boot_o_0 P) (.node (boot_o_1 P) (.node (topO3D P) (.node (boot_o_7 P) (.node (topO15A P) (.node (topO31B P) .nil .nil) .nil) (.node (topO23A P) (.node (topO39D P) .nil .nil) .nil)) (.node (topO11I P) (.node (topO19A P) (.node (topO35C P) .nil .nil) .nil) (.node (topO27A P) .nil .nil))) (.node (boot_o_5 P) (.node (boot_o_9 P) (.node (topO17A P) (.node (topO33B P) .nil .nil) .nil) (.node (topO25A P) (.node (topO41D P) .nil .nil) .nil)) (.node (topO13I P) (.node (topO21A P) (.node (topO37C P) .nil .nil) .nil) (.node (topO29B P) .nil .nil)))) (.node (boot_o_2 P) (.node (boot_o_4 P) (.node (boot_o_8 P) (.node (topO16A P) (.node (topO32B P) .nil .nil) .nil) (.node (topO24A P) (.node (topO40D P) .nil .nil) .nil)) (.node (topO12A P) (.node (topO20A P) (.node (topO36D P) .nil .nil) .nil) (.node (topO28A P) .nil .nil))) (.node (boot_o_6 P) (.node (boot_o_10 P) (.node (topO18A P) (.node (topO34B P) .nil .nil) .nil) (.node (topO26A P) .nil .nil)) (.node (topO14I P) (.node (topO22A P) (.node (topO38C P) .nil .nil) .nil) (.node (topO30B P) .nil .nil)))))
noncomputable def topStD (w : World) (os : OsState) : SharedT := ⟨topTreeD w.params, 42, life0, #[], drawn0, 1464, os⟩
noncomputable def topO3E (P : Params) : Obj :=
  { cls := Value.type "dict",
    data :=
      Data.dict
        #[{ hash := PyData.keyHash P (Str.ofString "__name__"), key := Value.str (Str.ofString "__name__") 165,
            val := Value.str (Str.ofString "cpy313.email.quoprimime") 1254 },
          { hash := PyData.keyHash P (Str.ofString "__doc__"), key := Value.str (Str.ofString "__doc__") 166, val := Value.none },
          { hash := PyData.keyHash P (Str.ofString "__package__"), key := Value.str (Str.ofString "__package__") 167, val := Value.none },
          { hash := PyData.keyHash P (Str.ofString "__loader__"), key := Value.str (Str.ofString "__loader__") 168,
            val := Value.builtin "__main__.__loader__#opaque" },
          { hash := PyData.keyHash P (Str.ofString "__spec__"), key := Value.str (Str.ofString "__spec__") 169, val := Value.none },
          { hash := PyData.keyHash P (Str.ofString "__annotations__"), key := Value.str (Str.ofString "__annotations__") 170, val := Value.ref 6 },
          { hash := PyData.keyHash P (Str.ofString "__builtins__"), key := Value.str (Str.ofString "__builtins__") 171, val := Value.ref 4 },
          { hash := PyData.keyHash P (Str.ofString "__file__"), key := Value.str (Str.ofString "__file__") 173,
            val := Value.str (Str.ofString "/claim/cut.py") 172 },
          { hash := PyData.keyHash P (Str.ofString "__cached__"), key := Value.str (Str.ofString "__cached__") 174, val := Value.none },
          { hash := PyData.keyHash P (Str.ofString "add_callers"), key := Value.str (Str.ofString "add_callers") 199, val := Value.ref 21 },
          { hash := PyData.keyHash P (Str.ofString "count_calls"), key := Value.str (Str.ofString "count_calls") 208, val := Value.ref 28 },
          { hash := PyData.keyHash P (Str.ofString "NL"), key := Value.str (Str.ofString "NL") 210, val := Value.str (Str.ofString "\n") 209 },
          { hash := PyData.keyHash P (Str.ofString "_QUOPRI_MAP"), key := Value.str (Str.ofString "_QUOPRI_MAP") 1238, val := Value.ref 31 },
          { hash := PyData.keyHash P (Str.ofString "_QUOPRI_HEADER_MAP"), key := Value.str (Str.ofString "_QUOPRI_HEADER_MAP") 1239, val := Value.ref 36 },
          { hash := PyData.keyHash P (Str.ofString "_QUOPRI_BODY_MAP"), key := Value.str (Str.ofString "_QUOPRI_BODY_MAP") 1240, val := Value.ref 38 },
          { hash := PyData.keyHash P (Str.ofString "ascii_lowercase"), key := Value.str (Str.ofString "ascii_lowercase") 1242,
            val := Value.str (Str.ofString "abcdefghijklmnopqrstuvwxyz") 1241 },
          { hash := PyData.keyHash P (Str.ofString "ascii_uppercase"), key := Value.str (Str.ofString "ascii_uppercase") 1244,
            val := Value.str (Str.ofString "ABCDEFGHIJKLMNOPQRSTUVWXYZ") 1243 },
          { hash := PyData.keyHash P (Str.ofString "ascii_letters"), key := Value.str (Str.ofString "ascii_letters") 1246,
            val := Value.str (Str.ofString "abcdefghijklmnopqrstuvwxyzABCDEFGHIJKLMNOPQRSTUVWXYZ") 1245 },
          { hash := PyData.keyHash P (Str.ofString "digits"), key := Value.str (Str.ofString "digits") 1248, val := Value.str (Str.ofString "0123456789") 1247 },
          { hash := PyData.keyHash P (Str.ofString "hexdigits"), key := Value.str (Str.ofString "hexdigits") 1253,
            val := Value.str (Str.ofString "0123456789abcdefABCDEF") 1252 },
          { hash := PyData.keyHash P (Str.ofString "c"), key := Value.str (Str.ofString "c") 1264, val := Value.int 9 1750 }]
        21 }
noncomputable def topO36E (P : Params) : Obj :=
  { cls := Value.type "list",
    data :=
      Data.seq
        #[Value.str (Str.ofString "=00") 217, Value.str (Str.ofString "=01") 221, Value.str (Str.ofString "=02") 225, Value.str (Str.ofString "=03") 229,
          Value.str (Str.ofString "=04") 233, Value.str (Str.ofString "=05") 237, Value.str (Str.ofString "=06") 241, Value.str (Str.ofString "=07") 245,
          Value.str (Str.ofString "=08") 249, Value.str (Str.ofString "=09") 253, Value.str (Str.ofString "=0A") 257, Value.str (Str.ofString "=0B") 261,
          Value.str (Str.ofString "=0C") 265, Value.str (Str.ofString "=0D") 269, Value.str (Str.ofString "=0E") 273, Value.str (Str.ofString "=0F") 277,
          Value.str (Str.ofString "=10") 281, Value.str (Str.ofString "=11") 285, Value.str (Str.ofString "=12") 289, Value.str (Str.ofString "=13") 293,
          Value.str (Str.ofString "=14") 297, Value.str (Str.ofString "=15") 301, Value.str (Str.ofString "=16") 305, Value.str (Str.ofString "=17") 309,
          Value.str (Str.ofString "=18") 313, Value.str (Str.ofString "=19") 317, Value.str (Str.ofString "=1A") 321, Value.str (Str.ofString "=1B") 325,
          Value.str (Str.ofString "=1C") 329, Value.str (Str.ofString "=1D") 333, Value.str (Str.ofString "=1E") 337, Value.str (Str.ofString "=1F") 341,
          Value.str (Str.ofString "_") 1464, Value.str (Str.ofString "!") 1268, Value.str (Str.ofString "=22") 353, Value.str (Str.ofString "=23") 357,
          Value.str (Str.ofString "=24") 361, Value.str (Str.ofString "=25") 365, Value.str (Str.ofString "=26") 369, Value.str (Str.ofString "=27") 373,
          Value.str (Str.ofString "=28") 377, Value.str (Str.ofString "=29") 381, Value.str (Str.ofString "*") 1271, Value.str (Str.ofString "+") 1274,
          Value.str (Str.ofString "=2C") 393, Value.str (Str.ofString "-") 1265, Value.str (Str.ofString "=2E") 401, Value.str (Str.ofString "/") 1277,
          Value.str (Str.ofString "0") 1436, Value.str (Str.ofString "1") 1439, Value.str (Str.ofString "2") 1442, Value.str (Str.ofString "3") 1445,
          Value.str (Str.ofString "4") 1448, Value.str (Str.ofString "5") 1451, Value.str (Str.ofString "6") 1454, Value.str (Str.ofString "7") 1457,
          Value.str (Str.ofString "8") 1460, Value.str (Str.ofString "9") 1463, Value.str (Str.ofString "=3A") 449, Value.str (Str.ofString "=3B") 453,
          Value.str (Str.ofString "=3C") 457, Value.str (Str.ofString "=3D") 461, Value.str (Str.ofString "=3E") 465, Value.str (Str.ofString "=3F") 469,
          Value.str (Str.ofString "=40") 473, Value.str (Str.ofString "A") 1358, Value.str (Str.ofString "B") 1361, Value.str (Str.ofString "C") 1364,
          Value.str (Str.ofString "D") 1367, Value.str (Str.ofString "E") 1370, Value.str (Str.ofString "F") 1373, Value.str (Str.ofString "G") 1376,
          Value.str (Str.ofString "H") 1379, Value.str (Str.ofString "I") 1382, Value.str (Str.ofString "J") 1385, Value.str (Str.ofString "K") 1388,
          Value.str (Str.ofString "L") 1391, Value.str (Str.ofString "M") 1394, Value.str (Str.ofString "N") 1397, Value.str (Str.ofString "O") 1400,
          Value.str (Str.ofString "P") 1403, Value.str (Str.ofString "Q") 1406, Value.str (Str.ofString "R") 1409, Value.str (Str.ofString "S") 1412,
          Value.str (Str.ofString "T") 1415, Value.str (Str.ofString "U") 1418, Value.str (Str.ofString "V") 1421, Value.str (Str.ofString "W") 1424,
          Value.str (Str.ofString "X") 1427, Value.str (Str.ofString "Y") 1430, Value.str (Str.ofString "Z") 1433, Value.str (Str.ofString "=5B") 581,
          Value.str (Str.ofString "=5C") 585, Value.str (Str.ofString "=5D") 589, Value.str (Str.ofString "=5E") 593, Value.str (Str.ofString "=5F") 597,
          Value.str (Str.ofString "=60") 601, Value.str (Str.ofString "a") 1280, Value.str (Str.ofString "b") 1283, Value.str (Str.ofString "c") 1286,
          Value.str (Str.ofString "d") 1289, Value.str (Str.ofString "e") 1292, Value.str (Str.ofString "f") 1295, Value.str (Str.ofString "g") 1298,
          Value.str (Str.ofString "h") 1301, Value.str (Str.ofString "i") 1304, Value.str (Str.ofString "j") 1307, Value.str (Str.ofString "k") 1310,
          Value.str (Str.ofString "l") 1313, Value.str (Str.ofString "m") 1316, Value.str (Str.ofString "n") 1319, Value.str (Str.ofString "o") 1322,
          Value.str (Str.ofString "p") 1325, Value.str (Str.ofString "q") 1328, Value.str (Str.ofString "r") 1331, Value.str (Str.ofString "s") 1334,
          Value.str (Str.ofString "t") 1337, Value.str (Str.ofString "u") 1340, Value.str (Str.ofString "v") 1343, Value.str (Str.ofString "w") 1346,
          Value.str (Str.ofString "x") 1349, Value.str (Str.ofString "y") 1352, Value.str (Str.ofString "z") 1355, Value.str (Str.ofString "=7B") 709,
          Value.str (Str.ofString "=7C") 713, Value.str (Str.ofString "=7D") 717, Value.str (Str.ofString "=7E") 721, Value.str (Str.ofString "=7F") 725,
          Value.str (Str.ofString "=80") 729, Value.str (Str.ofString "=81") 733, Value.str (Str.ofString "=82") 737, Value.str (Str.ofString "=83") 741,
          Value.str (Str.ofString "=84") 745, Value.str (Str.ofString "=85") 749, Value.str (Str.ofString "=86") 753, Value.str (Str.ofString "=87") 757,
          Value.str (Str.ofString "=88") 761, Value.str (Str.ofString "=89") 765, Value.str (Str.ofString "=8A") 769, Value.str (Str.ofString "=8B") 773,
          Value.str (Str.ofString "=8C") 777, Value.str (Str.ofString "=8D") 781, Value.str (Str.ofString "=8E") 785, Value.str (Str.ofString "=8F") 789,
          Value.str (Str.ofString "=90") 793, Value.str (Str.ofString "=91") 797, Value.str (Str.ofString "=92") 801, Value.str (Str.ofString "=93") 805,
          Value.str (Str.ofString "=94") 809, Value.str (Str.ofString "=95") 813, Value.str (Str.ofString "=96") 817, Value.str (Str.ofString "=97") 821,
          Value.str (Str.ofString "=98") 825, Value.str (Str.ofString "=99") 829, Value.str (Str.ofString "=9A") 833, Value.str (Str.ofString "=9B") 837,
          Value.str (Str.ofString "=9C") 841, Value.str (Str.ofString "=9D") 845, Value.str (Str.ofString "=9E") 849, Value.str (Str.ofString "=9F") 853,
          Value.str (Str.ofString "=A0") 857, Value.str (Str.ofString "=A1") 861, Value.str (Str.ofString "=A2") 865, Value.str (Str.ofString "=A3") 869,
          Value.str (Str.ofString "=A4") 873, Value.str (Str.ofString "=A5") 877, Value.str (Str.ofString "=A6") 881, Value.str (Str.ofString "=A7") 885,
          Value.str (Str.ofString "=A8") 889, Value.str (Str.ofString "=A9") 893, Value.str (Str.ofString "=AA") 897, Value.str (Str.ofString "=AB") 901,
          Value.str (Str.ofString "=AC") 905, Value.str (Str.ofString "=AD") 909, Value.str (Str.ofString "=AE") 913, Value.str (Str.ofString "=AF") 917,
          Value.str (Str.ofString "=B0") 921, Value.str (Str.ofString "=B1") 925, Value.str (Str.ofString "=B2") 929, Value.str (Str.ofString "=B3") 933,
          Value.str (Str.ofString "=B4") 937, Value.str (Str.ofString "=B5") 941, Value.str (Str.ofString "=B6") 945, Value.str (Str.ofString "=B7") 949,
          Value.str (Str.ofString "=B8") 953, Value.str (Str.ofString "=B9") 957, Value.str (Str.ofString "=BA") 961, Value.str (Str.ofString "=BB") 965,
          Value.str (Str.ofString "=BC") 969, Value.str (Str.ofString "=BD") 973, Value.str (Str.ofString "=BE") 977, Value.str (Str.ofString "=BF") 981,
          Value.str (Str.ofString "=C0") 985, Value.str (Str.ofString "=C1") 989, Value.str (Str.ofString "=C2") 993, Value.str (Str.ofString "=C3") 997,
          Value.str (Str.ofString "=C4") 1001, Value.str (Str.ofString "=C5") 1005, Value.str (Str.ofString "=C6") 1009, Value.str (Str.ofString "=C7") 1013,
          Value.str (Str.ofString "=C8") 1017, Value.str (Str.ofString "=C9") 1021, Value.str (Str.ofString "=CA") 1025, Value.str (Str.ofString "=CB") 1029,
          Value.str (Str.ofString "=CC") 1033, Value.str (Str.ofString "=CD") 1037, Value.str (Str.ofString "=CE") 1041, Value.str (Str.ofString "=CF") 1045,
          Value.str (Str.ofString "=D0") 1049, Value.str (Str.ofString "=D1") 1053, Value.str (Str.ofString "=D2") 1057, Value.str (Str.ofString "=D3") 1061,
          Value.str (Str.ofString "=D4") 1065, Value.str (Str.ofString "=D5") 1069, Value.str (Str.ofString "=D6") 1073, Value.str (Str.ofString "=D7") 1077,
          Value.str (Str.ofString "=D8") 1081, Value.str (Str.ofString "=D9") 1085, Value.str (Str.ofString "=DA") 1089, Value.str (Str.ofString "=DB") 1093,
          Value.str (Str.ofString "=DC") 1097, Value.str (Str.ofString "=DD") 1101, Value.str (Str.ofString "=DE") 1105, Value.str (Str.ofString "=DF") 1109,
          Value.str (Str.ofString "=E0") 1113, Value.str (Str.ofString "=E1") 1117, Value.str (Str.ofString "=E2") 1121, Value.str (Str.ofString "=E3") 1125,
          Value.str (Str.ofString "=E4") 1129, Value.str (Str.ofString "=E5") 1133, Value.str (Str.ofString "=E6") 1137, Value.str (Str.ofString "=E7") 1141,
          Value.str (Str.ofString "=E8") 1145, Value.str (Str.ofString "=E9") 1149, Value.str (Str.ofString "=EA") 1153, Value.str (Str.ofString "=EB") 1157,
          Value.str (Str.ofString "=EC") 1161, Value.str (Str.ofString "=ED") 1165, Value.str (Str.ofString "=EE") 1169, Value.str (Str.ofString "=EF") 1173,
          Value.str (Str.ofString "=F0") 1177, Value.str (Str.ofString "=F1") 1181, Value.str (Str.ofString "=F2") 1185, Value.str (Str.ofString "=F3") 1189,
          Value.str (Str.ofString "=F4") 1193, Value.str (Str.ofString "=F5") 1197, Value.str (Str.ofString "=F6") 1201, Value.str (Str.ofString "=F7") 1205,
          Value.str (Str.ofString "=F8") 1209, Value.str (Str.ofString "=F9") 1213, Value.str (Str.ofString "=FA") 1217, Value.str (Str.ofString "=FB") 1221,
          Value.str (Str.ofString "=FC") 1225, Value.str (Str.ofString "=FD") 1229, Value.str (Str.ofString "=FE") 1233, Value.str (Str.ofString "=FF") 1237] }
noncomputable def topO38E (P : Params) : Obj :=
  { cls := Value.type "list",
    data :=
      Data.seq
        #[Value.str (Str.ofString "=00") 217, Value.str (Str.ofString "=01") 221, Value.str (Str.ofString "=02") 225, Value.str (Str.ofString "=03") 229,
          Value.str (Str.ofString "=04") 233, Value.str (Str.ofString "=05") 237, Value.str (Str.ofString "=06") 241, Value.str (Str.ofString "=07") 245,
          Value.str (Str.ofString "=08") 249, Value.str (Str.ofString "\t") 1752, Value.str (Str.ofString "=0A") 257, Value.str (Str.ofString "=0B") 261,
          Value.str (Str.ofString "=0C") 265, Value.str (Str.ofString "=0D") 269, Value.str (Str.ofString "=0E") 273, Value.str (Str.ofString "=0F") 277,
          Value.str (Str.ofString "=10") 281, Value.str (Str.ofString "=11") 285, Value.str (Str.ofString "=12") 289, Value.str (Str.ofString "=13") 293,
          Value.str (Str.ofString "=14") 297, Value.str (Str.ofString "=15") 301, Value.str (Str.ofString "=16") 305, Value.str (Str.ofString "=17") 309,
          Value.str (Str.ofString "=18") 313, Value.str (Str.ofString "=19") 317, Value.str (Str.ofString "=1A") 321, Value.str (Str.ofString "=1B") 325,
          Value.str (Str.ofString "=1C") 329, Value.str (Str.ofString "=1D") 333, Value.str (Str.ofString "=1E") 337, Value.str (Str.ofString "=1F") 341,
          Value.str (Str.ofString " ") 1470, Value.str (Str.ofString "!") 1473, Value.str (Str.ofString "\"") 1476, Value.str (Str.ofString "#") 1479,
          Value.str (Str.ofString "$") 1482, Value.str (Str.ofString "%") 1485, Value.str (Str.ofString "&") 1488, Value.str (Str.ofString "'") 1491,
          Value.str (Str.ofString "(") 1494, Value.str (Str.ofString ")") 1497, Value.str (Str.ofString "*") 1500, Value.str (Str.ofString "+") 1503,
          Value.str (Str.ofString ",") 1506, Value.str (Str.ofString "-") 1509, Value.str (Str.ofString ".") 1512, Value.str (Str.ofString "/") 1515,
          Value.str (Str.ofString "0") 1518, Value.str (Str.ofString "1") 1521, Value.str (Str.ofString "2") 1524, Value.str (Str.ofString "3") 1527,
          Value.str (Str.ofString "4") 1530, Value.str (Str.ofString "5") 1533, Value.str (Str.ofString "6") 1536, Value.str (Str.ofString "7") 1539,
          Value.str (Str.ofString "8") 1542, Value.str (Str.ofString "9") 1545, Value.str (Str.ofString ":") 1548, Value.str (Str.ofString ";") 1551,
          Value.str (Str.ofString "<") 1554, Value.str (Str.ofString "=3D") 461, Value.str (Str.ofString ">") 1557, Value.str (Str.ofString "?") 1560,
          Value.str (Str.ofString "@") 1563, Value.str (Str.ofString "A") 1566, Value.str (Str.ofString "B") 1569, Value.str (Str.ofString "C") 1572,
          Value.str (Str.ofString "D") 1575, Value.str (Str.ofString "E") 1578, Value.str (Str.ofString "F") 1581, Value.str (Str.ofString "G") 1584,
          Value.str (Str.ofString "H") 1587, Value.str (Str.ofString "I") 1590, Value.str (Str.ofString "J") 1593, Value.str (Str.ofString "K") 1596,
          Value.str (Str.ofString "L") 1599, Value.str (Str.ofString "M") 1602, Value.str (Str.ofString "N") 1605, Value.str (Str.ofString "O") 1608,
          Value.str (Str.ofString "P") 1611, Value.str (Str.ofString "Q") 1614, Value.str (Str.ofString "R") 1617, Value.str (Str.ofString "S") 1620,
          Value.str (Str.ofString "T") 1623, Value.str (Str.ofString "U") 1626, Value.str (Str.ofString "V") 1629, Value.str (Str.ofString "W") 1632,
          Value.str (Str.ofString "X") 1635, Value.str (Str.ofString "Y") 1638, Value.str (Str.ofString "Z") 1641, Value.str (Str.ofString "[") 1644,
          Value.str (Str.ofString "\\") 1647, Value.str (Str.ofString "]") 1650, Value.str (Str.ofString "^") 1653, Value.str (Str.ofString "_") 1656,
          Value.str (Str.ofString "`") 1659, Value.str (Str.ofString "a") 1662, Value.str (Str.ofString "b") 1665, Value.str (Str.ofString "c") 1668,
          Value.str (Str.ofString "d") 1671, Value.str (Str.ofString "e") 1674, Value.str (Str.ofString "f") 1677, Value.str (Str.ofString "g") 1680,
          Value.str (Str.ofString "h") 1683, Value.str (Str.ofString "i") 1686, Value.str (Str.ofString "j") 1689, Value.str (Str.ofString "k") 1692,
          Value.str (Str.ofString "l") 1695, Value.str (Str.ofString "m") 1698, Value.str (Str.ofString "n") 1701, Value.str (Str.ofString "o") 1704,
          Value.str (Str.ofString "p") 1707, Value.str (Str.ofString "q") 1710, Value.str (Str.ofString "r") 1713, Value.str (Str.ofString "s") 1716,
          Value.str (Str.ofString "t") 1719, Value.str (Str.ofString "u") 1722, Value.str (Str.ofString "v") 1725, Value.str (Str.ofString "w") 1728,
          Value.str (Str.ofString "x") 1731, Value.str (Str.ofString "y") 1734, Value.str (Str.ofString "z") 1737, Value.str (Str.ofString "{") 1740,
          Value.str (Str.ofString "|") 1743, Value.str (Str.ofString "}") 1746, Value.str (Str.ofString "~") 1749, Value.str (Str.ofString "=7F") 725,
          Value.str (Str.ofString "=80") 729, Value.str (Str.ofString "=81") 733, Value.str (Str.ofString "=82") 737, Value.str (Str.ofString "=83") 741,
          Value.str (Str.ofString "=84") 745, Value.str (Str.ofString "=85") 749, Value.str (Str.ofString "=86") 753, Value.str (Str.ofString "=87") 757,
          Value.str (Str.ofString "=88") 761, Value.str (Str.ofString "=89") 765, Value.str (Str.ofString "=8A") 769, Value.str (Str.ofString "=8B") 773,
          Value.str (Str.ofString "=8C") 777, Value.str (Str.ofString "=8D") 781, Value.str (Str.ofString "=8E") 785, Value.str (Str.ofString "=8F") 789,
          Value.str (Str.ofString "=90") 793, Value.str (Str.ofString "=91") 797, Value.str (Str.ofString "=92") 801, Value.str (Str.ofString "=93") 805,
          Value.str (Str.ofString "=94") 809, Value.str (Str.ofString "=95") 813, Value.str (Str.ofString "=96") 817, Value.str (Str.ofString "=97") 821,
          Value.str (Str.ofString "=98") 825, Value.str (Str.ofString "=99") 829, Value.str (Str.ofString "=9A") 833, Value.str (Str.ofString "=9B") 837,
          Value.str (Str.ofString "=9C") 841, Value.str (Str.ofString "=9D") 845, Value.str (Str.ofString "=9E") 849, Value.str (Str.ofString "=9F") 853,
          Value.str (Str.ofString "=A0") 857, Value.str (Str.ofString "=A1") 861, Value.str (Str.ofString "=A2") 865, Value.str (Str.ofString "=A3") 869,
          Value.str (Str.ofString "=A4") 873, Value.str (Str.ofString "=A5") 877, Value.str (Str.ofString "=A6") 881, Value.str (Str.ofString "=A7") 885,
          Value.str (Str.ofString "=A8") 889, Value.str (Str.ofString "=A9") 893, Value.str (Str.ofString "=AA") 897, Value.str (Str.ofString "=AB") 901,
          Value.str (Str.ofString "=AC") 905, Value.str (Str.ofString "=AD") 909, Value.str (Str.ofString "=AE") 913, Value.str (Str.ofString "=AF") 917,
          Value.str (Str.ofString "=B0") 921, Value.str (Str.ofString "=B1") 925, Value.str (Str.ofString "=B2") 929, Value.str (Str.ofString "=B3") 933,
          Value.str (Str.ofString "=B4") 937, Value.str (Str.ofString "=B5") 941, Value.str (Str.ofString "=B6") 945, Value.str (Str.ofString "=B7") 949,
          Value.str (Str.ofString "=B8") 953, Value.str (Str.ofString "=B9") 957, Value.str (Str.ofString "=BA") 961, Value.str (Str.ofString "=BB") 965,
          Value.str (Str.ofString "=BC") 969, Value.str (Str.ofString "=BD") 973, Value.str (Str.ofString "=BE") 977, Value.str (Str.ofString "=BF") 981,
          Value.str (Str.ofString "=C0") 985, Value.str (Str.ofString "=C1") 989, Value.str (Str.ofString "=C2") 993, Value.str (Str.ofString "=C3") 997,
          Value.str (Str.ofString "=C4") 1001, Value.str (Str.ofString "=C5") 1005, Value.str (Str.ofString "=C6") 1009, Value.str (Str.ofString "=C7") 1013,
          Value.str (Str.ofString "=C8") 1017, Value.str (Str.ofString "=C9") 1021, Value.str (Str.ofString "=CA") 1025, Value.str (Str.ofString "=CB") 1029,
          Value.str (Str.ofString "=CC") 1033, Value.str (Str.ofString "=CD") 1037, Value.str (Str.ofString "=CE") 1041, Value.str (Str.ofString "=CF") 1045,
          Value.str (Str.ofString "=D0") 1049, Value.str (Str.ofString "=D1") 1053, Value.str (Str.ofString "=D2") 1057, Value.str (Str.ofString "=D3") 1061,
          Value.str (Str.ofString "=D4") 1065, Value.str (Str.ofString "=D5") 1069, Value.str (Str.ofString "=D6") 1073, Value.str (Str.ofString "=D7") 1077,
          Value.str (Str.ofString "=D8") 1081, Value.str (Str.ofString "=D9") 1085, Value.str (Str.ofString "=DA") 1089, Value.str (Str.ofString "=DB") 1093,
          Value.str (Str.ofString "=DC") 1097, Value.str (Str.ofString "=DD") 1101, Value.str (Str.ofString "=DE") 1105, Value.str (Str.ofString "=DF") 1109,
          Value.str (Str.ofString "=E0") 1113, Value.str (Str.ofString "=E1") 1117, Value.str (Str.ofString "=E2") 1121, Value.str (Str.ofString "=E3") 1125,
          Value.str (Str.ofString "=E4") 1129, Value.str (Str.ofString "=E5") 1133, Value.str (Str.ofString "=E6") 1137, Value.str (Str.ofString "=E7") 1141,
          Value.str (Str.ofString "=E8") 1145, Value.str (Str.ofString "=E9") 1149, Value.str (Str.ofString "=EA") 1153, Value.str (Str.ofString "=EB") 1157,
          Value.str (Str.ofString "=EC") 1161, Value.str (Str.ofString "=ED") 1165, Value.str (Str.ofString "=EE") 1169, Value.str (Str.ofString "=EF") 1173,
          Value.str (Str.ofString "=F0") 1177, Value.str (Str.ofString "=F1") 1181, Value.str (Str.ofString "=F2") 1185, Value.str (Str.ofString "=F3") 1189,
          Value.str (Str.ofString "=F4") 1193, Value.str (Str.ofString "=F5") 1197, Value.str (Str.ofString "=F6") 1201, Value.str (Str.ofString "=F7") 1205,
          Value.str (Str.ofString "=F8") 1209, Value.str (Str.ofString "=F9") 1213, Value.str (Str.ofString "=FA") 1217, Value.str (Str.ofString "=FB") 1221,
          Value.str (Str.ofString "=FC") 1225, Value.str (Str.ofString "=FD") 1229, Value.str (Str.ofString "=FE") 1233, Value.str (Str.ofString "=FF") 1237] }
noncomputable def topO42E (P : Params) : Obj :=
  { cls := Value.type "bytes_iterator", data := Data.fields #[Value.none, Value.int 95 0] }
noncomputable def topO43E (P : Params) : Obj :=
  { cls := Value.type "tuple", data := Data.seq #[] }
noncomputable def topO44E (P : Params) : Obj :=
  { cls := Value.type "StopIteration", data := Data.fields #[Value.ref 43, Value.none, Value.none, Value.none, Value.bool false, Value.none] }
noncomputable def topTreeE (P : Params) : BT :=
  (.node (boot_o_0 P) (.node (boot_o_1 P) (.node (topO3E P) (.node (boot_o_7 P) (.node (topO15A P) (.node (topO31B P) .nil .nil) .nil) (.node (topO23A P) (.node (topO39D P) .nil .nil) .nil)) (.node (topO11I P) (.node (topO19A P) (.node (topO35C P) .nil .nil) .nil) (.node (topO27A P) (.node (topO43E P) .nil .nil) .nil))) (.node (boot_o_5 P) (.node (boot_o_9 P) (.node (topO17A P) (.node (topO33B P) .nil .nil) .nil) (.node (topO25A P) (.node (topO41D P) .nil .nil) .nil)) (.node (topO13I P) (.node (topO21A P) (.node (topO37C P) .nil .nil) .nil) (.node (topO29B P) .nil .nil)))) (.node (boot_o_2 P) (.node (boot_o_4 P) (.node (boot_o_8 P) (.node (topO16A P) (.node (topO32B P) .nil .nil) .nil) (.node (topO24A P) (.node (topO40D P) .nil .nil) .nil)) (.node (topO12A P) (.node (topO20A P) (.node (topO36E P) .nil .nil) .nil) (.node (topO28A P) (.node (topO44E P) .nil .nil) .nil))) (.node (boot_o_6 P) (.node (boot_o_10 P) (.node (topO18A P) (.node (topO34B P) .nil .nil) .nil) (.node (topO26A P) (.node (topO42E P) .nil .nil) .nil)) (.node (topO14I P) (.node (topO22A P) (.node (topO38E P) .nil .nil) .nil) (.node (topO30B P) .nil .nil)))))
noncomputable def topStE (w : World) (os : OsState) : SharedT := ⟨topTreeE w.params, 45, life0, #[], drawn0, 1753, os⟩
noncomputable def topO3F (P : Params) : Obj :=
  { cls := Value.type "dict",
    data :=
      Data.dict
        #[{ hash := PyData.keyHash P (Str.ofString "__name__"), key := Value.str (Str.ofString "__name__") 165,
            val := Value.str (Str.ofString "law_rs0042_01") 1788 },
          { hash := PyData.keyHash P (Str.ofString "__doc__"), key := Value.str (Str.ofString "__doc__") 166, val := Value.none },
          { hash := PyData.keyHash P (Str.ofString "__package__"), key := Value.str (Str.ofString "__package__") 167, val := Value.none },
          { hash := PyData.keyHash P (Str.ofString "__loader__"), key := Value.str (Str.ofString "__loader__") 168,
            val := Value.builtin "__main__.__loader__#opaque" },
          { hash := PyData.keyHash P (Str.ofString "__spec__"), key := Value.str (Str.ofString "__spec__") 169, val := Value.none },
          { hash := PyData.keyHash P (Str.ofString "__annotations__"), key := Value.str (Str.ofString "__annotations__") 170, val := Value.ref 6 },
          { hash := PyData.keyHash P (Str.ofString "__builtins__"), key := Value.str (Str.ofString "__builtins__") 171, val := Value.ref 4 },
          { hash := PyData.keyHash P (Str.ofString "__file__"), key := Value.str (Str.ofString "__file__") 173,
            val := Value.str (Str.ofString "/claim/cut.py") 172 },
          { hash := PyData.keyHash P (Str.ofString "__cached__"), key := Value.str (Str.ofString "__cached__") 174, val := Value.none },
          { hash := PyData.keyHash P (Str.ofString "add_callers"), key := Value.str (Str.ofString "add_callers") 199, val := Value.ref 21 },
          { hash := PyData.keyHash P (Str.ofString "count_calls"), key := Value.str (Str.ofString "count_calls") 208, val := Value.ref 28 },
          { hash := PyData.keyHash P (Str.ofString "NL"), key := Value.str (Str.ofString "NL") 210, val := Value.str (Str.ofString "\n") 209 },
          { hash := PyData.keyHash P (Str.ofString "_QUOPRI_MAP"), key := Value.str (Str.ofString "_QUOPRI_MAP") 1238, val := Value.ref 31 },
          { hash := PyData.keyHash P (Str.ofString "_QUOPRI_HEADER_MAP"), key := Value.str (Str.ofString "_QUOPRI_HEADER_MAP") 1239, val := Value.ref 36 },
          { hash := PyData.keyHash P (Str.ofString "_QUOPRI_BODY_MAP"), key := Value.str (Str.ofString "_QUOPRI_BODY_MAP") 1240, val := Value.ref 38 },
          { hash := PyData.keyHash P (Str.ofString "ascii_lowercase"), key := Value.str (Str.ofString "ascii_lowercase") 1242,
            val := Value.str (Str.ofString "abcdefghijklmnopqrstuvwxyz") 1241 },
          { hash := PyData.keyHash P (Str.ofString "ascii_uppercase"), key := Value.str (Str.ofString "ascii_uppercase") 1244,
            val := Value.str (Str.ofString "ABCDEFGHIJKLMNOPQRSTUVWXYZ") 1243 },
          { hash := PyData.keyHash P (Str.ofString "ascii_letters"), key := Value.str (Str.ofString "ascii_letters") 1246,
            val := Value.str (Str.ofString "abcdefghijklmnopqrstuvwxyzABCDEFGHIJKLMNOPQRSTUVWXYZ") 1245 },
          { hash := PyData.keyHash P (Str.ofString "digits"), key := Value.str (Str.ofString "digits") 1248, val := Value.str (Str.ofString "0123456789") 1247 },
          { hash := PyData.keyHash P (Str.ofString "hexdigits"), key := Value.str (Str.ofString "hexdigits") 1253,
            val := Value.str (Str.ofString "0123456789abcdefABCDEF") 1252 },
          { hash := PyData.keyHash P (Str.ofString "unquote"), key := Value.str (Str.ofString "unquote") 1759, val := Value.ref 51 },
          { hash := PyData.keyHash P (Str.ofString "quote"), key := Value.str (Str.ofString "quote") 1766, val := Value.ref 58 },
          { hash := PyData.keyHash P (Str.ofString "_QUOPRI_BODY_ENCODE_MAP"), key := Value.str (Str.ofString "_QUOPRI_BODY_ENCODE_MAP") 1767,
            val := Value.ref 60 },
          { hash := PyData.keyHash P (Str.ofString "decode"), key := Value.str (Str.ofString "decode") 1787, val := Value.ref 71 },
          { hash := PyData.keyHash P (Str.ofString "_law_line"), key := Value.str (Str.ofString "_law_line") 1795, val := Value.ref 76 },
          { hash := PyData.keyHash P (Str.ofString "law"), key := Value.str (Str.ofString "law") 1801, val := Value.ref 81 }]
        28 }
noncomputable def topO12F (P : Params) : Obj :=
  { cls := Value.none,
    data :=
      Data.fields
        #[Value.int 2 0, Value.int 0 0, Value.ref 20, Value.int 15 0, Value.int 0 0, Value.ref 27, Value.int 35 0, Value.int 0 0, Value.ref 50, Value.int 37 0,
          Value.int 0 0, Value.ref 57, Value.int 43 0, Value.int 0 0, Value.ref 70, Value.int 74 0, Value.int 0 0, Value.ref 75, Value.int 78 0, Value.int 0 0,
          Value.ref 80] }
noncomputable def topO45F (P : Params) : Obj :=
  { cls := Value.type "tuple", data := Data.seq #[] }
noncomputable def topO46F (P : Params) : Obj :=
  { cls := Value.none, data := Data.fields #[] }
noncomputable def topO47F (P : Params) : Obj :=
  { cls := Value.type "tuple", data := Data.seq #[Value.str (Str.ofString "s") 1756] }
noncomputable def topO48F (P : Params) : Obj :=
  { cls := Value.type "tuple", data := Data.seq #[] }
noncomputable def topO49F (P : Params) : Obj :=
  { cls := Value.none, data := Data.func { name := Str.ofString "unquote", qualname := Str.ofString "unquote", params := fPar 16, body := FuncBody.stmts (fBody 16), scope := fScope 16, globals := 0, closure := [], defaults := Value.none, kwdefaults := Value.none } }
noncomputable def topO50F (P : Params) : Obj :=
  { cls := Value.type "code",
    data :=
      Data.fields
        #[Value.str (Str.ofString "unquote") 1753, Value.str (Str.ofString "unquote") 1754, Value.str (Str.ofString "/claim/cut.py") 1755, Value.int 35 0,
          Value.int 1 0, Value.int 0 0, Value.int 0 0, Value.int 3 0, Value.ref 45, Value.bool true, Value.int 181 0, Value.ref 46, Value.none, Value.ref 47,
          Value.ref 48, Value.ref 49, Value.int 1757 0, Value.int 35 0, Value.str (Str.ofString "/claim/cut.py") 1758] }
noncomputable def topO51F (P : Params) : Obj :=
  { cls := Value.type "function", data := Data.func { name := Str.ofString "unquote", qualname := Str.ofString "unquote", params := fPar 16, body := FuncBody.stmts (fBody 16), scope := fScope 16, globals := 3, closure := [], defaults := Value.none, kwdefaults := Value.none, pyModule := Value.str (Str.ofString "cpy313.email.quoprimime") 1254, code := Value.ref 50 } }
noncomputable def topO52F (P : Params) : Obj :=
  { cls := Value.type "tuple", data := Data.seq #[] }
noncomputable def topO53F (P : Params) : Obj :=
  { cls := Value.none, data := Data.fields #[] }
noncomputable def topO54F (P : Params) : Obj :=
  { cls := Value.type "tuple", data := Data.seq #[Value.str (Str.ofString "c") 1763] }
noncomputable def topO55F (P : Params) : Obj :=
  { cls := Value.type "tuple", data := Data.seq #[] }
noncomputable def topO56F (P : Params) : Obj :=
  { cls := Value.none, data := Data.func { name := Str.ofString "quote", qualname := Str.ofString "quote", params := fPar 17, body := FuncBody.stmts (fBody 17), scope := fScope 17, globals := 0, closure := [], defaults := Value.none, kwdefaults := Value.none } }
noncomputable def topO57F (P : Params) : Obj :=
  { cls := Value.type "code",
    data :=
      Data.fields
        #[Value.str (Str.ofString "quote") 1760, Value.str (Str.ofString "quote") 1761, Value.str (Str.ofString "/claim/cut.py") 1762, Value.int 37 0,
          Value.int 1 0, Value.int 0 0, Value.int 0 0, Value.int 3 0, Value.ref 52, Value.bool true, Value.int 181 0, Value.ref 53, Value.none, Value.ref 54,
          Value.ref 55, Value.ref 56, Value.int 1764 0, Value.int 37 0, Value.str (Str.ofString "/claim/cut.py") 1765] }
noncomputable def topO58F (P : Params) : Obj :=
  { cls := Value.type "function", data := Data.func { name := Str.ofString "quote", qualname := Str.ofString "quote", params := fPar 17, body := FuncBody.stmts (fBody 17), scope := fScope 17, globals := 3, closure := [], defaults := Value.none, kwdefaults := Value.none, pyModule := Value.str (Str.ofString "cpy313.email.quoprimime") 1254, code := Value.ref 57 } }
noncomputable def topO59F (P : Params) : Obj :=
  { cls := Value.type "slice", data := Data.fields #[Value.none, Value.none, Value.none] }
noncomputable def topO60F (P : Params) : Obj :=
  { cls := Value.type "list",
    data :=
      Data.seq
        #[Value.str (Str.ofString "=00") 217, Value.str (Str.ofString "=01") 221, Value.str (Str.ofString "=02") 225, Value.str (Str.ofString "=03") 229,
          Value.str (Str.ofString "=04") 233, Value.str (Str.ofString "=05") 237, Value.str (Str.ofString "=06") 241, Value.str (Str.ofString "=07") 245,
          Value.str (Str.ofString "=08") 249, Value.str (Str.ofString "\t") 1752, Value.str (Str.ofString "\n") 1774, Value.str (Str.ofString "=0B") 261,
          Value.str (Str.ofString "=0C") 265, Value.str (Str.ofString "\x0d") 1771, Value.str (Str.ofString "=0E") 273, Value.str (Str.ofString "=0F") 277,
          Value.str (Str.ofString "=10") 281, Value.str (Str.ofString "=11") 285, Value.str (Str.ofString "=12") 289, Value.str (Str.ofString "=13") 293,
          Value.str (Str.ofString "=14") 297, Value.str (Str.ofString "=15") 301, Value.str (Str.ofString "=16") 305, Value.str (Str.ofString "=17") 309,
          Value.str (Str.ofString "=18") 313, Value.str (Str.ofString "=19") 317, Value.str (Str.ofString "=1A") 321, Value.str (Str.ofString "=1B") 325,
          Value.str (Str.ofString "=1C") 329, Value.str (Str.ofString "=1D") 333, Value.str (Str.ofString "=1E") 337, Value.str (Str.ofString "=1F") 341,
          Value.str (Str.ofString " ") 1470, Value.str (Str.ofString "!") 1473, Value.str (Str.ofString "\"") 1476, Value.str (Str.ofString "#") 1479,
          Value.str (Str.ofString "$") 1482, Value.str (Str.ofString "%") 1485, Value.str (Str.ofString "&") 1488, Value.str (Str.ofString "'") 1491,
          Value.str (Str.ofString "(") 1494, Value.str (Str.ofString ")") 1497, Value.str (Str.ofString "*") 1500, Value.str (Str.ofString "+") 1503,
          Value.str (Str.ofString ",") 1506, Value.str (Str.ofString "-") 1509, Value.str (Str.ofString ".") 1512, Value.str (Str.ofString "/") 1515,
          Value.str (Str.ofString "0") 1518, Value.str (Str.ofString "1") 1521, Value.str (Str.ofString "2") 1524, Value.str (Str.ofString "3") 1527,
          Value.str (Str.ofString "4") 1530, Value.str (Str.ofString "5") 1533, Value.str (Str.ofString "6") 1536, Value.str (Str.ofString "7") 1539,
          Value.str (Str.ofString "8") 1542, Value.str (Str.ofString "9") 1545, Value.str (Str.ofString ":") 1548, Value.str (Str.ofString ";") 1551,
          Value.str (Str.ofString "<") 1554, Value.str (Str.ofString "=3D") 461, Value.str (Str.ofString ">") 1557, Value.str (Str.ofString "?") 1560,
          Value.str (Str.ofString "@") 1563, Value.str (Str.ofString "A") 1566, Value.str (Str.ofString "B") 1569, Value.str (Str.ofString "C") 1572,
          Value.str (Str.ofString "D") 1575, Value.str (Str.ofString "E") 1578, Value.str (Str.ofString "F") 1581, Value.str (Str.ofString "G") 1584,
          Value.str (Str.ofString "H") 1587, Value.str (Str.ofString "I") 1590, Value.str (Str.ofString "J") 1593, Value.str (Str.ofString "K") 1596,
          Value.str (Str.ofString "L") 1599, Value.str (Str.ofString "M") 1602, Value.str (Str.ofString "N") 1605, Value.str (Str.ofString "O") 1608,
          Value.str (Str.ofString "P") 1611, Value.str (Str.ofString "Q") 1614, Value.str (Str.ofString "R") 1617, Value.str (Str.ofString "S") 1620,
          Value.str (Str.ofString "T") 1623, Value.str (Str.ofString "U") 1626, Value.str (Str.ofString "V") 1629, Value.str (Str.ofString "W") 1632,
          Value.str (Str.ofString "X") 1635, Value.str (Str.ofString "Y") 1638, Value.str (Str.ofString "Z") 1641, Value.str (Str.ofString "[") 1644,
          Value.str (Str.ofString "\\") 1647, Value.str (Str.ofString "]") 1650, Value.str (Str.ofString "^") 1653, Value.str (Str.ofString "_") 1656,
          Value.str (Str.ofString "`") 1659, Value.str (Str.ofString "a") 1662, Value.str (Str.ofString "b") 1665, Value.str (Str.ofString "c") 1668,
          Value.str (Str.ofString "d") 1671, Value.str (Str.ofString "e") 1674, Value.str (Str.ofString "f") 1677, Value.str (Str.ofString "g") 1680,
          Value.str (Str.ofString "h") 1683, Value.str (Str.ofString "i") 1686, Value.str (Str.ofString "j") 1689, Value.str (Str.ofString "k") 1692,
          Value.str (Str.ofString "l") 1695, Value.str (Str.ofString "m") 1698, Value.str (Str.ofString "n") 1701, Value.str (Str.ofString "o") 1704,
          Value.str (Str.ofString "p") 1707, Value.str (Str.ofString "q") 1710, Value.str (Str.ofString "r") 1713, Value.str (Str.ofString "s") 1716,
          Value.str (Str.ofString "t") 1719, Value.str (Str.ofString "u") 1722, Value.str (Str.ofString "v") 1725, Value.str (Str.ofString "w") 1728,
          Value.str (Str.ofString "x") 1731, Value.str (Str.ofString "y") 1734, Value.str (Str.ofString "z") 1737, Value.str (Str.ofString "{") 1740,
          Value.str (Str.ofString "|") 1743, Value.str (Str.ofString "}") 1746, Value.str (Str.ofString "~") 1749, Value.str (Str.ofString "=7F") 725,
          Value.str (Str.ofString "=80") 729, Value.str (Str.ofString "=81") 733, Value.str (Str.ofString "=82") 737, Value.str (Str.ofString "=83") 741,
          Value.str (Str.ofString "=84") 745, Value.str (Str.ofString "=85") 749, Value.str (Str.ofString "=86") 753, Value.str (Str.ofString "=87") 757,
          Value.str (Str.ofString "=88") 761, Value.str (Str.ofString "=89") 765, Value.str (Str.ofString "=8A") 769, Value.str (Str.ofString "=8B") 773,
          Value.str (Str.ofString "=8C") 777, Value.str (Str.ofString "=8D") 781, Value.str (Str.ofString "=8E") 785, Value.str (Str.ofString "=8F") 789,
          Value.str (Str.ofString "=90") 793, Value.str (Str.ofString "=91") 797, Value.str (Str.ofString "=92") 801, Value.str (Str.ofString "=93") 805,
          Value.str (Str.ofString "=94") 809, Value.str (Str.ofString "=95") 813, Value.str (Str.ofString "=96") 817, Value.str (Str.ofString "=97") 821,
          Value.str (Str.ofString "=98") 825, Value.str (Str.ofString "=99") 829, Value.str (Str.ofString "=9A") 833, Value.str (Str.ofString "=9B") 837,
          Value.str (Str.ofString "=9C") 841, Value.str (Str.ofString "=9D") 845, Value.str (Str.ofString "=9E") 849, Value.str (Str.ofString "=9F") 853,
          Value.str (Str.ofString "=A0") 857, Value.str (Str.ofString "=A1") 861, Value.str (Str.ofString "=A2") 865, Value.str (Str.ofString "=A3") 869,
          Value.str (Str.ofString "=A4") 873, Value.str (Str.ofString "=A5") 877, Value.str (Str.ofString "=A6") 881, Value.str (Str.ofString "=A7") 885,
          Value.str (Str.ofString "=A8") 889, Value.str (Str.ofString "=A9") 893, Value.str (Str.ofString "=AA") 897, Value.str (Str.ofString "=AB") 901,
          Value.str (Str.ofString "=AC") 905, Value.str (Str.ofString "=AD") 909, Value.str (Str.ofString "=AE") 913, Value.str (Str.ofString "=AF") 917,
          Value.str (Str.ofString "=B0") 921, Value.str (Str.ofString "=B1") 925, Value.str (Str.ofString "=B2") 929, Value.str (Str.ofString "=B3") 933,
          Value.str (Str.ofString "=B4") 937, Value.str (Str.ofString "=B5") 941, Value.str (Str.ofString "=B6") 945, Value.str (Str.ofString "=B7") 949,
          Value.str (Str.ofString "=B8") 953, Value.str (Str.ofString "=B9") 957, Value.str (Str.ofString "=BA") 961, Value.str (Str.ofString "=BB") 965,
          Value.str (Str.ofString "=BC") 969, Value.str (Str.ofString "=BD") 973, Value.str (Str.ofString "=BE") 977, Value.str (Str.ofString "=BF") 981,
          Value.str (Str.ofString "=C0") 985, Value.str (Str.ofString "=C1") 989, Value.str (Str.ofString "=C2") 993, Value.str (Str.ofString "=C3") 997,
          Value.str (Str.ofString "=C4") 1001, Value.str (Str.ofString "=C5") 1005, Value.str (Str.ofString "=C6") 1009, Value.str (Str.ofString "=C7") 1013,
          Value.str (Str.ofString "=C8") 1017, Value.str (Str.ofString "=C9") 1021, Value.str (Str.ofString "=CA") 1025, Value.str (Str.ofString "=CB") 1029,
          Value.str (Str.ofString "=CC") 1033, Value.str (Str.ofString "=CD") 1037, Value.str (Str.ofString "=CE") 1041, Value.str (Str.ofString "=CF") 1045,
          Value.str (Str.ofString "=D0") 1049, Value.str (Str.ofString "=D1") 1053, Value.str (Str.ofString "=D2") 1057, Value.str (Str.ofString "=D3") 1061,
          Value.str (Str.ofString "=D4") 1065, Value.str (Str.ofString "=D5") 1069, Value.str (Str.ofString "=D6") 1073, Value.str (Str.ofString "=D7") 1077,
          Value.str (Str.ofString "=D8") 1081, Value.str (Str.ofString "=D9") 1085, Value.str (Str.ofString "=DA") 1089, Value.str (Str.ofString "=DB") 1093,
          Value.str (Str.ofString "=DC") 1097, Value.str (Str.ofString "=DD") 1101, Value.str (Str.ofString "=DE") 1105, Value.str (Str.ofString "=DF") 1109,
          Value.str (Str.ofString "=E0") 1113, Value.str (Str.ofString "=E1") 1117, Value.str (Str.ofString "=E2") 1121, Value.str (Str.ofString "=E3") 1125,
          Value.str (Str.ofString "=E4") 1129, Value.str (Str.ofString "=E5") 1133, Value.str (Str.ofString "=E6") 1137, Value.str (Str.ofString "=E7") 1141,
          Value.str (Str.ofString "=E8") 1145, Value.str (Str.ofString "=E9") 1149, Value.str (Str.ofString "=EA") 1153, Value.str (Str.ofString "=EB") 1157,
          Value.str (Str.ofString "=EC") 1161, Value.str (Str.ofString "=ED") 1165, Value.str (Str.ofString "=EE") 1169, Value.str (Str.ofString "=EF") 1173,
          Value.str (Str.ofString "=F0") 1177, Value.str (Str.ofString "=F1") 1181, Value.str (Str.ofString "=F2") 1185, Value.str (Str.ofString "=F3") 1189,
          Value.str (Str.ofString "=F4") 1193, Value.str (Str.ofString "=F5") 1197, Value.str (Str.ofString "=F6") 1201, Value.str (Str.ofString "=F7") 1205,
          Value.str (Str.ofString "=F8") 1209, Value.str (Str.ofString "=F9") 1213, Value.str (Str.ofString "=FA") 1217, Value.str (Str.ofString "=FB") 1221,
          Value.str (Str.ofString "=FC") 1225, Value.str (Str.ofString "=FD") 1229, Value.str (Str.ofString "=FE") 1233, Value.str (Str.ofString "=FF") 1237] }
noncomputable def topO61F (P : Params) : Obj :=
  { cls := Value.type "bytes_iterator", data := Data.fields #[Value.none, Value.int 2 0] }
noncomputable def topO62F (P : Params) : Obj :=
  { cls := Value.type "tuple", data := Data.seq #[] }
noncomputable def topO63F (P : Params) : Obj :=
  { cls := Value.type "StopIteration", data := Data.fields #[Value.ref 62, Value.none, Value.none, Value.none, Value.bool false, Value.none] }
noncomputable def topO64F (P : Params) : Obj :=
  { cls := Value.type "tuple", data := Data.seq #[Value.str (Str.ofString "\n") 209] }
noncomputable def topO65F (P : Params) : Obj :=
  { cls := Value.type "tuple", data := Data.seq #[] }
noncomputable def topO66F (P : Params) : Obj :=
  { cls := Value.none, data := Data.fields #[] }
noncomputable def topO67F (P : Params) : Obj :=
  { cls := Value.type "tuple",
    data :=
      Data.seq
        #[Value.str (Str.ofString "encoded") 1778, Value.str (Str.ofString "eol") 1779, Value.str (Str.ofString "decoded") 1780,
          Value.str (Str.ofString "line") 1781, Value.str (Str.ofString "i") 1782, Value.str (Str.ofString "n") 1783, Value.str (Str.ofString "c") 1784] }
noncomputable def topO68F (P : Params) : Obj :=
  { cls := Value.type "tuple", data := Data.seq #[] }
noncomputable def topO69F (P : Params) : Obj :=
  { cls := Value.none, data := Data.func { name := Str.ofString "decode", qualname := Str.ofString "decode", params := fPar 21, body := FuncBody.stmts (fBody 21), scope := fScope 21, globals := 0, closure := [], defaults := Value.none, kwdefaults := Value.none } }
noncomputable def topO70F (P : Params) : Obj :=
  { cls := Value.type "code",
    data :=
      Data.fields
        #[Value.str (Str.ofString "decode") 1775, Value.str (Str.ofString "decode") 1776, Value.str (Str.ofString "/claim/cut.py") 1777, Value.int 43 0,
          Value.int 2 0, Value.int 0 0, Value.int 0 0, Value.int 3 0, Value.ref 65, Value.bool true, Value.int 181 0, Value.ref 66, Value.none, Value.ref 67,
          Value.ref 68, Value.ref 69, Value.int 1785 0, Value.int 43 0, Value.str (Str.ofString "/claim/cut.py") 1786] }
noncomputable def topO71F (P : Params) : Obj :=
  { cls := Value.type "function", data := Data.func { name := Str.ofString "decode", qualname := Str.ofString "decode", params := fPar 21, body := FuncBody.stmts (fBody 21), scope := fScope 21, globals := 3, closure := [], defaults := Value.ref 64, kwdefaults := Value.none, pyModule := Value.str (Str.ofString "cpy313.email.quoprimime") 1254, code := Value.ref 70 } }
noncomputable def topO72F (P : Params) : Obj :=
  { cls := Value.type "tuple", data := Data.seq #[] }
noncomputable def topO73F (P : Params) : Obj :=
  { cls := Value.none, data := Data.fields #[] }
noncomputable def topO74F (P : Params) : Obj :=
  { cls := Value.none, data := Data.func { name := Str.ofString "_law_line", qualname := Str.ofString "_law_line", params := fPar 23, body := FuncBody.stmts (fBody 23), scope := fScope 23, globals := 0, closure := [], defaults := Value.none, kwdefaults := Value.none } }
noncomputable def topO75F (P : Params) : Obj :=
  { cls := Value.type "code",
    data :=
      Data.fields
        #[Value.str (Str.ofString "_law_line") 1790, Value.str (Str.ofString "_law_line") 1791, Value.str (Str.ofString "/claim/cut.py") 1792, Value.int 74 0,
          Value.int 4 0, Value.int 0 0, Value.int 0 0, Value.int 3 0, Value.ref 72, Value.bool true, Value.int 181 0, Value.ref 73, Value.none, Value.none,
          Value.none, Value.ref 74, Value.int 1793 0, Value.int 74 0, Value.str (Str.ofString "/claim/cut.py") 1794] }
noncomputable def topO76F (P : Params) : Obj :=
  { cls := Value.type "function", data := Data.func { name := Str.ofString "_law_line", qualname := Str.ofString "_law_line", params := fPar 23, body := FuncBody.stmts (fBody 23), scope := fScope 23, globals := 3, closure := [], defaults := Value.none, kwdefaults := Value.none, pyModule := Value.str (Str.ofString "law_rs0042_01") 1788, code := Value.ref 75 } }
noncomputable def topO77F (P : Params) : Obj :=
  { cls := Value.type "tuple", data := Data.seq #[] }
noncomputable def topO78F (P : Params) : Obj :=
  { cls := Value.none, data := Data.fields #[] }
noncomputable def topO79F (P : Params) : Obj :=
  { cls := Value.none, data := Data.func { name := Str.ofString "law", qualname := Str.ofString "law", params := fPar 24, body := FuncBody.stmts (fBody 24), scope := fScope 24, globals := 0, closure := [], defaults := Value.none, kwdefaults := Value.none } }
noncomputable def topO80F (P : Params) : Obj :=
  { cls := Value.type "code",
    data :=
      Data.fields
        #[Value.str (Str.ofString "law") 1796, Value.str (Str.ofString "law") 1797, Value.str (Str.ofString "/claim/cut.py") 1798, Value.int 78 0, Value.int 1 0,
          Value.int 0 0, Value.int 0 0, Value.int 3 0, Value.ref 77, Value.bool true, Value.int 181 0, Value.ref 78, Value.none, Value.none, Value.none,
          Value.ref 79, Value.int 1799 0, Value.int 78 0, Value.str (Str.ofString "/claim/cut.py") 1800] }
noncomputable def topO81F (P : Params) : Obj :=
  { cls := Value.type "function", data := Data.func { name := Str.ofString "law", qualname := Str.ofString "law", params := fPar 24, body := FuncBody.stmts (fBody 24), scope := fScope 24, globals := 3, closure := [], defaults := Value.none, kwdefaults := Value.none, pyModule := Value.str (Str.ofString "law_rs0042_01") 1788, code := Value.ref 80 } }
noncomputable def topTreeF (P : Params) : BT :=
  (.node (boot_o_0 P) (.node (boot_o_1 P) (.node (topO3F P) (.node (boot_o_7 P) (.node (topO15A P) (.node (topO31B P) (.node (topO63F P) .nil .nil) .nil) (.node (topO47F P) (.node (topO79F P) .nil .nil) .nil)) (.node (topO23A P) (.node (topO39D P) (.node (topO71F P) .nil .nil) .nil) (.node (topO55F P) .nil .nil))) (.node (topO11I P) (.node (topO19A P) (.node (topO35C P) (.node (topO67F P) .nil .nil) .nil) (.node (topO51F P) .nil .nil)) (.node (topO27A P) (.node (topO43E P) (.node (topO75F P) .nil .nil) .nil) (.node (topO59F P) .nil .nil)))) (.node (boot_o_5 P) (.node (boot_o_9 P) (.node (topO17A P) (.node (topO33B P) (.node (topO65F P) .nil .nil) .nil) (.node (topO49F P) (.node (topO81F P) .nil .nil) .nil)) (.node (topO25A P) (.node (topO41D P) (.node (topO73F P) .nil .nil) .nil) (.node (topO57F P) .nil .nil))) (.node (topO13I P) (.node (topO21A P) (.node (topO37C P) (.node (topO69F P) .nil .nil) .nil) (.node (topO53F P) .nil .nil)) (.node (topO29B P) (.node (topO45F P) (.node (topO77F P) .nil .nil) .nil) (.node (topO61F P) .nil .nil))))) (.node (boot_o_2 P) (.node (boot_o_4 P) (.node (boot_o_8 P) (.node (topO16A P) (.node (topO32B P) (.node (topO64F P) .nil .nil) .nil) (.node (topO48F P) (.node (topO80F P) .nil .nil) .nil)) (.node (topO24A P) (.node (topO40D P) (.node (topO72F P) .nil .nil) .nil) (.node (topO56F P) .nil .nil))) (.node (topO12F P) (.node (topO20A P) (.node (topO36E P) (.node (topO68F P) .nil .nil) .nil) (.node (topO52F P) .nil .nil)) (.node (topO28A P) (.node (topO44E P) (.node (topO76F P) .nil .nil) .nil) (.node (topO60F P) .nil .nil)))) (.node (boot_o_6 P) (.node (boot_o_10 P) (.node (topO18A P) (.node (topO34B P) (.node (topO66F P) .nil .nil) .nil) (.node (topO50F P) .nil .nil)) (.node (topO26A P) (.node (topO42E P) (.node (topO74F P) .nil .nil) .nil) (.node (topO58F P) .nil .nil))) (.node (topO14I P) (.node (topO22A P) (.node (topO38E P) (.node (topO70F P) .nil .nil) .nil) (.node (topO54F P) .nil .nil)) (.node (topO30B P) (.node (topO46F P) (.node (topO78F P) .nil .nil) .nil) (.node (topO62F P) .nil .nil))))))
noncomputable def topStF (w : World) (os : OsState) : SharedT := ⟨topTreeF w.params, 82, life0, #[], drawn0, 1802, os⟩
noncomputable def hd.heap_39 (P : Params) : Frag :=
  [(2, boot_o_2 P),
   (3, topO3F P),
   (6, boot_o_6 P),
   (15, topO15A P),
   (17, topO17A P),
   (18, topO18A P),
   (20, topO20A P),
   (21, topO21A P),
   (22, topO22A P),
   (24, topO24A P),
   (25, topO25A P),
   (27, topO27A P),
   (28, topO28A P),
   (31, topO31B P),
   (36, topO36E P),
   (38, topO38E P),
   (45, topO45F P),
   (47, topO47F P),
   (48, topO48F P),
   (50, topO50F P),
   (51, topO51F P),
   (52, topO52F P),
   (54, topO54F P),
   (55, topO55F P),
   (57, topO57F P),
   (58, topO58F P),
   (60, topO60F P),
   (64, topO64F P),
   (65, topO65F P),
   (67, topO67F P),
   (68, topO68F P),
   (70, topO70F P),
   (71, topO71F P),
   (72, topO72F P),
   (75, topO75F P),
   (76, topO76F P),
   (77, topO77F P),
   (80, topO80F P),
   (81, topO81F P)]

/-- the items of a list object; the entries of a dict object -/
def itemsOf (o : Obj) : List Value := match o.data with | .seq xs _ => xs.toList | _ => []
def entriesOf (o : Obj) : Array DictEntry := match o.data with | .dict es _ => es | _ => #[]
/-- the items of the second list at the places that are named, those of the first one elsewhere -/
noncomputable def mixed (ps : List Nat) : Nat → List Value → List Value → List Value
  | i, a :: as, b :: bs => (match ps.any (Nat.beq i) with | true => b | false => a) :: mixed ps (i + 1) as bs
  | _, _, _ => []
def atOr (l : List Nat) (k : Nat) : Nat := match l.drop (k - 1) with | x :: _ => x | [] => 0
def withC (P : Params) (o : Obj) (v : Nat) (t : Nat) : Obj :=
  { cls := .type "dict", data := .dict ((entriesOf o).push { hash := PyData.keyHash P (Str.ofString "c"), key := .str (Str.ofString "c") 1264, val := .int (v : Int) t }) 21 }

noncomputable def lpB30 (k : Nat) (P : Params) : Obj := { cls := .type "range_iterator", data := .fields #[.int (k : Int) 0, .int ((256 - k : Nat) : Int) 0, .int 1 0] }
noncomputable def lpB31 (k : Nat) (P : Params) : Obj := { cls := .type "list", data := .seq ((itemsOf (topO31B P)).take k).toArray k }
noncomputable def lpB32 (k : Nat) (P : Params) : Obj := { cls := .type "dict", data := .dict #[{ hash := PyData.keyHash P (Str.ofString "c"), key := .str (Str.ofString "c") 215, val := .int ((k - 1 : Nat) : Int) (210 + 4 * k) }] 1 }
noncomputable def loopB (k : Nat) (w : World) (os : OsState) : SharedT := ⟨(fun P => (.node (boot_o_0 P) (.node (boot_o_1 P) (.node (topO3A P) (.node (boot_o_7 P) (.node (topO15A P) (.node (lpB31 k P) .nil .nil) .nil) (.node (topO23A P) .nil .nil)) (.node (topO11I P) (.node (topO19A P) .nil .nil) (.node (topO27A P) .nil .nil))) (.node (boot_o_5 P) (.node (boot_o_9 P) (.node (topO17A P) .nil .nil) (.node (topO25A P) .nil .nil)) (.node (topO13I P) (.node (topO21A P) .nil .nil) (.node (topO29B P) .nil .nil)))) (.node (boot_o_2 P) (.node (boot_o_4 P) (.node (boot_o_8 P) (.node (topO16A P) (.node (lpB32 k P) .nil .nil) .nil) (.node (topO24A P) .nil .nil)) (.node (topO12A P) (.node (topO20A P) .nil .nil) (.node (topO28A P) .nil .nil))) (.node (boot_o_6 P) (.node (boot_o_10 P) (.node (topO18A P) .nil .nil) (.node (topO26A P) .nil .nil)) (.node (topO14I P) (.node (topO22A P) .nil .nil) (.node (lpB30 k P) .nil .nil)))))) w.params, 33, life0, #[], drawn0, 214 + 4 * k, os⟩
def signsD : List Nat := [45, 33, 42, 43, 47, 97, 98, 99, 100, 101, 102, 103, 104, 105, 106, 107, 108, 109, 110, 111, 112, 113, 114, 115, 116, 117, 118, 119, 120, 121, 122, 65, 66, 67, 68, 69, 70, 71, 72, 73, 74, 75, 76, 77, 78, 79, 80, 81, 82, 83, 84, 85, 86, 87, 88, 89, 90, 48, 49, 50, 51, 52, 53, 54, 55, 56, 57]
def signsE : List Nat := [32, 33, 34, 35, 36, 37, 38, 39, 40, 41, 42, 43, 44, 45, 46, 47, 48, 49, 50, 51, 52, 53, 54, 55, 56, 57, 58, 59, 60, 62, 63, 64, 65, 66, 67, 68, 69, 70, 71, 72, 73, 74, 75, 76, 77, 78, 79, 80, 81, 82, 83, 84, 85, 86, 87, 88, 89, 90, 91, 92, 93, 94, 95, 96, 97, 98, 99, 100, 101, 102, 103, 104, 105, 106, 107, 108, 109, 110, 111, 112, 113, 114, 115, 116, 117, 118, 119, 120, 121, 122, 123, 124, 125, 126, 9]
noncomputable def lpD3 (k : Nat) (P : Params) : Obj := withC P (topO3C P) (atOr signsD k) (1260 + 3 * k)
noncomputable def lpD36 (k : Nat) (P : Params) : Obj := { cls := .type "list", data := .seq (mixed (signsD.take k) 0 (itemsOf (topO36C P)) (itemsOf (topO36D P))).toArray }
noncomputable def lpD39 (k : Nat) (P : Params) : Obj := { cls := .type "bytes_iterator", data := .fields #[.bytes #[45, 33, 42, 43, 47, 97, 98, 99, 100, 101, 102, 103, 104, 105, 106, 107, 108, 109, 110, 111, 112, 113, 114, 115, 116, 117, 118, 119, 120, 121, 122, 65, 66, 67, 68, 69, 70, 71, 72, 73, 74, 75, 76, 77, 78, 79, 80, 81, 82, 83, 84, 85, 86, 87, 88, 89, 90, 48, 49, 50, 51, 52, 53, 54, 55, 56, 57] 1262, .int (k : Int) 0] }
noncomputable def loopD (k : Nat) (w : World) (os : OsState) : SharedT := ⟨(fun P => (.node (boot_o_0 P) (.node (boot_o_1 P) (.node (lpD3 k P) (.node (boot_o_7 P) (.node (topO15A P) (.node (topO31B P) .nil .nil) .nil) (.node (topO23A P) (.node (lpD39 k P) .nil .nil) .nil)) (.node (topO11I P) (.node (topO19A P) (.node (topO35C P) .nil .nil) .nil) (.node (topO27A P) .nil .nil))) (.node (boot_o_5 P) (.node (boot_o_9 P) (.node (topO17A P) (.node (topO33B P) .nil .nil) .nil) (.node (topO25A P) .nil .nil)) (.node (topO13I P) (.node (topO21A P) (.node (topO37C P) .nil .nil) .nil) (.node (topO29B P) .nil .nil)))) (.node (boot_o_2 P) (.node (boot_o_4 P) (.node (boot_o_8 P) (.node (topO16A P) (.node (topO32B P) .nil .nil) .nil) (.node (topO24A P) .nil .nil)) (.node (topO12A P) (.node (topO20A P) (.node (lpD36 k P) .nil .nil) .nil) (.node (topO28A P) .nil .nil))) (.node (boot_o_6 P) (.node (boot_o_10 P) (.node (topO18A P) (.node (topO34B P) .nil .nil) .nil) (.node (topO26A P) .nil .nil)) (.node (topO14I P) (.node (topO22A P) (.node (topO38C P) .nil .nil) .nil) (.node (topO30B P) .nil .nil)))))) w.params, 40, life0, #[], drawn0, 1263 + 3 * k, os⟩
noncomputable def lpE3 (k : Nat) (P : Params) : Obj := withC P (topO3C P) (atOr signsE k) (1465 + 3 * k)
noncomputable def lpE38 (k : Nat) (P : Params) : Obj := { cls := .type "list", data := .seq (mixed (signsE.take k) 0 (itemsOf (topO38C P)) (itemsOf (topO38E P))).toArray }
noncomputable def lpE42 (k : Nat) (P : Params) : Obj := { cls := .type "bytes_iterator", data := .fields #[.bytes #[32, 33, 34, 35, 36, 37, 38, 39, 40, 41, 42, 43, 44, 45, 46, 47, 48, 49, 50, 51, 52, 53, 54, 55, 56, 57, 58, 59, 60, 62, 63, 64, 65, 66, 67, 68, 69, 70, 71, 72, 73, 74, 75, 76, 77, 78, 79, 80, 81, 82, 83, 84, 85, 86, 87, 88, 89, 90, 91, 92, 93, 94, 95, 96, 97, 98, 99, 100, 101, 102, 103, 104, 105, 106, 107, 108, 109, 110, 111, 112, 113, 114, 115, 116, 117, 118, 119, 120, 121, 122, 123, 124, 125, 126, 9] 1467, .int (k : Int) 0] }
noncomputable def loopE (k : Nat) (w : World) (os : OsState) : SharedT := ⟨(fun P => (.node (boot_o_0 P) (.node (boot_o_1 P) (.node (lpE3 k P) (.node (boot_o_7 P) (.node (topO15A P) (.node (topO31B P) .nil .nil) .nil) (.node (topO23A P) (.node (topO39D P) .nil .nil) .nil)) (.node (topO11I P) (.node (topO19A P) (.node (topO35C P) .nil .nil) .nil) (.node (topO27A P) .nil .nil))) (.node (boot_o_5 P) (.node (boot_o_9 P) (.node (topO17A P) (.node (topO33B P) .nil .nil) .nil) (.node (topO25A P) (.node (topO41D P) .nil .nil) .nil)) (.node (topO13I P) (.node (topO21A P) (.node (topO37C P) .nil .nil) .nil) (.node (topO29B P) .nil .nil)))) (.node (boot_o_2 P) (.node (boot_o_4 P) (.node (boot_o_8 P) (.node (topO16A P) (.node (topO32B P) .nil .nil) .nil) (.node (topO24A P) (.node (topO40D P) .nil .nil) .nil)) (.node (topO12A P) (.node (topO20A P) (.node (topO36E P) .nil .nil) .nil) (.node (topO28A P) .nil .nil))) (.node (boot_o_6 P) (.node (boot_o_10 P) (.node (topO18A P) (.node (topO34B P) .nil .nil) .nil) (.node (topO26A P) (.node (lpE42 k P) .nil .nil) .nil)) (.node (topO14I P) (.node (topO22A P) (.node (lpE38 k P) .nil .nil) .nil) (.node (topO30B P) .nil .nil)))))) w.params, 43, life0, #[], drawn0, 1468 + 3 * k, os⟩
end Mine

-- the head, part G2
namespace Mine

abbrev pw : Program := PySem.Challenge.pw_rs0042_01
noncomputable def topEnv : Env := { scope := pw.main.scope, locals := mainNs, globals := mainNs, cells := [], code := .ref 13, frame := some 14 }
noncomputable def topCode : Code := .body (behindTheImports pw) topEnv
abbrev pos0 : Pos := { line := 0, col := 0, endLine := 0, endCol := 0 }
abbrev posA : Pos := { line := 20, col := 0, endLine := 20, endCol := 2 }
abbrev posB : Pos := { line := 21, col := 0, endLine := 21, endCol := 11 }
abbrev posC : Pos := { line := 29, col := 0, endLine := 29, endCol := 8 }
abbrev posD : Pos := { line := 30, col := 9, endLine := 30, endCol := 74 }
abbrev posE : Pos := { line := 33, col := 9, endLine := 33, endCol := 110 }
abbrev posF : Pos := { line := 78, col := 0, endLine := 107, endCol := 69 }
abbrev under : List Frame := [topFrame pos0]
def cut (a n : Nat) : List Stmt := (pw.main.body.drop a).take n
abbrev annO : Option Value := some (.ref 6)

/-- the thread ends as a statement does, in the second state -/
def Ends (w : World) (N : Nat) (S : World → OsState → SharedT) (T : World → OsState → Thread) (S' : World → OsState → SharedT) (p' : Pos) : Prop :=
  ∀ os, segRun treeTable pw w 11 annO 1 N (S w os).abs (T w os) = some (Flow.next, (S' w os).abs, topCode, p')
noncomputable abbrev whole (a n : Nat) (p : Pos) : World → OsState → Thread := fun _ _ => piecesOf (cut a n) topEnv topCode p under
/-- some statements of the text take the first state to the second one -/
abbrev Piece (w : World) (N a n : Nat) (S S' : World → OsState → SharedT) (p p' : Pos) : Prop := Ends w N S (whole a n p) S' p'
/-- some steps take the first state and thread to the second ones -/
def Seg (w : World) (n : Nat) (S : World → OsState → SharedT) (T : World → OsState → Thread) (S' : World → OsState → SharedT) (T' : World → OsState → Thread) : Prop :=
  (fun os => segGoT treeTable pw w 11 annO 1 n (S w os) (T w os)) = fun os => some (S' w os, T' w os)
/-- the rest of a statement -/
def Last (w : World) (n : Nat) (S : World → OsState → SharedT) (T : World → OsState → Thread) (S' : World → OsState → SharedT) (p' : Pos) : Prop :=
  (fun os => segRunT treeTable pw w 11 annO 1 n (S w os) (T w os)) = fun os => some (Flow.next, S' w os, topCode, p')
noncomputable def orDone (r : Option (SharedT × Thread)) : Thread := match r with
  | some x => x.2
  | none => ⟨doneF .next, topCode, pos0, under⟩

theorem Last.ends {w : World} {n : Nat} {S S' : World → OsState → SharedT} {T : World → OsState → Thread} {p' : Pos} (h : Last w n S T S' p') : Ends w n S T S' p' := fun os => segRun_of (congrFun h os)
theorem Seg.then {w : World} {n N : Nat} {S S₁ S' : World → OsState → SharedT} {T T₁ : World → OsState → Thread} {p' : Pos} (h : Seg w n S T S₁ T₁) (k : Ends w N S₁ T₁ S' p') : Ends w (n + N) S T S' p' := fun os => seg_go (segGo_of (congrFun h os)) (k os)

theorem Ends.cast {w : World} {N N' : Nat} {S S' : World → OsState → SharedT} {T : World → OsState → Thread} {p' : Pos} (h : Ends w N S T S' p') (e : N = N') : Ends w N' S T S' p' := e ▸ h

theorem row1 {P : World → Prop} (h0 : ∀ w : World, P (w.withFollow "special-get-raises" false)) (h1 : ∀ w : World, P (w.withFollow "special-get-raises" true)) (w : World) : P w := byRow2 _ h0 h1 w
theorem row2 {P : World → Prop} (h0 : ∀ w : World, P (w.withFollow "comprehension-iter-twice" false)) (h1 : ∀ w : World, P (w.withFollow "comprehension-iter-twice" true)) (w : World) : P w := byRow2 _ h0 h1 w

theorem pieceA0 (w : World) : Last (w) 83 topStI (whole 0 4 pos0) topStA posA := by
  unfold Last
  rw [PySem.W.Fast.te10110043849684766642, PySem.W.Fast.te14364793385576792824]
  kernel_rfl
theorem pieceA (w : World) : Piece w 83 0 4 topStI topStA pos0 posA := (pieceA0 w).ends
theorem pieceC0 (w : World) : Last (w) 133 topStB (whole 5 8 posB) topStC posC := by
  unfold Last
  rw [PySem.W.Fast.te10110043849684766642, PySem.W.Fast.te14364793385576792824]
  kernel_rfl
theorem pieceC (w : World) : Piece w 133 5 8 topStB topStC posB posC := (pieceC0 w).ends
theorem pieceF0 (w : World) : Last ((w).withFollow "special-get-raises" false) 308 topStE (whole 16 9 posE) topStF posF := by
  unfold Last
  rw [PySem.W.Fast.te10110043849684766642, PySem.W.Fast.te14364793385576792824]
  kernel_rfl
theorem pieceF1 (w : World) : Last ((w).withFollow "special-get-raises" true) 308 topStE (whole 16 9 posE) topStF posF := by
  unfold Last
  rw [PySem.W.Fast.te10110043849684766642, PySem.W.Fast.te14364793385576792824]
  kernel_rfl
theorem pieceF (w : World) : Piece w 308 16 9 topStE topStF posE posF := row1 (P := fun w => Piece w 308 16 9 topStE topStF posE posF) (fun w => (pieceF0 w).ends) (fun w => (pieceF1 w).ends) w
/-- the thread at the loop's head, behind the first turn -/
noncomputable def headB (w : World) (os : OsState) : Thread := orDone (PySem.W.Fast.tw10295753902157049106 PySem.W.Fast.tw14364793385576792824 pw (((w).withFollow "special-get-raises" true).withFollow "comprehension-iter-twice" true) 11 annO 1 79 (topStA w os) (piecesOf (cut 4 1) topEnv topCode posA under))
theorem turnsB0 (w : World) : Seg (w) 629 (loopB 1) headB (loopB 18) headB := by
  unfold Seg
  rw [PySem.W.Fast.te10295753902157049106, PySem.W.Fast.te14364793385576792824]
  kernel_rfl
theorem turnsB1 (w : World) : Seg (w) 629 (loopB 18) headB (loopB 35) headB := by
  unfold Seg
  rw [PySem.W.Fast.te10295753902157049106, PySem.W.Fast.te14364793385576792824]
  kernel_rfl
theorem turnsB2 (w : World) : Seg (w) 629 (loopB 35) headB (loopB 52) headB := by
  unfold Seg
  rw [PySem.W.Fast.te10295753902157049106, PySem.W.Fast.te14364793385576792824]
  kernel_rfl
theorem turnsB3 (w : World) : Seg (w) 629 (loopB 52) headB (loopB 69) headB := by
  unfold Seg
  rw [PySem.W.Fast.te10295753902157049106, PySem.W.Fast.te14364793385576792824]
  kernel_rfl
theorem turnsB4 (w : World) : Seg (w) 629 (loopB 69) headB (loopB 86) headB := by
  unfold Seg
  rw [PySem.W.Fast.te10295753902157049106, PySem.W.Fast.te14364793385576792824]
  kernel_rfl
theorem turnsB5 (w : World) : Seg (w) 629 (loopB 86) headB (loopB 103) headB := by
  unfold Seg
  rw [PySem.W.Fast.te10295753902157049106, PySem.W.Fast.te14364793385576792824]
  kernel_rfl
theorem turnsB6 (w : World) : Seg (w) 629 (loopB 103) headB (loopB 120) headB := by
  unfold Seg
  rw [PySem.W.Fast.te10295753902157049106, PySem.W.Fast.te14364793385576792824]
  kernel_rfl
theorem turnsB7 (w : World) : Seg (w) 629 (loopB 120) headB (loopB 137) headB := by
  unfold Seg
  rw [PySem.W.Fast.te10295753902157049106, PySem.W.Fast.te14364793385576792824]
  kernel_rfl
theorem turnsB8 (w : World) : Seg (w) 629 (loopB 137) headB (loopB 154) headB := by
  unfold Seg
  rw [PySem.W.Fast.te10295753902157049106, PySem.W.Fast.te14364793385576792824]
  kernel_rfl
theorem turnsB9 (w : World) : Seg (w) 629 (loopB 154) headB (loopB 171) headB := by
  unfold Seg
  rw [PySem.W.Fast.te10295753902157049106, PySem.W.Fast.te14364793385576792824]
  kernel_rfl
theorem turnsB10 (w : World) : Seg (w) 629 (loopB 171) headB (loopB 188) headB := by
  unfold Seg
  rw [PySem.W.Fast.te10295753902157049106, PySem.W.Fast.te14364793385576792824]
  kernel_rfl
theorem turnsB11 (w : World) : Seg (w) 629 (loopB 188) headB (loopB 205) headB := by
  unfold Seg
  rw [PySem.W.Fast.te10295753902157049106, PySem.W.Fast.te14364793385576792824]
  kernel_rfl
theorem turnsB12 (w : World) : Seg (w) 629 (loopB 205) headB (loopB 222) headB := by
  unfold Seg
  rw [PySem.W.Fast.te10295753902157049106, PySem.W.Fast.te14364793385576792824]
  kernel_rfl
theorem turnsB13 (w : World) : Seg (w) 629 (loopB 222) headB (loopB 239) headB := by
  unfold Seg
  rw [PySem.W.Fast.te10295753902157049106, PySem.W.Fast.te14364793385576792824]
  kernel_rfl
theorem turnsB14 (w : World) : Seg (w) 629 (loopB 239) headB (loopB 256) headB := by
  unfold Seg
  rw [PySem.W.Fast.te10295753902157049106, PySem.W.Fast.te14364793385576792824]
  kernel_rfl
theorem loopEndB0 (w : World) : Last (w) 28 (loopB 256) headB topStB posB := by
  unfold Last
  rw [PySem.W.Fast.te10110043849684766642, PySem.W.Fast.te14364793385576792824]
  kernel_rfl
theorem loopEndB (w : World) : Ends w (629 + (629 + (629 + (629 + (629 + (629 + (629 + (629 + (629 + (629 + (629 + (629 + (629 + (629 + (629 + (28)))))))))))))))) (loopB 1) headB topStB posB :=
  (turnsB0 w).then ((turnsB1 w).then ((turnsB2 w).then ((turnsB3 w).then ((turnsB4 w).then ((turnsB5 w).then ((turnsB6 w).then ((turnsB7 w).then ((turnsB8 w).then ((turnsB9 w).then ((turnsB10 w).then ((turnsB11 w).then ((turnsB12 w).then ((turnsB13 w).then ((turnsB14 w).then ((loopEndB0 w).ends)))))))))))))))
theorem loopEndBx0 (w : World) : Last (w) 38 (loopB 256) headB topStB posB := by
  unfold Last
  rw [PySem.W.Fast.te10110043849684766642, PySem.W.Fast.te14364793385576792824]
  kernel_rfl
theorem loopEndBx (w : World) : Ends w (629 + (629 + (629 + (629 + (629 + (629 + (629 + (629 + (629 + (629 + (629 + (629 + (629 + (629 + (629 + (38)))))))))))))))) (loopB 1) headB topStB posB :=
  (turnsB0 w).then ((turnsB1 w).then ((turnsB2 w).then ((turnsB3 w).then ((turnsB4 w).then ((turnsB5 w).then ((turnsB6 w).then ((turnsB7 w).then ((turnsB8 w).then ((turnsB9 w).then ((turnsB10 w).then ((turnsB11 w).then ((turnsB12 w).then ((turnsB13 w).then ((turnsB14 w).then ((loopEndBx0 w).ends)))))))))))))))
theorem startB00 (w : World) : Seg (((w).withFollow "special-get-raises" false).withFollow "comprehension-iter-twice" false) 89 topStA (whole 4 1 posA) (loopB 1) headB := by
  unfold Seg
  rw [PySem.W.Fast.te10295753902157049106, PySem.W.Fast.te14364793385576792824]
  kernel_rfl
theorem pieceB00 (w : World) : Piece (((w).withFollow "special-get-raises" false).withFollow "comprehension-iter-twice" false) 9552 4 1 topStA topStB posA posB := ((startB00 w).then (loopEndB (((w).withFollow "special-get-raises" false).withFollow "comprehension-iter-twice" false))).cast (by decide)
theorem startB01 (w : World) : Seg (((w).withFollow "special-get-raises" true).withFollow "comprehension-iter-twice" false) 89 topStA (whole 4 1 posA) (loopB 1) headB := by
  unfold Seg
  rw [PySem.W.Fast.te10295753902157049106, PySem.W.Fast.te14364793385576792824]
  kernel_rfl
theorem pieceB01 (w : World) : Piece (((w).withFollow "special-get-raises" true).withFollow "comprehension-iter-twice" false) 9552 4 1 topStA topStB posA posB := ((startB01 w).then (loopEndB (((w).withFollow "special-get-raises" true).withFollow "comprehension-iter-twice" false))).cast (by decide)
theorem pieceB0 (w : World) : Piece ((w).withFollow "comprehension-iter-twice" false) 9552 4 1 topStA topStB posA posB := row1 (P := fun w => Piece ((w).withFollow "comprehension-iter-twice" false) 9552 4 1 topStA topStB posA posB) pieceB00 pieceB01 w
theorem startB10 (w : World) : Seg (((w).withFollow "special-get-raises" false).withFollow "comprehension-iter-twice" true) 79 topStA (whole 4 1 posA) (loopB 1) headB := by
  unfold Seg
  rw [PySem.W.Fast.te10295753902157049106, PySem.W.Fast.te14364793385576792824]
  kernel_rfl
theorem pieceB10 (w : World) : Piece (((w).withFollow "special-get-raises" false).withFollow "comprehension-iter-twice" true) 9552 4 1 topStA topStB posA posB := ((startB10 w).then (loopEndBx (((w).withFollow "special-get-raises" false).withFollow "comprehension-iter-twice" true))).cast (by decide)
theorem startB11 (w : World) : Seg (((w).withFollow "special-get-raises" true).withFollow "comprehension-iter-twice" true) 79 topStA (whole 4 1 posA) (loopB 1) headB := by
  unfold Seg
  rw [PySem.W.Fast.te10295753902157049106, PySem.W.Fast.te14364793385576792824]
  kernel_rfl
theorem pieceB11 (w : World) : Piece (((w).withFollow "special-get-raises" true).withFollow "comprehension-iter-twice" true) 9552 4 1 topStA topStB posA posB := ((startB11 w).then (loopEndBx (((w).withFollow "special-get-raises" true).withFollow "comprehension-iter-twice" true))).cast (by decide)
theorem pieceB1 (w : World) : Piece ((w).withFollow "comprehension-iter-twice" true) 9552 4 1 topStA topStB posA posB := row1 (P := fun w => Piece ((w).withFollow "comprehension-iter-twice" true) 9552 4 1 topStA topStB posA posB) pieceB10 pieceB11 w
theorem pieceB (w : World) : Piece w 9552 4 1 topStA topStB posA posB := row2 (P := fun w => Piece w 9552 4 1 topStA topStB posA posB) pieceB0 pieceB1 w
/-- the thread at the loop's head, behind the first turn -/
noncomputable def headD (w : World) (os : OsState) : Thread := orDone (PySem.W.Fast.tw10295753902157049106 PySem.W.Fast.tw14364793385576792824 pw ((w).withFollow "special-get-raises" true) 11 annO 1 89 (topStC w os) (piecesOf (cut 13 1) topEnv topCode posC under))
theorem turnsD0 (w : World) : Seg (w) 990 (loopD 1) headD (loopD 23) headD := by
  unfold Seg
  rw [PySem.W.Fast.te10295753902157049106, PySem.W.Fast.te14364793385576792824]
  kernel_rfl
theorem turnsD1 (w : World) : Seg (w) 990 (loopD 23) headD (loopD 45) headD := by
  unfold Seg
  rw [PySem.W.Fast.te10295753902157049106, PySem.W.Fast.te14364793385576792824]
  kernel_rfl
theorem turnsD2 (w : World) : Seg (w) 990 (loopD 45) headD (loopD 67) headD := by
  unfold Seg
  rw [PySem.W.Fast.te10295753902157049106, PySem.W.Fast.te14364793385576792824]
  kernel_rfl
theorem loopEndD0 (w : World) : Last (w) 18 (loopD 67) headD topStD posD := by
  unfold Last
  rw [PySem.W.Fast.te10110043849684766642, PySem.W.Fast.te14364793385576792824]
  kernel_rfl
theorem loopEndD (w : World) : Ends w (990 + (990 + (990 + (18)))) (loopD 1) headD topStD posD :=
  (turnsD0 w).then ((turnsD1 w).then ((turnsD2 w).then ((loopEndD0 w).ends)))
theorem startD0 (w : World) : Seg ((w).withFollow "special-get-raises" false) 89 topStC (whole 13 1 posC) (loopD 1) headD := by
  unfold Seg
  rw [PySem.W.Fast.te10295753902157049106, PySem.W.Fast.te14364793385576792824]
  kernel_rfl
theorem pieceD0 (w : World) : Piece ((w).withFollow "special-get-raises" false) 3077 13 1 topStC topStD posC posD := ((startD0 w).then (loopEndD ((w).withFollow "special-get-raises" false))).cast (by decide)
theorem startD1 (w : World) : Seg ((w).withFollow "special-get-raises" true) 89 topStC (whole 13 1 posC) (loopD 1) headD := by
  unfold Seg
  rw [PySem.W.Fast.te10295753902157049106, PySem.W.Fast.te14364793385576792824]
  kernel_rfl
theorem pieceD1 (w : World) : Piece ((w).withFollow "special-get-raises" true) 3077 13 1 topStC topStD posC posD := ((startD1 w).then (loopEndD ((w).withFollow "special-get-raises" true))).cast (by decide)
theorem pieceD (w : World) : Piece w 3077 13 1 topStC topStD posC posD := row1 (P := fun w => Piece w 3077 13 1 topStC topStD posC posD) pieceD0 pieceD1 w
/-- the thread at the loop's head, behind the first turn -/
noncomputable def headE (w : World) (os : OsState) : Thread := orDone (PySem.W.Fast.tw10295753902157049106 PySem.W.Fast.tw14364793385576792824 pw ((w).withFollow "special-get-raises" true) 11 annO 1 79 (topStD w os) (piecesOf (cut 14 2) topEnv topCode posD under))
theorem turnsE0 (w : World) : Seg (w) 720 (loopE 1) headE (loopE 17) headE := by
  unfold Seg
  rw [PySem.W.Fast.te10295753902157049106, PySem.W.Fast.te14364793385576792824]
  kernel_rfl
theorem turnsE1 (w : World) : Seg (w) 720 (loopE 17) headE (loopE 33) headE := by
  unfold Seg
  rw [PySem.W.Fast.te10295753902157049106, PySem.W.Fast.te14364793385576792824]
  kernel_rfl
theorem turnsE2 (w : World) : Seg (w) 720 (loopE 33) headE (loopE 49) headE := by
  unfold Seg
  rw [PySem.W.Fast.te10295753902157049106, PySem.W.Fast.te14364793385576792824]
  kernel_rfl
theorem turnsE3 (w : World) : Seg (w) 720 (loopE 49) headE (loopE 65) headE := by
  unfold Seg
  rw [PySem.W.Fast.te10295753902157049106, PySem.W.Fast.te14364793385576792824]
  kernel_rfl
theorem turnsE4 (w : World) : Seg (w) 720 (loopE 65) headE (loopE 81) headE := by
  unfold Seg
  rw [PySem.W.Fast.te10295753902157049106, PySem.W.Fast.te14364793385576792824]
  kernel_rfl
theorem turnsE5 (w : World) : Seg (w) 630 (loopE 81) headE (loopE 95) headE := by
  unfold Seg
  rw [PySem.W.Fast.te10295753902157049106, PySem.W.Fast.te14364793385576792824]
  kernel_rfl
theorem loopEndE0 (w : World) : Last (w) 18 (loopE 95) headE topStE posE := by
  unfold Last
  rw [PySem.W.Fast.te10110043849684766642, PySem.W.Fast.te14364793385576792824]
  kernel_rfl
theorem loopEndE (w : World) : Ends w (720 + (720 + (720 + (720 + (720 + (630 + (18))))))) (loopE 1) headE topStE posE :=
  (turnsE0 w).then ((turnsE1 w).then ((turnsE2 w).then ((turnsE3 w).then ((turnsE4 w).then ((turnsE5 w).then ((loopEndE0 w).ends))))))
theorem startE0 (w : World) : Seg ((w).withFollow "special-get-raises" false) 79 topStD (whole 14 2 posD) (loopE 1) headE := by
  unfold Seg
  rw [PySem.W.Fast.te10295753902157049106, PySem.W.Fast.te14364793385576792824]
  kernel_rfl
theorem pieceE0 (w : World) : Piece ((w).withFollow "special-get-raises" false) 4327 14 2 topStD topStE posD posE := ((startE0 w).then (loopEndE ((w).withFollow "special-get-raises" false))).cast (by decide)
theorem startE1 (w : World) : Seg ((w).withFollow "special-get-raises" true) 79 topStD (whole 14 2 posD) (loopE 1) headE := by
  unfold Seg
  rw [PySem.W.Fast.te10295753902157049106, PySem.W.Fast.te14364793385576792824]
  kernel_rfl
theorem pieceE1 (w : World) : Piece ((w).withFollow "special-get-raises" true) 4327 14 2 topStD topStE posD posE := ((startE1 w).then (loopEndE ((w).withFollow "special-get-raises" true))).cast (by decide)
theorem pieceE (w : World) : Piece w 4327 14 2 topStD topStE posD posE := row1 (P := fun w => Piece w 4327 14 2 topStD topStE posD posE) pieceE0 pieceE1 w
end Mine

-- the head, part G3
namespace Mine

theorem topCells : behindTheImports pw = cut 0 4 ++ (cut 4 1 ++ (cut 5 8 ++ (cut 13 1 ++ (cut 14 2 ++ (cut 16 9 ++ []))))) := by kernel_rfl
theorem topPre (w : World) (os : OsState) : topGo treeTable pw w 11 annO 12 ⟨boot_heap w.params, Array.mk [], boot_drawn, boot_toks, os⟩ (topStub pw) = some ((topStI w os).abs, ⟨denote treeTable topCode, topCode, pos0, under⟩) := by
  rw [PySem.W.Fast.te15667345088766844465, PySem.W.Fast.te14364793385576792824, PySem.W.Fast.te11892475500146522536]
  kernel_rfl
theorem topBlock (w : World) (os : OsState) : segRun treeTable pw w 11 annO 1 1 (topStI w os).abs (blockOf (behindTheImports pw) topEnv topCode pos0 under) = some (Flow.next, (topStI w os).abs, topCode, pos0) := by
  rw [PySem.W.Fast.te14374325043358763698, PySem.W.Fast.te14364793385576792824]
  kernel_rfl
theorem topFin (w : World) (os : OsState) : topRun treeTable pw w 11 annO 2 (topStF w os).abs ⟨doneF .next, topCode, posF, under⟩ = some (topStF w os).abs := by
  rw [PySem.W.Fast.te14082659384304107361, PySem.W.Fast.te14364793385576792824]
  kernel_rfl

abbrev topSteps : Nat := 12 + (1 + (83 + (9552 + (133 + (3077 + (4327 + (308 + 2)))))))
theorem topWhole (w : World) (os : OsState) : topRun treeTable pw w 11 annO topSteps ⟨boot_heap w.params, Array.mk [], boot_drawn, boot_toks, os⟩ (topStub pw) = some (topStF w os).abs := by
  refine go_top (topPre w os) (piece_block (topBlock w os) ?_)
  have h : restOf (behindTheImports pw) topEnv topCode pos0 under = restOf (cut 0 4 ++ (cut 4 1 ++ (cut 5 8 ++ (cut 13 1 ++ (cut 14 2 ++ (cut 16 9 ++ [])))))) topEnv topCode pos0 under := congrArg (fun l => restOf l topEnv topCode pos0 under) topCells
  rw [h]
  exact piece_app (pieceA w os) (piece_app (pieceB w os) (piece_app (pieceC w os) (piece_app (pieceD w os) (piece_app (pieceE w os) (piece_app (pieceF w os) (piece_nil (topFin w os)))))))

noncomputable def topView : Program := view pw [1, 2, 3, 4, 5, 6, 7, 8, 9, 10, 11, 16, 17, 18, 23, 24]
def topLoose : List Str := [Str.ofString "_QUOPRI_MAP", Str.ofString "_QUOPRI_HEADER_MAP", Str.ofString "_QUOPRI_BODY_MAP", Str.ofString "ascii_letters", Str.ofString "hexdigits", Str.ofString "_QUOPRI_BODY_ENCODE_MAP", Str.ofString "decode"]
def topRead : List (Str × WData) := [(Str.ofString "ascii_letters", .str (Str.ofString "abcdefghijklmnopqrstuvwxyzABCDEFGHIJKLMNOPQRSTUVWXYZ")), (Str.ofString "hexdigits", .str (Str.ofString "0123456789abcdefABCDEF"))]
noncomputable def topX : Shared → Bool := fun s => xlAt topView topRead s && recOk (RowW.records (PySem.Challenge.rw_rs0042_01.row.toRowW)) s
def topKeys : List Addr := [2, 3, 6, 15, 17, 18, 20, 21, 22, 24, 25, 27, 28, 31, 36, 38, 45, 47, 48, 50, 51, 52, 54, 55, 57, 58, 60, 64, 65, 67, 68, 70, 71, 72, 75, 76, 77, 80, 81]
noncomputable def topHook : Hook := kHook hd.heap_39 topKeys (fun _ => by kernel_rfl)
noncomputable abbrev topHeap (P : Params) : Heap := absHeap (topTreeF P) 82 life0

theorem topImp (w : World) : importEnds treeTable (opening pw) w 400 (start (opening pw)).1 (start (opening pw)).2 = some ⟨boot_heap w.params, Array.mk [], boot_drawn, boot_toks, (start (opening pw)).1.os⟩ := by
  rw [PySem.W.Fast.te10274390034422433532, PySem.W.Fast.te14364793385576792824, PySem.W.Fast.te1435165496053646825]
  kernel_rfl
theorem topFence (w : World) : (fun os => (fenceModules? pw ⟨boot_heap w.params, Array.mk [], boot_drawn, boot_toks, os⟩).map (fun s => (s.heap, s.gens, s.drawn, s.toks))) = fun _ => some (boot_heap w.params, Array.mk [], boot_drawn, boot_toks) := by
  rw [PySem.W.Fast.te14289696077712309145]
  kernel_rfl
theorem topOpen : ∀ w : World, (fencedOpening treeTable pw w 35074).map (fun s => (s.heap, s.gens, s.drawn, s.toks)) = some (boot_heap w.params, Array.mk [], boot_drawn, boot_toks) :=
  open_cut (M := 400) topImp (by kernel_rfl) topFence
theorem topSize (w : World) : ((boot_heap w.params).isNs mainGlobals && (Array.mk [] : Array GenState).size == 0, (boot_heap w.params).objs.size, (boot_heap w.params).nsMap mainGlobals "__annotations__") = (true, 11, annO) := by
  rw [PySem.W.Fast.te8920871248978507458]
  kernel_rfl
theorem topLook1 (w : World) (os : OsState) : (staticsOk (importedModules pw.main.body) (boot_heap w.params) (topHeap w.params) && namesBound pw (topHeap w.params) && gensDone ⟨topHeap w.params, #[], drawn0, 1802, os⟩ && laidKept (boot_heap w.params) (topHeap w.params)) = true := by
  rw [PySem.W.Fast.te5923862056798008813]
  kernel_rfl
theorem topLook2 (w : World) (os : OsState) : openSeen topView topLoose (importedModules pw.main.body) topX true ⟨topHeap w.params, #[], drawn0, 1802, os⟩ = openGood topView topLoose := by
  rw [PySem.W.Fast.te5923862056798008813, PySem.W.Fast.te4187177175401517315]
  kernel_rfl
theorem topLook3 (w : World) (os : OsState) : topHook.obs ⟨topHeap w.params, #[], drawn0, 1802, os⟩ = topHook.val w := by kernel_rfl

theorem topLeft : LeftO pw topView topLoose topX topHook.obs topHook.val 35074 :=
  LeftO.of_pieces (H₁ := topHeap) (gs₁ := #[]) (d₁ := drawn0) (k₁ := 1802) (M := topSteps) topOpen topSize (fun w os => topWhole w os) (by kernel_rfl) fun w => funext fun os =>
    Prod.ext (topLook1 w os) (Prod.ext (topLook2 w os) (topLook3 w os))
end Mine

-- part Q1
namespace Mine
abbrev PG : Program := PySem.Challenge.rw_rs0042_01.row.prog

theorem enter {prog : Program} {w : World} {A : Around} {s : Shared} {E : Value → Shared → Prop} {Q : Value → Shared → Prop} {p : Program} {loose : List Str} {mg mb : Str → Option Value} {K : Frag}
    {name qual : Str} {params : Arguments} {body : List Stmt} {scope : Scope} {dV kV doc pm cdv ct oc : Value} {an od : Option Addr} {osl : Array (Option Value)} {f : Addr} {args : List Value} (binds : List (Str × Value))
    (X : K.In s.heap) (T : TopRead p loose mg mb s.heap) (hA : A.depth < recursionLimit)
    (ho : K.lookup f = some ⟨oc, od, .func (fnOf name qual params body scope dV kV doc pm an cdv ct), osl⟩) (hcd : codeIn K cdv qual = true)
    (hbind : BindsTo s (fnOf name qual params body scope dV kV doc pm an cdv ct) ⟨args, []⟩ binds) (hloc : (binds.all fun x => decide (scope.names.lookup x.1 = some .local)) = true)
    (h : ∀ h₁ L, Fr s.heap L h₁ (fun y => binds.reverse.lookup y) → News s.heap L h₁ [] →
      wpAny (model prog w) (A.deeper (envX qual scope L f cdv [])) (execs body (envX qual scope L f cdv []))
        (fun fl s' => Q (match fl with | .ret v => v | _ => .none) s') (fun _ _ => False) { s with heap := h₁, toks := s.toks + binds.length })
    (hco : scope.isCoroutine = false := by rfl) (hgen : scope.isGenerator = false := by rfl) (hk : scope.kind = .function := by rfl)
    (hcell : ∀ x ∈ scope.names, x.2 ≠ .cell := by decide) : wpAny (model prog w) A (call (.ref f) args) Q E s := by
  refine wpAny_call ?_
  refine codeAny_call_def (fd := fnOf name qual params body scope dV kV doc pm an cdv ct) (body := body) (binds := binds) hA (X _ _ ho) rfl T.nolimit (codeRec_of X hcd) rfl hbind hcell (locs hloc) (fun h₁ hns hk₁ => ?_) hco hgen hk
  exact wpAny_mono (h h₁ s.heap.objs.size ⟨hns, hk₁, Nat.le_refl _⟩ News.nil) (fun _ _ q => q) fun _ _ q => q.elim

def hexC (d : Nat) : Nat := if d < 10 then 48 + d else 55 + d
def word (c : Nat) : Str := ⟨#[61, hexC (c / 16), hexC (c % 16)]⟩

def wordAt (its : Array Value) (c : Nat) : Bool := match its[c]? with
  | some (.str x _) => x.cps == (word c).cps
  | _ => false
theorem wordAt_of {its : Array Value} (h : ((List.range 256).all (wordAt its)) = true) : ∀ c, c < 256 → ∃ u, its[c]? = some (.str (word c) u) := by
  intro c hc
  have := List.all_eq_true.mp h c (List.mem_range.mpr hc)
  unfold wordAt at this
  split at this
  · rename_i x u e
    refine ⟨u, e.trans ?_⟩
    obtain ⟨x⟩ := x
    have e2 : x = (word c).cps := eq_of_beq this
    rw [e2]
  · cases this
theorem word_at (w : World) : ∃ its : Array Value, (hd.heap_39 w.params).lookup 31 = some (listOf its 256) ∧ ∀ c, c < 256 → ∃ u, its[c]? = some (.str (word c) u) :=
  ⟨_, rfl, wordAt_of (by decide +kernel)⟩

theorem quote_spec {w : World} {A : Around} {s : Shared} {E : Value → Shared → Prop} {p : Program} {loose : List Str} {mg mb : Str → Option Value} {t : Tok} {c : Nat}
    (X : (hd.heap_39 w.params).In s.heap) (T : TopRead p loose mg mb s.heap) (hA : A.depth < recursionLimit) (hh : A.handled = none) (hc : c < 256) :
    wpAny (model PG w) A (call (.ref 58) [.str ⟨#[c]⟩ t]) (fun v s' => (∃ u, v = .str (word c) u) ∧ Keeps s s') E s := by
  obtain ⟨its, hvs, hw⟩ := word_at w
  obtain ⟨u, hu⟩ := hw c hc
  refine enter [(Str.ofString "c", .str ⟨#[c]⟩ t)] X T hA rfl rfl (BindsTo.of_eq rfl) rfl fun h₁ L F N => ?_
  refine wpAny_execs_cons (wpAny_Return_some (Subscript_ ?_))
  refine nameX_K F X T (v := .ref 31) rfl ?_
  refine Call_ (nameX_B F X T rfl (by boot_fast) (by decide) ?_)
  refine PyProof.Rows.callWith_builtin1 (spliced_more (nameX_L F rfl (spliced_none ?_)))
  refine P.ord_of_char ?_
  have hl : h₁.IsList 31 its := ⟨_, F.keep _ _ (X _ _ hvs), rfl, _, rfl⟩
  refine tail_any hl.typeIs slot_list_getitem.lookup (wpAny_getItem_list hl (by omega) (by omega) hu ?_) (by with_unfolding_all rfl)
  exact ⟨⟨u, rfl⟩, _, _, rfl, F.keep⟩
end Mine

-- part Q2
namespace Mine
open PySem.NumText

theorem typeCall_int_2 (a b : Value) : checkTypeCall "int" ⟨[a, b], []⟩ = pure () := by kernel_rfl
theorem newCall_int_2 (a b : Value) : checkBuiltinCall "int.__new__" ⟨[.type "int", a, b], []⟩ = pure () := by kernel_rfl
theorem args_object_init_3 (o a b : Value) : argsOk "object.__init__" ⟨[o, a, b], []⟩ := by unfold argsOk; kernel_rfl

def isVal (r : int_private% "Numeral") (n : Int) : Bool := by
  cases r
  · exact false
  · exact false
  · exact false
  · rename_i i; exact (i == n)
theorem of_isVal {r : int_private% "Numeral"} {n : Int} (h : isVal r n = true) : r = (int_private% "Numeral.value") n := by
  cases r
  · cases h
  · cases h
  · cases h
  · rename_i i
    have : i = n := eq_of_beq h
    rw [this]
theorem hex_read : ((List.range 256).all fun c => isVal ((int_private% "readNumeral") 0 16 [hexC (c / 16), hexC (c % 16)]) (c : Int)) = true := by decide +kernel
theorem hex_read' {c : Nat} (h : c < 256) : (int_private% "readNumeral") 0 16 [hexC (c / 16), hexC (c % 16)] = (int_private% "Numeral.value") (c : Int) :=
  of_isVal (List.all_eq_true.mp hex_read c (List.mem_range.mpr h))
theorem hexC_lt {d : Nat} (h : d < 16) : hexC d < 128 ∧ hexC d ≠ 0 := by
  unfold hexC; split <;> omega

/-- a short text without a zero sign, read to the base 16 -/
theorem wp_hex {M : Model} {A : Around} {E : Value → Shared → Prop} {s : Shared} {Q : Value → Shared → Prop} {v : Value} {text l : List Nat} {n : Int} (ht : text = l) (hl : l.length ≤ 640)
    (hw : l.takeWhile (· != 0) = l) (hr : (int_private% "readNumeral") 0 16 l = (int_private% "Numeral.value") n)
    (h : Q (.int n s.toks) { s with toks := s.toks + 1 }) : wpAny M A ((int_private% "intFromText") v text 16) Q E s := by
  have small : decide ((text.takeWhile (· != 0)).length ≤ 640) = true := by rw [ht, hw]; exact decide_eq_true hl
  have whole : decide (((text.takeWhile (· != 0)).length == text.length) = true) = true := by rw [ht, hw]; exact decide_eq_true (beq_self_eq_true _)
  have read : (int_private% "readNumeral") 0 16 (text.takeWhile (· != 0)) = (int_private% "Numeral.value") n := by rw [ht, hw]; exact hr
  clear ht hw hl hr
  cases s
  repeat' (first | with_reducible refine wpAny_ite_true small ?_ | wp_step)
  rw [read]
  dsimp only
  repeat' (first | exact h | with_reducible refine wpAny_ite_true whole ?_ | wp_step)

theorem gives_hex {c : Nat} {u v : Tok} (h : c < 256) : Gives (Builtin.«int.__new__» ⟨[.type "int", .str ⟨#[hexC (c / 16), hexC (c % 16)]⟩ u, .int 16 v], []⟩) (.int c) := by
  have h1 := hexC_lt (d := c / 16) (by omega)
  have h2 := hexC_lt (d := c % 16) (by omega)
  have h3 := hex_read' h
  revert h3
  generalize hexC (c / 16) = a at *
  generalize hexC (c % 16) = b at *
  intro h3
  have ht : (if ((⟨#[a, b]⟩ : Str).cps.all fun x => decide (x < 128)) = true then (⟨#[a, b]⟩ : Str).cps.toList else Unicode.numberText (⟨#[a, b]⟩ : Str).cps.toList) = [a, b] := by
    simp [h1.1, h2.1]
  have hw : [a, b].takeWhile (· != 0) = [a, b] := by simp [List.takeWhile_cons, h1.2, h2.2]
  refine .of_wp fun M A E s Q hq => ?_
  obtain ⟨hp, g, d, tk, os⟩ := s
  have f1 := F.conv_sub_int
  have f2 := F.madeHere_int
  have f6 : typeOf (.str ⟨#[a, b]⟩ u) = pure (.type "str") := rfl
  clear h1 h2 h
  repeat (any_goals (first
    | assumption
    | ((with_reducible show wpAny _ _ ((int_private% "intFromText") _ _ _) _ _ _); refine wp_hex ht (Nat.le_of_ble_eq_true rfl) hw h3 ?_)
    | wp_step))
  all_goals first | exact ⟨_, rfl, hq⟩ | skip

theorem call_hex {prog : Program} {w : World} {A : Around} {E : Value → Shared → Prop} {s : Shared} {Q : Value → Shared → Prop} {c : Nat} {u v : Tok} (hc : c < 256)
    (h : Q (.int c s.toks) { s with toks := s.toks + 1 }) : wpAny (model prog w) A (call (.type "int") [.str ⟨#[hexC (c / 16), hexC (c % 16)]⟩ u, .int 16 v]) Q E s :=
  callType_new F.called_int F.newNe_int (typeCall_int_2 _ _) (newCall_int_2 _ _) (fun obj => args_object_init_3 obj _ _) F.entry_int_new (gives_hex hc).meets
    (show (Made.int c).post _ s from ⟨rfl, h⟩)

theorem unquote_spec {w : World} {A : Around} {s : Shared} {E : Value → Shared → Prop} {p : Program} {loose : List Str} {mg mb : Str → Option Value} {t : Tok} {c : Nat}
    (X : (hd.heap_39 w.params).In s.heap) (T : TopRead p loose mg mb s.heap) (hA : A.depth < recursionLimit) (hc : c < 256) :
    wpAny (model PG w) A (call (.ref 51) [.str (word c) t]) (fun v s' => (∃ u, v = .str ⟨#[c]⟩ u) ∧ Keeps s s') E s := by
  refine enter [(Str.ofString "s", .str (word c) t)] X T hA rfl rfl (BindsTo.of_eq rfl) rfl fun h₁ L F N => ?_
  refine wpAny_execs_cons (wpAny_Return_some (Call_ (nameX_B F X T rfl (by boot_fast) (by decide) ?_)))
  refine PyProof.Rows.callWith_builtin1 (spliced_more (Call_ (nameX_B F X T rfl (by boot_fast) (by decide) ?_)))
  refine PyProof.Rows.callWith_type1 (spliced_more (Subscript_ (nameX_L F rfl ?_)))
  refine wpAny_Slice (evalPart_some_step (wpAny_Constant_int (evalPart_some_step (wpAny_Constant_int (evalPart_none_step ?_)))))
  refine slice_strN_ss F N (fun h' t' k F' N' => ?_) (hsz := by show 3 ≤ sizeLine; decide)
  refine spliced_more (wpAny_Constant_int (spliced_none ?_))
  have e : Txt.slice (word c) (some 1) (some 3) = ⟨#[hexC (c / 16), hexC (c % 16)]⟩ := rfl
  rw [e]
  refine call_hex hc (spliced_none (chr_of_range (by omega) (by omega) ?_))
  exact ⟨⟨_, rfl⟩, _, _, rfl, F'.keep⟩
end Mine

-- part Q3
namespace Mine

/-- a dict of texts and ints -/
def DI (w : World) (h : Heap) (d : Addr) (D : List (Str × Int)) : Prop :=
  ∃ vals : List (Str × Int × Tok), h.DictOf (PySem.strKind PG w) d (intPairs vals) ∧ vals.map (fun x => (x.1, x.2.1)) = D
theorem DI.keep {w : World} {h h' : Heap} {d : Addr} {D : List (Str × Int)} (x : DI w h d D) (hk : ∀ b o, h.get? b = some o → h'.get? b = some o) : DI w h' d D :=
  let ⟨v, a, b⟩ := x; ⟨v, a.keep hk, b⟩
theorem DI.sameBut {w : World} {h h' : Heap} {d b : Addr} {D : List (Str × Int)} (x : DI w h d D) (hs : Heap.SameBut b h h') (hab : d ≠ b) : DI w h' d D :=
  let ⟨v, a, e⟩ := x; ⟨v, a.sameBut hs hab, e⟩

section
variable {prog : Program} {w : World} {A : Around} {E : Value → Shared → Prop} {s : Shared} {env : Env}

theorem Call_values {o : Expr} {apos pos : Pos} {d : Addr} {kvs : List (Str × Value)} {Q : Value → Shared → Prop} (hdS : (d == sysModules) = false) (hm : s.heap.DictOf (PySem.strKind prog w) d kvs)
    (hbase : attributeBase o "values" env (eval o env) = eval o env) (hline : (apos.endLine == pos.line) = true)
    (ho : ∀ Q', Q' (.ref d) s → wpAny (model prog w) A (eval o env) Q' E s)
    (hQ : Q (.ref s.heap.objs.size) { s with heap := s.heap.push { cls := .type "dict_values", data := .fields #[.ref d] } }) :
    wpAny (model prog w) A (eval (.Call (.Attribute o "values" apos) [] [] pos) env) Q E s := by
  refine wpAny_Call_method (T := "dict") (id := "dict.values") hbase rfl hline F.plainAttrs_dict F.slot_dict_values F.type_dict_values (ho _ ⟨hm.typeIs, hm.mapOf.noDict, ?_⟩)
  show wpAny _ _ (callWith pos (.builtin "dict.values") [.ref d] [] []) Q E s
  exact method_meetsIn F.slot_dict_values F.entry_dict_values rfl (PySem.evalArgs_none ⟨rfl, hm.typeIs, F.args_dict_values_1 _, _, meets_dict_values (PySem.strKind prog w) d hdS, ⟨kvs, hm⟩, hQ⟩)

/-- the addresses of a loop's own iterator, against the frame and its ledger -/
theorem side_frame {h₀ h : Heap} {L d : Addr} {m : Str → Option Value} (F : Fr h₀ L h m) (hd : d ≠ L) : L ∉ [h.objs.size, d] := by
  simp only [List.mem_cons, List.not_mem_nil, or_false, not_or]
  exact ⟨Nat.ne_of_lt F.ns.lt, Ne.symm hd⟩
theorem side_new {h₀ h : Heap} {L : Addr} {m : Str → Option Value} (F : Fr h₀ L h m) : ∀ b ∈ [h.objs.size], h₀.get? b = none := by
  simpa using next_is_new F
theorem side_news {h₀ h : Heap} {L : Addr} {news : List (Addr × Obj)} (N : News h₀ L h news) : ∀ p ∈ news, p.1 ∉ [h.objs.size] := fun p hp q => Nat.ne_of_lt (Heap.lt_size (N p hp).1) (List.mem_singleton.mp q)

/-- a loop over a values view; the ledger of the frame does not change -/
theorem iterVals {h₀ : Heap} {m : Str → Option Value} {news : List (Addr × Obj)} {d vw : Addr} {kvs : List (Str × Value)} {x : Str} {body : List Stmt} {Q : Flow → Shared → Prop}
    (hh : A.handled = none) (hv : s.heap.IsValuesView vw d) (hd : s.heap.DictOf (PySem.strKind prog w) d kvs) (F : Fr h₀ env.locals s.heap m) (N : News h₀ env.locals s.heap news) (hdL : d ≠ env.locals)
    (J : Nat → (Str → Option Value) → List (Addr × Obj) → Prop) (h0 : J 0 m news)
    (step : ∀ i k v m₁ news₁ s₁ own, kvs[i]? = some (k, v) → J i m₁ news₁ → Fr h₀ env.locals s₁.heap (fun y => if y = x then some v else m₁ y) → News h₀ env.locals s₁.heap (own ++ news₁) → (∀ p ∈ news₁, p.1 ∉ [s.heap.objs.size]) →
      wpAny (model prog w) A (execs body env) (LoopStepU h₀ env.locals [s.heap.objs.size] own (J (i + 1)) s₁) E s₁)
    (done : ∀ h' tk m' news', Fr h₀ env.locals h' m' → News h₀ env.locals h' news' → J kvs.length m' news' → Q .next { s with heap := h', toks := tk }) :
    wpAny (model prog w) A (pyIter (.ref vw)) (fun it s₂ => LoopAtU prog w A h₀ env x body Q E it s₂) E s := by
  obtain ⟨ep, hat⟩ := hd.dictAt
  exact wpAny_pyIter_values hv hat ⟨s.heap.objs.size, [s.heap.objs.size, d], [s.heap.objs.size], kvs.length, _, _, m, news, J, rfl, Walks.dictValues (knd := strKind prog w) hh _ d (Nat.ne_of_lt hat.lt_size) kvs ep,
    side_frame F hdL, side_new F, side_news N, ⟨⟨_, Heap.get?_push_size _ rfl, rfl, rfl⟩, hat.push _⟩, F.push _, N.pushKeep _, h0,
    fun i v m₁ news₁ s₁ own _ hx hJ hoff _ _ _ _ F₁ N₁ => let ⟨k, hk⟩ := hx; step i k v m₁ news₁ s₁ own hk hJ F₁ N₁ hoff, fun h' tk m' news' F' N' _ hJ => done h' tk m' news' F' N' hJ⟩
end

theorem intPairs_at {vals : List (Str × Int × Tok)} {i : Nat} {k : Str} {v : Value} (h : (intPairs vals)[i]? = some (k, v)) : ∃ x, vals[i]? = some x ∧ v = .int x.2.1 x.2.2 := by
  unfold intPairs at h
  rw [List.getElem?_map] at h
  cases hx : vals[i]? with
  | none => rw [hx] at h; cases h
  | some x =>
    rw [hx] at h
    cases h
    exact ⟨x, rfl, rfl⟩

theorem iadd_int' {prog : Program} {w : World} {A : Around} {E : Value → Shared → Prop} {s : Shared} {a b : Int} {t u : Tok} {Q : Value → Shared → Prop} (h : Q (.int (a + b) s.toks) { s with toks := s.toks + 1 }) :
    wpAny (model prog w) A (inplaceOp .Add (.int a t) (.int b u)) Q E s := wpAny_iadd_int h

theorem count_calls_spec {w : World} {A : Around} {s : Shared} {E : Value → Shared → Prop} {p : Program} {loose : List Str} {mg mb : Str → Option Value} {d : Addr} {D : List (Str × Int)}
    (X : (hd.heap_39 w.params).In s.heap) (T : TopRead p loose mg mb s.heap) (hA : A.depth < recursionLimit) (hh : A.handled = none) (hd : DI w s.heap d D) (hds : (d == sysModules) = false) :
    wpAny (model PG w) A (call (.ref 28) [.ref d]) (fun v s' => (∃ u, v = .int (D.map (·.2)).sum u) ∧ Keeps s s') E s := by
  obtain ⟨vals, hd, rfl⟩ := hd
  refine enter [(Str.ofString "callers", .ref d)] X T hA rfl rfl (BindsTo.of_eq rfl) rfl fun h₁ L F N => ?_
  refine wpAny_execs_cons (wpAny_Assign_Name (wpAny_Constant_int (storeX_L F N fun h₂ F₂ N₂ => ?_)))
  refine wpAny_execs_cons (For_invU s.heap rfl rfl ?_)
  have hd₂ : h₂.DictOf (PySem.strKind PG w) d (intPairs vals) := hd.keep F₂.keep
  have hdL : d ≠ L := Nat.ne_of_lt (Nat.lt_of_lt_of_le hd.dictAt.choose_spec.lt_size F.above)
  refine Call_values hds hd₂ rfl rfl (fun Q' hQ' => nameX_L F₂ rfl hQ') ?_
  refine iterVals (h₀ := s.heap) hh ⟨_, Heap.get?_push_size _ rfl, rfl, rfl⟩ (hd₂.push _) (F₂.push _) News.nil hdL
    (fun i m news => news = [] ∧ ∃ t, m (Str.ofString "nc") = some (.int ((vals.take i).map (·.2.1)).sum t)) ⟨rfl, _, rfl⟩ ?_ ?_
  · rintro i k v m₁ news₁ s₁ own hx ⟨rfl, t, hm⟩ F₁ N₁ hoff
    obtain ⟨x, hx1, rfl⟩ := intPairs_at hx
    refine wpAny_execs_cons (wpAny_AugAssign_Name ?_)
    refine wpAny_loadName_local rfl rfl F₁.ns ((if_neg (by decide)).trans hm) ?_
    refine nameX_L F₁ (if_pos rfl) ?_
    refine wpAny_iadd_int (storeX_L F₁ N₁ fun h₃ F₃ N₃ => ?_)
    refine wpAny_execs_nil ⟨rfl, _, _, _, [], rfl, F₃, N₃, (fun _ h => nomatch h), rfl, s₁.toks, ?_⟩
    refine (if_pos rfl).trans ?_
    rw [List.take_add_one, hx1]
    simp
  · rintro h' tk m' news' F' N' ⟨rfl, t, hm⟩
    refine wpAny_execs_cons (wpAny_Return_some (nameX_L F' hm ?_))
    refine ⟨⟨t, ?_⟩, _, _, rfl, F'.keep⟩
    have : (intPairs vals).length = vals.length := by simp [intPairs]
    simp [this, Function.comp_def]
end Mine

-- part Q4
namespace Mine

def look (D : List (Str × Int)) (k : Str) : Option Int := (D.find? fun p => p.1 = k).map (·.2)
def put (D : List (Str × Int)) (k : Str) (n : Int) : List (Str × Int) :=
  if D.any (fun p => p.1 = k) then D.map (fun p => if p.1 = k then (p.1, n) else p) else D ++ [(k, n)]
def bump (D : List (Str × Int)) (k : Str) (n : Int) : List (Str × Int) := put D k ((look D k).getD 0 + n)
def merge (D : List (Str × Int)) (D' : List (Str × Int)) : List (Str × Int) := D'.foldl (fun a p => bump a p.1 p.2) D

def OI (w : World) (o : Obj) (D : List (Str × Int)) : Prop := ∃ vals : List (Str × Int × Tok), o.IsDictOf (PySem.strKind PG w) (intPairs vals) ∧ vals.map (fun x => (x.1, x.2.1)) = D

theorem stored_int (vals : List (Str × Int × Tok)) (k : Str) (n : Int) (t : Tok) :
    ∃ vals', stored (intPairs vals) k (.int n t) = intPairs vals' ∧ vals'.map (fun x => (x.1, x.2.1)) = put (vals.map fun x => (x.1, x.2.1)) k n := by
  unfold stored put
  have e : ((intPairs vals).any fun kv => decide (kv.1 = k)) = ((vals.map fun x => (x.1, x.2.1)).any fun p => decide (p.1 = k)) := by
    simp [intPairs, Function.comp_def]
  rw [e]
  split
  · refine ⟨vals.map fun x => if x.1 = k then (x.1, n, t) else x, ?_, ?_⟩
    · unfold intPairs
      rw [List.map_map, List.map_map]
      apply List.map_congr_left
      intro x _
      simp only [Function.comp]
      split <;> rfl
    · rw [List.map_map, List.map_map]
      apply List.map_congr_left
      intro x _
      simp only [Function.comp]
      split <;> rfl
  · exact ⟨vals ++ [(k, n, t)], by simp [intPairs], by simp⟩
theorem valueAt_int (vals : List (Str × Int × Tok)) (k : Str) :
    (∃ n t, valueAt (intPairs vals) k = some (.int n t) ∧ look (vals.map fun x => (x.1, x.2.1)) k = some n) ∨ (valueAt (intPairs vals) k = none ∧ look (vals.map fun x => (x.1, x.2.1)) k = none) := by
  unfold valueAt look intPairs
  induction vals with
  | nil => exact Or.inr ⟨rfl, rfl⟩
  | cons x l ih =>
    simp only [List.map_cons, List.find?_cons]
    by_cases h : x.1 = k
    · simp [h]
    · simpa [h] using ih

section
variable {prog : Program} {w : World} {A : Around} {E : Value → Shared → Prop} {s : Shared} {env : Env}

theorem forItems {h₀ : Heap} {m : Str → Option Value} {news : List (Addr × Obj)} {d : Addr} {kvs : List (Str × Value)} {xk xv : Str} {pk pv pt pos apos cpos : Pos} {x1 : Nat} {o : Expr} {body : List Stmt} {Q : Flow → Shared → Prop}
    (hh : A.handled = none) (hxk : env.kindOf xk = some .local) (hxv : env.kindOf xv = some .local)
    (hp : (env.scope.kind == .class || (env.scope.kind == .module && env.locals != env.globals)) = false)
    (hdL : d ≠ env.locals) (hdS : (d == sysModules) = false) (hm : s.heap.DictOf (PySem.strKind prog w) d kvs)
    (hbase : attributeBase o "items" env (eval o env) = eval o env) (hline : (apos.endLine == cpos.line) = true)
    (ho : ∀ Q', Q' (.ref d) s → wpAny (model prog w) A (eval o env) Q' E s)
    (F : Fr h₀ env.locals s.heap m) (N : News h₀ env.locals s.heap news)
    (J : Nat → (Str → Option Value) → List (Addr × Obj) → Prop) (h0 : J 0 m news)
    (step : ∀ it i k v key m₁ news₁ s₁ own, kvs[i]? = some (k, v) → (PySem.strKind prog w).is k key = true → J i m₁ news₁ → (∀ p ∈ news₁, p.1 ∉ [it]) → (∀ p ∈ own, p.1 ∈ [it, d]) →
      Fr h₀ env.locals s₁.heap (fun y => if y = xv then some v else if y = xk then some key else m₁ y) → News h₀ env.locals s₁.heap (own ++ news₁) →
      wpAny (model prog w) A (execs body env) (LoopStepU h₀ env.locals [it] own (J (i + 1)) s₁) E s₁)
    (hQ : ∀ h' tk m' news', Fr h₀ env.locals h' m' → News h₀ env.locals h' news' → J kvs.length m' news' → Q .next { s with heap := h', toks := tk })
    (hs : ∀ x, foldedSetIterable (.Call (.Attribute o "items" apos) [] [] cpos) env x = pure x := by intro _; rfl)
    (hE : PassesOwn (model prog w) A env E := by passes_own) :
    wpAny (model prog w) A (exec (.For (.Tuple [.Name xk pk, .Name xv pv] x1 pt) (.Call (.Attribute o "items" apos) [] [] cpos) body [] pos) env) Q E s := by
  refine wpAny_For (wpAny_Call_items hdS hm hbase hline ho ?_) hs
  obtain ⟨ep, hat⟩ := hm.dictAt
  refine wpAny_pyIter_items (knd := PySem.strKind prog w) (d := d) (kvs := kvs) (ep := ep) ⟨_, Heap.get?_push_size _ rfl, rfl, rfl⟩ (hat.push _) ?_
  have hsz : (s.heap.push { cls := .type "dict_items", data := .fields #[.ref d] }).objs.size = s.heap.objs.size + 1 := Heap.size_push ..
  have F₁ := F.push { cls := .type "dict_items", data := .fields #[.ref d] }
  refine codeAny_forLoop_items_frU (knd := PySem.strKind prog w) (R := fun r s' => match r with | .ok f => Q f s' | .error e => cameBackBy (model prog w) A env E e s') (h₀ := h₀) hh hxk hxv hp ?_ hdL ?_ ?_ ?_
    (Heap.get?_push_size _ rfl) ((hat.push _).push _) (F₁.push _) (news := news) (fun p hp => ⟨Heap.get?_push_of_some _ (Heap.get?_push_of_some _ (N p hp).1), (N p hp).2⟩) J h0 ?_ fun h' tk m' news' F' N' _ hJ => hQ h' tk m' news' F' N' hJ
  · exact Nat.ne_of_gt F₁.ns.lt
  · exact Nat.ne_of_lt (hat.push _).lt_size
  · exact F₁.fresh
  · intro p hp hI
    have h1 := Heap.lt_size (N p hp).1
    have h2 := List.mem_singleton.mp hI
    have h3 : p.1 = s.heap.objs.size + 1 := h2.trans hsz
    rw [h3] at h1
    exact absurd h1 (Nat.not_lt.mpr (Nat.le_succ _))
  · intro i k v key m₁ news₁ s₁ own a1 a2 a3 a4 a5 _ a6 a7
    exact wpAny_passesOwn hE (step _ i k v key m₁ news₁ s₁ own a1 a2 a3 a4 a5 a6 a7)
end

theorem is_str {w : World} {k : Str} {key : Value} (h : (PySem.strKind PG w).is k key = true) : ∃ t, key = .str k t := Value.isStrOf_shape h

/-- one store into the dict of the ledger -/
theorem setI {w : World} {A : Around} {E : Value → Shared → Prop} {s : Shared} {h₀ : Heap} {L d : Addr} {m : Str → Option Value} {own : List (Addr × Obj)} {o : Obj} {D : List (Str × Int)} {k : Str} {t u : Tok} {n : Int} {Q : Unit → Shared → Prop}
    (F : Fr h₀ L s.heap m) (N : News h₀ L s.heap (own ++ [(d, o)])) (hown : ∀ p ∈ own, p.1 ≠ d) (ho : OI w o D) (hsz : D.length ≤ sizeLine)
    (h : ∀ h' o', Fr h₀ L h' m → News h₀ L h' (own ++ [(d, o')]) → OI w o' (put D k n) → Q () { s with heap := h', toks := s.toks + 1 }) :
    wpAny (model PG w) A (setItem (.ref d) (.str k t) (.int n u)) Q E s := by
  obtain ⟨vals, hd, rfl⟩ := ho
  have hmem := N (d, o) (by simp)
  refine wpAny_setItem_pairs (knd := PySem.strKind PG w) (strKind_is _ _ _ _) (Heap.dictOf_iff.mpr ⟨o, hmem.1, hd⟩) (fun h' hm' hs => ?_) (by simpa [intPairs] using hsz)
  obtain ⟨o', ho', hd'⟩ := Heap.dictOf_iff.mp hm'
  obtain ⟨vals', e1, e2⟩ := stored_int vals k n u
  rw [e1] at hd'
  exact h h' o' (F.change hs hmem.2.1 hmem.2.2) (news_set N hown (fun p hp => nomatch hp) hs ho') ⟨vals', hd', e2⟩

theorem DI.ofO {w : World} {h : Heap} {d : Addr} {o : Obj} {D : List (Str × Int)} (ho : h.get? d = some o) (x : OI w o D) : DI w h d D :=
  let ⟨v, a, b⟩ := x; ⟨v, Heap.dictOf_iff.mpr ⟨o, ho, a⟩, b⟩
theorem pairs_take {vals : List (Str × Int × Tok)} {D : List (Str × Int)} {i : Nat} {k : Str} {v : Value} (he : vals.map (fun x => (x.1, x.2.1)) = D) (h : (intPairs vals)[i]? = some (k, v)) :
    ∃ n t, v = .int n t ∧ D.take (i + 1) = D.take i ++ [(k, n)] := by
  subst he
  unfold intPairs at h
  rw [List.getElem?_map] at h
  cases hx : vals[i]? with
  | none => rw [hx] at h; cases h
  | some x =>
    rw [hx] at h
    cases h
    refine ⟨_, _, rfl, ?_⟩
    rw [List.take_add_one, List.getElem?_map, hx]
    rfl

theorem put_fresh {D : List (Str × Int)} {k : Str} {n : Int} (h : ∀ p ∈ D, p.1 ≠ k) : put D k n = D ++ [(k, n)] := by
  unfold put
  rw [if_neg]
  simp only [List.any_eq_true, decide_eq_true_eq, not_exists, not_and]
  exact h

theorem put_length (D : List (Str × Int)) (k : Str) (n : Int) : (put D k n).length ≤ D.length + 1 := by
  unfold put; split <;> simp
theorem merge_length (D D' : List (Str × Int)) : (merge D D').length ≤ D.length + D'.length := by
  unfold merge
  induction D' generalizing D with
  | nil => simp
  | cons p r ih =>
    simp only [List.foldl_cons, List.length_cons]
    have h1 := ih (bump D p.1 p.2)
    have h2 := put_length D p.1 ((look D p.1).getD 0 + p.2)
    have h3 : (bump D p.1 p.2).length ≤ D.length + 1 := h2
    omega
theorem keys_nodup {w : World} {h : Heap} {d : Addr} {vals : List (Str × Int × Tok)} {D : List (Str × Int)} (he : vals.map (fun x => (x.1, x.2.1)) = D) (x : h.DictOf (PySem.strKind PG w) d (intPairs vals)) : (D.map (·.1)).Nodup := by
  subst he
  obtain ⟨_, _, _, _, _, _, _, _, hn⟩ := x
  simpa [intPairs, Function.comp_def] using hn
theorem take_fresh {D : List (Str × Int)} {i : Nat} {k : Str} {n : Int} (hn : (D.map (·.1)).Nodup) (h : D.take (i + 1) = D.take i ++ [(k, n)]) : ∀ p ∈ D.take i, p.1 ≠ k := by
  intro p hp e
  have h1 : ((D.take (i + 1)).map (·.1)).Nodup := by
    rw [List.map_take]; exact hn.sublist (List.take_sublist _ _)
  rw [h, List.map_append, List.nodup_append] at h1
  exact h1.2.2 p.1 (List.mem_map.mpr ⟨p, hp, rfl⟩) k (by simp) e

theorem add_callers_spec {w : World} {A : Around} {s : Shared} {E : Value → Shared → Prop} {p : Program} {loose : List Str} {mg mb : Str → Option Value} {d₁ d₂ : Addr} {D₁ D₂ : List (Str × Int)}
    (X : (hd.heap_39 w.params).In s.heap) (T : TopRead p loose mg mb s.heap) (hA : A.depth < recursionLimit) (hh : A.handled = none) (hd₁ : DI w s.heap d₁ D₁) (hd₂ : DI w s.heap d₂ D₂)
    (hs₁ : (d₁ == sysModules) = false) (hs₂ : (d₂ == sysModules) = false) (hsz : D₁.length + D₂.length ≤ sizeLine) :
    wpAny (model PG w) A (call (.ref 21) [.ref d₁, .ref d₂]) (fun v s' => ∃ d, v = .ref d ∧ s.heap.get? d = none ∧ (d == sysModules) = false ∧ DI w s'.heap d (merge D₁ D₂) ∧ Keeps s s') E s := by
  obtain ⟨vals₁, hd₁, he₁⟩ := hd₁
  obtain ⟨vals₂, hd₂, he₂⟩ := hd₂
  refine enter [(Str.ofString "target", .ref d₁), (Str.ofString "source", .ref d₂)] X T hA rfl rfl (BindsTo.of_eq rfl) rfl fun h₁ L F N => ?_
  refine wpAny_execs_cons (wpAny_Assign_Name (newDict_K F N T.nolimit fun d h₂ o F₂ N₂ _ hds hdo _ _ _ => ?_))
  refine storeX_L F₂ N₂ fun h₃ F₃ N₃ => ?_
  have hdn : s.heap.get? d = none := (N₃ (d, o) (by simp)).2.2
  have hne : ∀ d', (∃ kvs, s.heap.DictOf (PySem.strKind PG w) d' kvs) → d' ≠ L ∧ d' ≠ d := fun d' ⟨kvs, hk⟩ =>
    ⟨Nat.ne_of_lt (Nat.lt_of_lt_of_le hk.dictAt.choose_spec.lt_size F.above), fun e => by obtain ⟨oo, _, _, q, _⟩ := hk; rw [e, hdn] at q; cases q⟩
  have ne₁ := hne d₁ ⟨_, hd₁⟩
  have ne₂ := hne d₂ ⟨_, hd₂⟩
  refine wpAny_execs_cons ?_
  refine forItems (h₀ := s.heap) hh rfl rfl rfl ne₁.1 hs₁ (hd₁.keep F₃.keep) rfl rfl (fun Q' hQ' => nameX_L F₃ rfl hQ') F₃ N₃
    (fun i m news => ∃ o, news = [(d, o)] ∧ OI w o (D₁.take i) ∧ m (Str.ofString "new_callers") = some (.ref d) ∧ m (Str.ofString "source") = some (.ref d₂))
    ⟨o, rfl, ⟨[], hdo, rfl⟩, rfl, rfl⟩ ?_ ?_
  · rintro it i k v key m₁ news₁ s₁ own hx hkey ⟨o, rfl, hO, hm1, hm2⟩ hoff hown F₄ N₄
    obtain ⟨t, rfl⟩ := is_str hkey
    obtain ⟨n, u, rfl, htk⟩ := pairs_take he₁ hx
    refine wpAny_execs_cons (wpAny_Assign_Subscript ?_)
    refine nameX_L F₄ (if_pos rfl) ?_
    refine nameX_L F₄ ((if_neg (by decide)).trans ((if_neg (by decide)).trans hm1)) ?_
    refine nameX_L F₄ ((if_neg (by decide)).trans (if_pos rfl)) ?_
    have hown' : ∀ p ∈ own, p.1 ≠ d := fun p hp e => by
      have := hown p hp
      rw [e] at this
      rcases List.mem_cons.mp this with q | q
      · exact hoff (d, o) (by simp) (by rw [q]; simp)
      · exact ne₁.2 (List.mem_singleton.mp q).symm
    refine setI F₄ N₄ hown' hO ?_ fun h₅ o₅ F₅ N₅ hO₅ => ?_
    · have := List.length_take_le' i D₁; omega
    refine wpAny_execs_nil ⟨rfl, _, _, _, [(d, o₅)], rfl, F₅, N₅, fun p hp => hoff (d, o) (by simp) |> fun q => by rcases List.mem_singleton.mp hp with rfl; exact q, o₅, rfl, ?_, ?_, ?_⟩
    · rw [htk]
      rw [put_fresh] at hO₅
      · exact hO₅
      · intro p hp e
        exact take_fresh (keys_nodup he₁ hd₁) htk p hp e
    · exact (if_neg (by decide)).trans ((if_neg (by decide)).trans hm1)
    · exact (if_neg (by decide)).trans ((if_neg (by decide)).trans hm2)
  · rintro h' tk m' news' F' N' ⟨o, rfl, hO, hm1, hm2⟩
    have hall : D₁.take (intPairs vals₁).length = D₁ := by
      rw [show (intPairs vals₁).length = D₁.length by rw [← he₁]; simp [intPairs]]; exact List.take_length
    rw [hall] at hO
    refine wpAny_execs_cons ?_
    refine forItems (h₀ := s.heap) hh rfl rfl rfl ne₂.1 hs₂ (hd₂.keep F'.keep) rfl rfl (fun Q' hQ' => nameX_L F' hm2 hQ') F' N'
      (fun i m news => ∃ o, news = [(d, o)] ∧ OI w o (merge D₁ (D₂.take i)) ∧ m (Str.ofString "new_callers") = some (.ref d))
      ⟨o, rfl, hO, hm1⟩ ?_ ?_
    · rintro it i k v key m₁ news₁ s₁ own hx hkey ⟨o, rfl, hO, hm1⟩ hoff hown F₄ N₄
      obtain ⟨t, rfl⟩ := is_str hkey
      obtain ⟨n, u, rfl, htk⟩ := pairs_take he₂ hx
      have hown' : ∀ p ∈ own, p.1 ≠ d := fun p hp e => by
        have := hown p hp
        rw [e] at this
        rcases List.mem_cons.mp this with q | q
        · exact hoff (d, o) (by simp) (by rw [q]; simp)
        · exact ne₂.2 (List.mem_singleton.mp q).symm
      have hoff' : ∀ o' : Obj, ∀ p ∈ [((d, o') : Addr × Obj)], p.1 ∉ [it] := fun o' p hp => by rw [List.mem_singleton.mp hp]; exact hoff (d, o) (by simp)
      have hL : (merge D₁ (D₂.take i)).length ≤ sizeLine := by
        have h1 := merge_length D₁ (D₂.take i)
        have h2 := List.length_take_le' i D₂
        omega
      have hmerge : merge D₁ (D₂.take (i + 1)) = bump (merge D₁ (D₂.take i)) k n := by
        rw [htk]; unfold merge; rw [List.foldl_append]; rfl
      have hdo := DI.ofO (N₄ (d, o) (by simp)).1 hO
      have hmf : (fun y => if y = Str.ofString "caller" then some (Value.int n u) else if y = Str.ofString "func" then some (Value.str k t) else m₁ y) (Str.ofString "new_callers") = some (.ref d) := (if_neg (by decide)).trans ((if_neg (by decide)).trans hm1)
      have hmk : (fun y => if y = Str.ofString "caller" then some (Value.int n u) else if y = Str.ofString "func" then some (Value.str k t) else m₁ y) (Str.ofString "func") = some (Value.str k t) := (if_neg (by decide)).trans (if_pos rfl)
      generalize hM : merge D₁ (D₂.take i) = M at *
      obtain ⟨vs, hdv, hvs⟩ := hdo
      refine wpAny_execs_cons (wpAny_If (wpAny_isTrue_Compare1 ?_))
      refine nameX_L F₄ hmk (nameX_L F₄ hmf ?_)
      refine wpAny_in_of (knd := PySem.strKind PG w) (strKind_is _ _ _ _) hds hdv.mapOf (wpAny_truthy_bool ?_)
      rcases valueAt_int vs k with ⟨n₀, t₀, e1, e2⟩ | ⟨e1, e2⟩
      · rw [e1]
        refine (if_pos rfl).mpr ?_
        refine wpAny_execs_cons (wpAny_If (isTrue_plain (Call_ (nameX_B F₄ X T rfl (by boot_fast) (by decide) ?_))))
        refine PyProof.Rows.callWith_builtin1 (spliced_more (nameX_L F₄ (if_pos rfl) (spliced_more (nameX_B F₄ X T rfl (by boot_fast) (by decide) (spliced_none ?_)))))
        refine IsiPair.int_tuple (wpAny_truthy_bool ?_)
        refine (if_neg (by decide)).mpr ?_
        refine wpAny_execs_cons (wpAny_AugAssign_Subscript ?_)
        refine nameX_L F₄ hmf (nameX_L F₄ hmk ?_)
        refine wpAny_getItem_of (knd := PySem.strKind PG w) (strKind_is _ _ _ _) hdv.mapOf e1 ?_
        refine nameX_L F₄ (if_pos rfl) (wpAny_iadd_int ?_)
        refine setI F₄ N₄ hown' hO hL fun h₅ o₅ F₅ N₅ hO₅ => ?_
        refine wpAny_execs_nil (wpAny_execs_nil (wpAny_execs_nil ⟨rfl, _, _, _, [(d, o₅)], rfl, F₅, N₅, hoff' _, o₅, rfl, ?_, hmf⟩))
        rw [hmerge]
        unfold bump
        rw [← hvs, e2, hvs]
        exact hO₅
      · rw [e1]
        refine (if_neg (by decide)).mpr ?_
        refine wpAny_execs_cons (wpAny_Assign_Subscript ?_)
        refine nameX_L F₄ (if_pos rfl) (nameX_L F₄ hmf (nameX_L F₄ hmk ?_))
        refine setI F₄ N₄ hown' hO hL fun h₅ o₅ F₅ N₅ hO₅ => ?_
        refine wpAny_execs_nil (wpAny_execs_nil ⟨rfl, _, _, _, [(d, o₅)], rfl, F₅, N₅, hoff' _, o₅, rfl, ?_, hmf⟩)
        rw [hmerge]
        unfold bump
        rw [← hvs, e2, hvs]
        simpa using hO₅
    · rintro h' tk m' news' F' N' ⟨o, rfl, hO, hm1⟩
      have hall : D₂.take (intPairs vals₂).length = D₂ := by
        rw [show (intPairs vals₂).length = D₂.length by rw [← he₂]; simp [intPairs]]; exact List.take_length
      rw [hall] at hO
      refine wpAny_execs_cons (wpAny_Return_some (nameX_L F' hm1 ?_))
      exact ⟨d, rfl, hdn, hds, DI.ofO (N' (d, o) (by simp)).1 hO, _, _, rfl, F'.keep⟩
end Mine

-- part Q5
namespace Mine
open PySem.StrLaws PySem.Builtin.Str

def sig3 (c : Nat) : List Nat := [61, hexC (c / 16), hexC (c % 16)]
def txt (cs : List Nat) : Str := ⟨(cs.flatMap sig3).toArray⟩
theorem txt_one (c : Nat) : txt [c] = word c := rfl
theorem flat_len (cs : List Nat) : (cs.flatMap sig3).length = 3 * cs.length := by
  induction cs with
  | nil => rfl
  | cons c r ih => rw [List.flatMap_cons, List.length_append, ih]; simp [sig3]; omega
theorem txt_len (cs : List Nat) : (txt cs).length = 3 * cs.length := by
  show (cs.flatMap sig3).toArray.size = _
  rw [List.size_toArray, flat_len]
def hx (c : Nat) : Bool := c == 61 || (48 ≤ c && c ≤ 57) || (65 ≤ c && c ≤ 70)
theorem hexC_hx {d : Nat} (h : d < 16) : hx (hexC d) = true := by
  have : ∀ d, d < 16 → hx (hexC d) = true := by decide
  exact this d h
theorem txt_hx {cs : List Nat} (h : ∀ c ∈ cs, c < 256) : ∀ c ∈ (txt cs).cps.toList, hx c = true := by
  intro c hc
  have hc' : c ∈ cs.flatMap sig3 := by simpa [txt] using hc
  obtain ⟨d, hd, hcd⟩ := List.mem_flatMap.mp hc'
  have := h d hd
  simp only [sig3, List.mem_cons, List.not_mem_nil, or_false] at hcd
  rcases hcd with rfl | rfl | rfl
  · rfl
  · exact hexC_hx (by omega)
  · exact hexC_hx (by omega)
theorem hx_plain : ((List.range 128).all fun c => !hx c || (!Unicode.isSpace c && !Unicode.isLineBreak c)) = true := by decide +kernel
theorem hx_lt {c : Nat} (h : hx c = true) : c < 128 := by
  simp only [hx, Bool.or_eq_true, beq_iff_eq, Bool.and_eq_true, decide_eq_true_eq] at h
  omega
theorem hx_no {c : Nat} (h : hx c = true) : Unicode.isSpace c = false ∧ Unicode.isLineBreak c = false := by
  have := List.all_eq_true.mp hx_plain c (List.mem_range.mpr (hx_lt h))
  rw [h] at this
  simpa using this

theorem ls_idle (x : Str) (hb : ∀ i, i < x.length → Unicode.isLineBreak (x.cps.getD i 0) = false) : ∀ (m a : Nat), a + m ≤ x.length →
    Id.run (forIn (m := Id) (List.range' a m) ((#[], 0) : LsSt) (lsBody x)) = ((#[], 0) : LsSt) := by
  intro m
  induction m with
  | zero => intro a _; rfl
  | succ m ih =>
    intro a ha
    rw [List.range'_succ, List.forIn_cons]
    have e : lsBody x a ((#[], 0) : LsSt) = pure (.yield (#[], 0)) := by
      unfold lsBody
      simp only [hb a (by omega)]
      rfl
    rw [e]
    exact ih (a + 1) (by omega)
theorem txt_lines {cs : List Nat} (h : ∀ c ∈ cs, c < 256) (hne : cs ≠ []) : Txt.lines (txt cs) = [txt cs] := by
  have hb : ∀ i, i < (txt cs).length → Unicode.isLineBreak ((txt cs).cps.getD i 0) = false := by
    intro i hi
    have hi' : i < (txt cs).cps.size := hi
    rw [Array.getD_eq_getD_getElem?, Array.getElem?_eq_getElem hi']
    exact (hx_no (txt_hx h _ (by simp))).2
  have hl : 0 < (txt cs).length := by
    rw [txt_len]
    cases cs with
    | nil => exact absurd rfl hne
    | cons c r => simp only [List.length_cons]; omega
  have hs : lineSpans (txt cs) = [(0, (txt cs).length, (txt cs).length)] := by
    rw [ls_eq, ls_idle (txt cs) hb (txt cs).length 0 (by omega)]
    unfold lsEnd
    rw [if_pos hl]
    rfl
  have hc : (lineCuts (txt cs) == [(0, (txt cs).length)]) = true := by
    unfold lineCuts
    rw [hs]
    simp
  unfold Txt.lines
  rw [if_pos hc]
theorem txt_rstrip {cs : List Nat} (h : ∀ c ∈ cs, c < 256) : Txt.rstrip (txt cs) = txt cs := by
  unfold Txt.rstrip Txt.stripBy
  rw [if_pos]
  unfold stripSame stripLo stripHi
  have : ((txt cs).cps.toList.drop 0).reverse.takeWhile Unicode.isSpace = [] := by
    rw [List.drop_zero]
    cases hq : (txt cs).cps.toList.reverse with
    | nil => rfl
    | cons c r =>
      have hm : c ∈ (txt cs).cps.toList := List.mem_reverse.mp (by rw [hq]; simp)
      rw [List.takeWhile_cons, (hx_no (txt_hx h c hm)).1]
      rfl
  simp only [Bool.false_eq_true, if_false, this, if_true]
  simp
theorem flat_drop (cs : List Nat) : ∀ j, (cs.flatMap sig3).drop (3 * j) = (cs.drop j).flatMap sig3 := by
  induction cs with
  | nil => intro j; simp
  | cons c r ih =>
    intro j
    cases j with
    | zero => rfl
    | succ j =>
      rw [List.flatMap_cons, List.drop_succ_cons, ← ih j]
      show (61 :: hexC (c / 16) :: hexC (c % 16) :: r.flatMap sig3).drop (3 * (j + 1)) = _
      rw [show 3 * (j + 1) = (3 * j) + 1 + 1 + 1 by omega]
      rfl
theorem txt_slice {cs : List Nat} {j : Nat} {c : Nat} (hj : cs[j]? = some c) {a b : Int} (ha : a = 3 * j) (hb : b = 3 * j + 3) : Txt.slice (txt cs) (some a) (some b) = word c := by
  have hlt : j < cs.length := (List.getElem?_eq_some_iff.mp hj).1
  have hl : (txt cs).cps.toList.length = 3 * cs.length := by simpa [txt] using flat_len cs
  have := slice_closes (x := txt cs) (i := a) (j := b) ⟨by omega, by omega, by omega⟩
  rw [eq_of_beq this]
  have e1 : a.toNat = 3 * j := by omega
  have e2 : (b - a).toNat = 3 := by omega
  rw [e1, e2]
  have e3 : (txt cs).cps.toList.drop (3 * j) = (cs.drop j).flatMap sig3 := by
    rw [← flat_drop]; simp [txt]
  rw [e3, List.drop_eq_getElem_cons hlt]
  have e4 : cs[j] = c := (List.getElem?_eq_some_iff.mp hj).2
  rw [e4]
  rfl
theorem txt_sign {cs : List Nat} {j : Nat} {c : Nat} (hj : cs[j]? = some c) : (txt cs).cps[3 * j]? = some 61 ∧ (txt cs).cps[3 * j + 1]? = some (hexC (c / 16)) ∧ (txt cs).cps[3 * j + 2]? = some (hexC (c % 16)) := by
  have hlt : j < cs.length := (List.getElem?_eq_some_iff.mp hj).1
  have e3 : (cs.flatMap sig3).drop (3 * j) = (cs.drop j).flatMap sig3 := flat_drop cs j
  rw [List.drop_eq_getElem_cons hlt] at e3
  have e4 : cs[j] = c := (List.getElem?_eq_some_iff.mp hj).2
  rw [e4, List.flatMap_cons] at e3
  have k : ∀ i, ((cs.flatMap sig3).drop (3 * j))[i]? = (txt cs).cps[3 * j + i]? := by
    intro i; rw [List.getElem?_drop]; simp [txt]
  refine ⟨?_, ?_, ?_⟩
  · rw [show 3 * j = 3 * j + 0 by omega, ← k 0, e3]; rfl
  · rw [← k 1, e3]; rfl
  · rw [← k 2, e3]; rfl
end Mine

-- part Q6
namespace Mine

section
variable {prog : Program} {w : World} {A : Around} {E : Value → Shared → Prop} {s : Shared} {env : Env}

theorem iterList {h₀ : Heap} {m : Str → Option Value} {news : List (Addr × Obj)} {l : Addr} {its : Array Value} {x : Str} {body : List Stmt} {Q : Flow → Shared → Prop}
    (hh : A.handled = none) (hl : s.heap.IsList l its) (F : Fr h₀ env.locals s.heap m) (N : News h₀ env.locals s.heap news) (hlL : l ≠ env.locals)
    (J : Nat → (Str → Option Value) → List (Addr × Obj) → Prop) (h0 : J 0 m news)
    (step : ∀ i v m₁ news₁ s₁ own, its[i]? = some v → J i m₁ news₁ → Fr h₀ env.locals s₁.heap (fun y => if y = x then some v else m₁ y) → News h₀ env.locals s₁.heap (own ++ news₁) → (∀ p ∈ news₁, p.1 ∉ [s.heap.objs.size]) → (∀ p ∈ own, p.1 ∈ [s.heap.objs.size, l]) →
      wpAny (model prog w) A (execs body env) (LoopStepU h₀ env.locals [s.heap.objs.size] own (J (i + 1)) s₁) E s₁)
    (done : ∀ h' tk m' news', Fr h₀ env.locals h' m' → News h₀ env.locals h' news' → J its.size m' news' → Q .next { s with heap := h', toks := tk }) :
    wpAny (model prog w) A (pyIter (.ref l)) (fun it s₂ => LoopAtU prog w A h₀ env x body Q E it s₂) E s := by
  obtain ⟨ol, hol, _⟩ := id hl
  exact wpAny_pyIter_list hl ⟨s.heap.objs.size, [s.heap.objs.size, l], [s.heap.objs.size], its.size, _, _, m, news, J, rfl, Walks.list hh _ l (Nat.ne_of_lt (Heap.lt_size hol)) its,
    side_frame F hlL, side_new F, side_news N, ⟨⟨_, Heap.get?_push_size _ rfl, rfl, rfl⟩, hl.at fun o e => Heap.get?_push_of_some _ e⟩, F.push _, N.pushKeep _, h0,
    fun i v m₁ news₁ s₁ own _ hx hJ hoff hown _ _ _ F₁ N₁ => step i v m₁ news₁ s₁ own hx hJ F₁ N₁ hoff hown, fun h' tk m' news' F' N' _ hJ => done h' tk m' news' F' N' hJ⟩

theorem iterKeys {h₀ : Heap} {m : Str → Option Value} {news : List (Addr × Obj)} {d : Addr} {kvs : List (Str × Value)} {x : Str} {body : List Stmt} {Q : Flow → Shared → Prop}
    (hh : A.handled = none) (hd : s.heap.DictOf (PySem.strKind prog w) d kvs) (hdS : (d == sysModules) = false) (F : Fr h₀ env.locals s.heap m) (N : News h₀ env.locals s.heap news) (hdL : d ≠ env.locals)
    (J : Nat → (Str → Option Value) → List (Addr × Obj) → Prop) (h0 : J 0 m news)
    (step : ∀ i k v t m₁ news₁ s₁ own, kvs[i]? = some (k, v) → J i m₁ news₁ → Fr h₀ env.locals s₁.heap (fun y => if y = x then some (.str k t) else m₁ y) → News h₀ env.locals s₁.heap (own ++ news₁) → (∀ p ∈ news₁, p.1 ∉ [s.heap.objs.size]) → (∀ p ∈ own, p.1 ∈ [s.heap.objs.size, d]) →
      wpAny (model prog w) A (execs body env) (LoopStepU h₀ env.locals [s.heap.objs.size] own (J (i + 1)) s₁) E s₁)
    (done : ∀ h' tk m' news', Fr h₀ env.locals h' m' → News h₀ env.locals h' news' → J kvs.length m' news' → Q .next { s with heap := h', toks := tk }) :
    wpAny (model prog w) A (pyIter (.ref d)) (fun it s₂ => LoopAtU prog w A h₀ env x body Q E it s₂) E s := by
  obtain ⟨ep, hat⟩ := hd.dictAt
  exact wpAny_pyIter_dict hdS hat ⟨s.heap.objs.size, [s.heap.objs.size, d], [s.heap.objs.size], kvs.length, _, _, m, news, J, rfl, Walks.dictKeys (knd := PySem.strKind prog w) hh _ d (Nat.ne_of_lt hat.lt_size) kvs ep,
    side_frame F hdL, side_new F, side_news N, ⟨⟨_, Heap.get?_push_size _ rfl, rfl, rfl⟩, hat.push _⟩, F.push _, N.pushKeep _, h0,
    fun i v m₁ news₁ s₁ own _ hx hJ hoff hown _ _ _ F₁ N₁ => by
      obtain ⟨k, y, hk, hs⟩ := hx
      obtain ⟨t, rfl⟩ := Value.isStrOf_shape hs
      exact step i k y t m₁ news₁ s₁ own hk hJ F₁ N₁ hoff hown,
    fun h' tk m' news' F' N' _ hJ => done h' tk m' news' F' N' hJ⟩

theorem iterRange {h₀ : Heap} {m : Str → Option Value} {news : List (Addr × Obj)} {n : Nat} {t : Tok} {x : Str} {body : List Stmt} {Q : Flow → Shared → Prop}
    (hh : A.handled = none) (F : Fr h₀ env.locals s.heap m) (N : News h₀ env.locals s.heap news) (hn : n < 2 ^ 30)
    (J : Nat → (Str → Option Value) → List (Addr × Obj) → Prop) (h0 : J 0 m news)
    (step : ∀ i t m₁ news₁ s₁ own I, i < n → J i m₁ news₁ → Fr h₀ env.locals s₁.heap (fun y => if y = x then some (.int (i : Int) t) else m₁ y) → News h₀ env.locals s₁.heap (own ++ news₁) → (∀ p ∈ news₁, p.1 ∉ [I]) → (∀ p ∈ own, p.1 ∈ [I]) →
      wpAny (model prog w) A (execs body env) (LoopStepU h₀ env.locals [I] own (J (i + 1)) s₁) E s₁)
    (done : ∀ h' tk m' news', Fr h₀ env.locals h' m' → News h₀ env.locals h' news' → J n m' news' → Q .next { s with heap := h', toks := tk }) :
    wpAny (model prog w) A (call (.type "range") [.int (n : Int) t]) (fun xv s₁ => wpAny (model prog w) A (pyIter xv) (fun it s₂ => LoopAtU prog w A h₀ env x body Q E it s₂) E s₁) E s := by
  refine call_range_1 ?_
  refine wpAny_pyIter_range (IsRange.new ..) (small_one (by omega) (by omega) (by omega) (by omega)) ?_
  have F₁ := (F.push { cls := .type "range", data := .fields #[.int 0 s.toks, .int n t, .int 1 (s.toks + 1)] })
  have hsz : Builtin.Range.rangeSize 0 (n : Int) 1 = (n : Int) := by rw [rangeSize_one]; split <;> omega
  refine ⟨_, [_], [_], n, _, _, m, news, J, rfl, Walks.range hh _ 0 1 n, ?_, ?_, ?_, ?_, F₁.push _, fun p hp => ⟨Heap.get?_push_of_some _ (Heap.get?_push_of_some _ (N p hp).1), (N p hp).2⟩, h0, ?_, ?_⟩
  · intro hm
    exact absurd F₁.ns.lt ((List.mem_singleton.mp hm) ▸ Nat.lt_irrefl _)
  · intro b hb
    rw [List.mem_singleton.mp hb]
    exact next_is_new F₁
  · intro p hp hI
    have h1 := Heap.lt_size (N p hp).1
    have h2 : p.1 = s.heap.objs.size + 1 := (List.mem_singleton.mp hI).trans (Heap.size_push ..)
    rw [h2] at h1
    exact absurd h1 (Nat.not_lt.mpr (Nat.le_succ _))
  · show IsRangeIter _ _ ((0 : Int) + ((0 : Nat) : Int) * 1) ((n : Int) - ((0 : Nat) : Int)) 1
    have e1 : ((0 : Int) + ((0 : Nat) : Int) * 1) = 0 := by simp
    have e2 : ((n : Int) - ((0 : Nat) : Int)) = Builtin.Range.rangeSize 0 n 1 := by rw [hsz]; simp
    rw [e1, e2]
    exact Heap.get?_push_size _ rfl
  · rintro i v m₁ news₁ s₁ own hi ⟨t, rfl⟩ hJ hoff hown _ _ _ F₁ N₁
    have e : (0 : Int) + (i : Int) * 1 = (i : Int) := by omega
    rw [e] at F₁
    exact step i t m₁ news₁ s₁ own _ hi hJ F₁ N₁ hoff hown
  · intro h' tk m' news' F' N' _ hJ
    exact done h' tk m' news' F' N' hJ
end
end Mine

-- part Q7
namespace Mine

def plainS (cs : List Nat) : Str := ⟨cs.toArray⟩
theorem plainS_snoc (cs : List Nat) (c : Nat) : plainS cs ++ (⟨#[c]⟩ : Str) = plainS (cs ++ [c]) := by
  show Str.mk (cs.toArray ++ #[c]) = Str.mk (cs ++ [c]).toArray
  simp
theorem plainS_len (cs : List Nat) : (plainS cs).length = cs.length := by
  show cs.toArray.size = _
  simp

section
variable {prog : Program} {w : World} {A : Around} {E : Value → Shared → Prop} {s : Shared} {env : Env}
theorem whileR {test : Expr} {body : List Stmt} {pos : Pos} {Q : Flow → Shared → Prop} (I : Nat → Shared → Prop)
    (turn : ∀ n s, I n s → wpAny (model prog w) A (isTrue test env (eval test env)) (fun b s₂ =>
        if b then wpAny (model prog w) A (execs body env) (fun f s₃ => match f with
            | .next | .cont => ∃ m, m < n ∧ I m s₃
            | .brk => Q .next s₃
            | .ret v => Q (.ret v) s₃) E s₂
        else Q .next s₂) E s)
    (n : Nat) (h : I n s) (hE : PassesOwn (model prog w) A env E := by passes_own) :
    wpAny (model prog w) A (exec (.While test body [] pos) env) Q E s := by
  refine wpAny_While (codeAny_whileLoop I (fun n s hI => ?_) n h)
  refine wpAny_passesOwn hE (wpAny_mono (turn n s hI) (fun b s₂ h₂ => ?_) fun _ _ e => e)
  cases b with
  | false => exact (if_neg (by decide)).mpr (wpAny_execs_nil ((if_neg (by decide)).mp h₂))
  | true => exact (if_pos rfl).mpr (wpAny_passesOwn hE ((if_pos rfl).mp h₂))

/-- a sign of a text -/
theorem signAt {x : Str} {t u : Tok} {value slice : Expr} {i : Int} {k c : Nat} {Q : Value → Shared → Prop} (hi : i = (k : Int)) (hk : k < 2 ^ 30) (hc : x.cps[k]? = some c)
    (h : Q (.str ⟨#[c]⟩ s.toks) { s with toks := s.toks + 1 })
    (hs : subscripted slice false (.str x t) (.int i u) = operate [.str x t, .int i u] (getItem (.str x t) (.int i u)) := by with_unfolding_all rfl) :
    wpAny (model prog w) A (subscriptTail value slice (.str x t) (.int i u)) Q E s := by
  refine tail_any (typeIs_str _ _ _) F.slot_str_getitem.lookup (P.getItem_str ?_ (StrLaws.at_nonneg (by omega) ?_) h) hs
  · have a1 : ¬ i < -(2 ^ 63 : Int) := by omega
    have a2 : ¬ i ≥ 2 ^ 63 := by omega
    rw [decide_eq_false a1, decide_eq_false a2]; rfl
  · rw [hi]; exact hc
theorem inText {x : Str} {t u : Tok} {c : Nat} {b : Bool} {Q : Value → Shared → Prop} (hb : decide (c ∈ x.cps.toList) = b) (h : Q (.bool b) s) :
    wpAny (model prog w) A (compareOp .In (.str ⟨#[c]⟩ u) (.str x t)) Q E s := by
  refine P.in_str ?_
  rw [StrLaws.found_one, hb]
  exact h
theorem notInText {x : Str} {t u : Tok} {c : Nat} {b : Bool} {Q : Value → Shared → Prop} (hb : decide (c ∈ x.cps.toList) = b) (h : Q (.bool (!b)) s) :
    wpAny (model prog w) A (compareOp .NotIn (.str ⟨#[c]⟩ u) (.str x t)) Q E s := by
  refine P.notIn_str ?_
  rw [StrLaws.found_one, hb]
  exact h
end
theorem hex_in {d : Nat} (h : d < 16) : decide (hexC d ∈ (Str.ofString "0123456789abcdefABCDEF").cps.toList) = true := by
  have : ((List.range 16).all fun d => decide (hexC d ∈ (Str.ofString "0123456789abcdefABCDEF").cps.toList)) = true := by decide +kernel
  exact List.all_eq_true.mp this d (List.mem_range.mpr h)

theorem hex_notin {d : Nat} (h : d < 16) : decide (hexC d ∈ (Str.ofString "\r\n").cps.toList) = false := by
  have : ((List.range 16).all fun d => !decide (hexC d ∈ (Str.ofString "\r\n").cps.toList)) = true := by decide +kernel
  have := List.all_eq_true.mp this d (List.mem_range.mpr h)
  simpa using this
theorem nl_eq : Str.ofString "\n" = (⟨#[10]⟩ : Str) := by decide +kernel
theorem ends_nl (cs : List Nat) : Txt.endswith (plainS (cs ++ [10])) (Str.ofString "\n") = true := by
  rw [nl_eq]
  have h := (StrLaws.subAt_one (plainS (cs ++ [10])) 10 cs.length).mpr (by simp [plainS])
  have e : (plainS (cs ++ [10])).length = cs.length + 1 := by rw [plainS_len]; simp
  have e2 : (⟨#[10]⟩ : Str).length = 1 := rfl
  unfold Txt.endswith
  rw [e, e2]
  simpa using h.2
theorem slice_nl (cs : List Nat) : Txt.slice (plainS (cs ++ [10])) none (some (-((Str.ofString "\n").length : Int))) = plainS cs := by
  have e1 : -((Str.ofString "\n").length : Int) = -1 := by rw [nl_eq]; rfl
  have el : (plainS (cs ++ [10])).length = cs.length + 1 := by rw [plainS_len]; simp
  have e2 : Builtin.Str.strSliceIndices none (some (-1)) 1 (plainS (cs ++ [10])).length = Builtin.Str.strSliceIndices (some 0) (some (cs.length : Int)) 1 (plainS (cs ++ [10])).length := by
    rw [StrLaws.sliceIdx_none_lo, el]
    unfold Builtin.Str.strSliceIndices
    have a1 : (max (0 : Int) (min (if (-1 : Int) < 0 then -1 + ((cs.length + 1 : Nat) : Int) else -1) ((cs.length + 1 : Nat) : Int))) = max 0 (min (if ((cs.length : Int)) < 0 then (cs.length : Int) + ((cs.length + 1 : Nat) : Int) else (cs.length : Int)) ((cs.length + 1 : Nat) : Int)) := by
      rw [if_pos (by decide), if_neg (by omega)]; omega
    simp only [show (1 : Int) > 0 by decide, if_true]
    rw [a1]
  have e3 : Txt.slice (plainS (cs ++ [10])) none (some (-1)) = Txt.slice (plainS (cs ++ [10])) (some 0) (some (cs.length : Int)) := by
    unfold Txt.slice; rw [e2]
  rw [e1, e3]
  have := slice_closes (x := plainS (cs ++ [10])) (i := 0) (j := (cs.length : Int)) ⟨by omega, by omega, by simp [plainS]; omega⟩
  rw [eq_of_beq this]
  simp [plainS]

/-- what the names of decode hold -/
structure DecM (cs : List Nat) (t : Tok) (m : Str → Option Value) (j : Nat) : Prop where
  enc : m (Str.ofString "encoded") = some (.str (txt cs) t)
  eol : m (Str.ofString "eol") = some (.str (Str.ofString "\n") 209)
  line : ∃ u, m (Str.ofString "line") = some (.str (txt cs) u)
  n : ∃ u, m (Str.ofString "n") = some (.int (3 * cs.length) u)
  i : ∃ u, m (Str.ofString "i") = some (.int (3 * j) u)
  dec : ∃ u, m (Str.ofString "decoded") = some (.str (plainS (cs.take j ++ if j = cs.length then [10] else [])) u)

theorem decode_spec {w : World} {A : Around} {s : Shared} {E : Value → Shared → Prop} {p : Program} {loose : List Str} {mg mb : Str → Option Value} {t : Tok} {cs : List Nat}
    (X : (hd.heap_39 w.params).In s.heap) (T : TopRead p loose mg mb s.heap) (hA : A.depth + 1 < recursionLimit) (hh : A.handled = none) (hc : ∀ c ∈ cs, c < 256) (hne : cs ≠ []) (hl : cs.length ≤ 1000) :
    wpAny (model PG w) A (call (.ref 71) [.str (txt cs) t]) (fun v s' => (∃ u, v = .str (plainS cs) u) ∧ Keeps s s') E s := by
  have hlen := txt_len cs
  have hpos : 0 < cs.length := by cases cs with | nil => exact absurd rfl hne | cons c r => exact Nat.succ_pos _
  have hsL : sizeLine = 16777216 := sizeLine_eq
  refine enter [(Str.ofString "encoded", .str (txt cs) t), (Str.ofString "eol", .str (Str.ofString "\n") 209)] X T (by omega) rfl rfl (BindsTo.of_defaults (T := 64) rfl (X _ _ rfl) rfl rfl rfl) rfl fun h₁ L F N => ?_
  refine wpAny_execs_cons (wpAny_If (wpAny_isTrue_Not (isTrue_plain (nameX_L F rfl ?_))))
  refine P.truthy_str (by omega) ?_
  rw [show (((txt cs).length : Int) != 0) = true from by simp; omega]
  refine (if_neg (by decide)).mpr (wpAny_execs_nil ?_)
  refine wpAny_execs_cons (wpAny_Assign_Name (wpAny_Constant_str (storeX_L F N fun h₂ F₂ N₂ => ?_)))
  try dsimp only at F₂ ⊢
  refine wpAny_execs_cons (For_invU s.heap rfl rfl ?_)
  refine MethodCall_ (nameX_L F₂ rfl ?_)
  refine GM.splitlines (callWith_method0 ?_)
  refine splitlinesN F₂ N₂ (fun l h₃ k e F₃ N₃ => ?_) (by omega) (by have := lineCuts_le (txt cs); omega)
  rw [txt_lines hc hne] at e
  obtain ⟨u₁, rfl⟩ : ∃ u, l = [(txt cs, u)] := by
    match l, e with
    | [(y, u)], e => exact ⟨u, by rw [show y = txt cs from by simpa using e]⟩
  refine iterList (h₀ := s.heap) hh ⟨_, (N₃ _ (List.mem_cons_self ..)).1, rfl, _, rfl⟩ F₃ N₃ (N₃ _ (List.mem_cons_self ..)).2.1
    (fun i m news => m (Str.ofString "encoded") = some (.str (txt cs) t) ∧ m (Str.ofString "eol") = some (.str (Str.ofString "\n") 209) ∧
      ∃ u, m (Str.ofString "decoded") = some (.str (plainS (if i = 0 then [] else cs ++ [10])) u)) ⟨rfl, rfl, _, rfl⟩ ?_ ?_
  · rintro i v m₁ news₁ s₁ own hx ⟨he, ho, u₂, hd⟩ F₁ N₁ hoff hown
    have hi0 : i = 0 ∧ v = .str (txt cs) u₁ := by
      cases i with
      | zero => exact ⟨rfl, by simpa [strValues] using hx.symm⟩
      | succ i => simp [strValues] at hx
    obtain ⟨rfl, rfl⟩ := hi0
    -- line = line.rstrip()
    refine wpAny_execs_cons (wpAny_Assign_Name (MethodCall_ (nameX_L F₁ (if_pos rfl) (GM.rstrip (callWith_method0 (SC.rstrip (fun t₂ k₂ => ?_) (by omega)))))))
    rw [txt_rstrip hc]
    refine storeX_L F₁ N₁ fun h₄ F₄ N₄ => ?_
    try dsimp only at F₄ ⊢
    -- if not line
    refine wpAny_execs_cons (wpAny_If (wpAny_isTrue_Not (isTrue_plain (nameX_L F₄ (if_pos rfl) ?_))))
    refine P.truthy_str (by omega) ?_
    rw [show (((txt cs).length : Int) != 0) = true from by simp; omega]
    refine (if_neg (by decide)).mpr (wpAny_execs_nil ?_)
    refine wpAny_execs_cons (wpAny_Assign_Name (wpAny_Constant_int (storeX_L F₄ N₄ fun h₅ F₅ N₅ => ?_)))
    try dsimp only at F₅ ⊢
    refine wpAny_execs_cons (wpAny_Assign_Name (Call_ (nameX_B F₅ X T rfl (by boot_fast) (by decide) ?_)))
    refine PyProof.Rows.callWith_builtin1 (spliced_more (nameX_L F₅ ((if_neg (by decide)).trans (if_pos rfl)) (spliced_none ?_)))
    refine P.len_str (by omega) (storeX_L F₅ N₅ fun h₆ F₆ N₆ => ?_)
    try dsimp only at F₆ ⊢
    refine wpAny_execs_cons (whileR (fun k s' => ∃ j h tk m, s' = { s₁ with heap := h, toks := tk } ∧ Fr s.heap L h m ∧ News s.heap L h (own ++ news₁) ∧ DecM cs t m j ∧ j ≤ cs.length ∧ k = cs.length - j) ?_ (cs.length - 0) ?_)
    · rintro k s' ⟨j, h, tk, m, rfl, F, N, D, hj, rfl⟩
      obtain ⟨he', ho', ⟨ul, hl'⟩, ⟨un, hn'⟩, ⟨ui, hi'⟩, ⟨ud, hd'⟩⟩ := D
      refine wpAny_isTrue_Compare1 (nameX_L F hi' (nameX_L F hn' (P.lt_int (wpAny_truthy_bool ?_))))
      by_cases hlt : j < cs.length
      · rw [decide_eq_true (show (3 * (j : Int)) < 3 * cs.length by omega)]
        refine (if_pos rfl).mpr ?_
        obtain ⟨c, hcj⟩ : ∃ c, cs[j]? = some c := ⟨cs[j], by simp [hlt]⟩
        have hc256 : c < 256 := hc c (List.mem_of_getElem? hcj)
        obtain ⟨s0, s1, s2⟩ := txt_sign hcj
        have hdj : j ≠ cs.length := by omega
        rw [if_neg hdj, List.append_nil] at hd'
        -- c = line[i]
        refine wpAny_execs_cons (wpAny_Assign_Name (Subscript_ (nameX_L F hl' (nameX_L F hi' ?_))))
        refine signAt (k := 3 * j) (by push_cast; rfl) (by omega) s0 (storeX_L F N fun h₇ F₇ N₇ => ?_)
        try dsimp only at F₇ ⊢
        -- if c != '='
        refine wpAny_execs_cons (wpAny_If (wpAny_isTrue_Compare1 (nameX_L F₇ (if_pos rfl) (wpAny_Constant_str (P.ne_str (wpAny_truthy_bool ?_))))))
        rw [show ((⟨#[61]⟩ : Str).cps.toList != (Str.ofString "=").cps.toList) = false from by decide +kernel]
        refine (if_neg (by decide)).mpr ?_
        -- elif i + 1 == n
        refine wpAny_execs_cons (wpAny_If (wpAny_isTrue_Compare1 (wpAny_BinOp (nameX_L F₇ ((if_neg (by decide)).trans hi') (wpAny_Constant_int (P.add_int ?_))))))
        refine nameX_L F₇ ((if_neg (by decide)).trans hn') (P.eq_int (wpAny_truthy_bool ?_))
        rw [show ((3 * (j : Int) + 1) == 3 * (cs.length : Int)) = false from by simp; omega]
        refine (if_neg (by decide)).mpr ?_
        -- elif i + 2 < n and ..
        try dsimp only
        refine wpAny_execs_cons (wpAny_If (wpAny_isTrue_BoolOp (wpAny_allTrue_And_cons (wpAny_isTrue_Compare1 (wpAny_BinOp (nameX_L F₇ ((if_neg (by decide)).trans hi') (wpAny_Constant_int (P.add_int ?_))))))))
        refine nameX_L F₇ ((if_neg (by decide)).trans hn') (P.lt_int (wpAny_truthy_bool ?_))
        rw [decide_eq_true (show (3 * (j : Int) + 2) < 3 * cs.length by omega)]
        refine (if_pos rfl).mpr (wpAny_allTrue_And_cons (wpAny_isTrue_Compare1 (Subscript_ (nameX_L F₇ ((if_neg (by decide)).trans hl') (wpAny_BinOp (nameX_L F₇ ((if_neg (by decide)).trans hi') (wpAny_Constant_int (P.add_int ?_))))))))
        refine signAt (k := 3 * j + 1) (by push_cast; rfl) (by omega) s1 (nameX_K F₇ X T (v := .str (Str.ofString "0123456789abcdefABCDEF") 1252) rfl (inText (hex_in (by omega)) (wpAny_truthy_bool ((if_pos rfl).mpr ?_))))
        refine wpAny_allTrue_And_cons (wpAny_isTrue_Compare1 (Subscript_ (nameX_L F₇ ((if_neg (by decide)).trans hl') (wpAny_BinOp (nameX_L F₇ ((if_neg (by decide)).trans hi') (wpAny_Constant_int (P.add_int ?_)))))))
        refine signAt (k := 3 * j + 2) (by push_cast; rfl) (by omega) s2 (nameX_K F₇ X T (v := .str (Str.ofString "0123456789abcdefABCDEF") 1252) rfl (inText (hex_in (by omega)) (wpAny_truthy_bool ((if_pos rfl).mpr ?_))))
        refine wpAny_allTrue_And_nil ((if_pos rfl).mpr ?_)
        -- decoded += unquote(line[i:i + 3])
        try dsimp only
        refine wpAny_execs_cons (wpAny_AugAssign_Name (wpAny_loadName_local rfl rfl F₇.ns ((if_neg (by decide)).trans hd') (Call_ (nameX_K F₇ X T (v := .ref 51) rfl ?_))))
        refine callWith_K X rfl (spliced_more (Subscript_ (nameX_L F₇ ((if_neg (by decide)).trans hl') ?_)))
        refine wpAny_Slice (evalPart_some_step (nameX_L F₇ ((if_neg (by decide)).trans hi') (evalPart_some_step (wpAny_BinOp (nameX_L F₇ ((if_neg (by decide)).trans hi') (wpAny_Constant_int (P.add_int (evalPart_none_step ?_))))))))
        refine slice_strN_ss F₇ N₇ (fun h₈ t₈ k₈ F₈ N₈ => ?_) (hsz := by omega)
        dsimp only
        have esl : Txt.slice (txt cs) (some (3 * (j : Int))) (some (3 * (j : Int) + 3)) = word c := txt_slice hcj (a := 3 * (j : Int)) (b := 3 * (j : Int) + 3) (Eq.refl _) (Eq.refl _)
        rw [esl]
        refine spliced_none ⟨X.keeps F₈.keep, ?_⟩
        refine wpAny_mono (unquote_spec (X.keeps F₈.keep) (T.keeps F₈.keep) (by show A.depth + 1 < _; exact hA) hc256) (fun v s₉ h₉ => ?_) (fun _ _ e => e)
        obtain ⟨⟨u₉, rfl⟩, h₉, k₉, rfl, hk₉⟩ := h₉
        have F₉ := F₈.keeps hk₉
        have N₉ := N₈.grown hk₉
        refine SB.iadd (fun t₁₀ k₁₀ => ?_) (by rw [plainS_len]; show _ + 1 ≤ _; have := List.length_take_le' j cs; omega)
        rw [plainS_snoc]
        refine storeX_L F₉ N₉ fun h₁₀ F₁₀ N₁₀ => ?_
        try dsimp only at F₁₀ ⊢
        refine wpAny_execs_cons (wpAny_AugAssign_Name (wpAny_loadName_local rfl rfl F₁₀.ns ((if_neg (by decide)).trans ((if_neg (by decide)).trans hi')) (wpAny_Constant_int (P.iadd_int ?_))))
        refine storeX_L F₁₀ N₁₀ fun h₁₁ F₁₁ N₁₁ => wpAny_execs_nil (wpAny_execs_nil (wpAny_execs_nil ?_))
        -- if i == n
        try dsimp only at F₁₁ ⊢
        refine wpAny_execs_cons (wpAny_If (wpAny_isTrue_Compare1 (nameX_L F₁₁ (if_pos rfl) (nameX_L F₁₁ ((if_neg (by decide)).trans ((if_neg (by decide)).trans ((if_neg (by decide)).trans hn'))) (P.eq_int (wpAny_truthy_bool ?_))))))
        have htake : cs.take j ++ [c] = cs.take (j + 1) := by rw [List.take_add_one, hcj]; rfl
        rw [htake] at F₁₁
        have hi3 : (3 * (j : Int) + 3) = 3 * ((j + 1 : Nat) : Int) := by push_cast; omega
        by_cases hlast : j + 1 = cs.length
        · rw [show ((3 * (j : Int) + 3) == 3 * (cs.length : Int)) = true from by simp; omega]
          refine (if_pos rfl).mpr ?_
          refine wpAny_execs_cons (wpAny_AugAssign_Name (wpAny_loadName_local rfl rfl F₁₁.ns ((if_neg (by decide)).trans (if_pos rfl)) (nameX_L F₁₁ ((if_neg (by decide)).trans ((if_neg (by decide)).trans ((if_neg (by decide)).trans ho'))) ?_)))
          refine SB.iadd (fun t₁₂ k₁₂ => ?_) (by rw [plainS_len]; show _ + 1 ≤ _; have := List.length_take_le' (j + 1) cs; omega)
          rw [show Str.ofString "\n" = (⟨#[10]⟩ : Str) from by decide +kernel, plainS_snoc]
          refine storeX_L F₁₁ N₁₁ fun h₁₂ F₁₂ N₁₂ => wpAny_execs_nil (wpAny_execs_nil ?_)
          refine ⟨cs.length - (j + 1), by omega, j + 1, h₁₂, _, _, rfl, F₁₂, N₁₂, ⟨?_, ?_, ⟨ul, ?_⟩, ⟨un, ?_⟩, ⟨_, (if_neg (by decide)).trans ((if_pos rfl).trans (congrArg (fun z => some (Value.int z _)) hi3))⟩, ⟨t₁₂, ?_⟩⟩, by omega, rfl⟩
          · exact (if_neg (by decide)).trans ((if_neg (by decide)).trans ((if_neg (by decide)).trans ((if_neg (by decide)).trans he')))
          · exact (if_neg (by decide)).trans ((if_neg (by decide)).trans ((if_neg (by decide)).trans ((if_neg (by decide)).trans ho')))
          · exact (if_neg (by decide)).trans ((if_neg (by decide)).trans ((if_neg (by decide)).trans ((if_neg (by decide)).trans hl')))
          · exact (if_neg (by decide)).trans ((if_neg (by decide)).trans ((if_neg (by decide)).trans ((if_neg (by decide)).trans hn')))
          · refine (if_pos rfl).trans ?_
            rw [if_pos hlast]
        · rw [show ((3 * (j : Int) + 3) == 3 * (cs.length : Int)) = false from by simp; omega]
          refine (if_neg (by decide)).mpr (wpAny_execs_nil (wpAny_execs_nil ?_))
          refine ⟨cs.length - (j + 1), by omega, j + 1, h₁₁, _, _, rfl, F₁₁, N₁₁, ⟨?_, ?_, ⟨ul, ?_⟩, ⟨un, ?_⟩, ⟨_, (if_pos rfl).trans (congrArg (fun z => some (Value.int z _)) hi3)⟩, ⟨t₁₀, ?_⟩⟩, by omega, rfl⟩
          · exact (if_neg (by decide)).trans ((if_neg (by decide)).trans ((if_neg (by decide)).trans he'))
          · exact (if_neg (by decide)).trans ((if_neg (by decide)).trans ((if_neg (by decide)).trans ho'))
          · exact (if_neg (by decide)).trans ((if_neg (by decide)).trans ((if_neg (by decide)).trans hl'))
          · exact (if_neg (by decide)).trans ((if_neg (by decide)).trans ((if_neg (by decide)).trans hn'))
          · refine (if_neg (by decide)).trans ((if_pos rfl).trans ?_)
            rw [if_neg hlast, List.append_nil]
      · have hje : j = cs.length := by omega
        rw [decide_eq_false (show ¬ (3 * (j : Int)) < 3 * cs.length by omega)]
        refine (if_neg (by decide)).mpr ?_
        refine wpAny_execs_nil ⟨rfl, _, _, _, news₁, rfl, F, N, hoff, he', ho', ud, ?_⟩
        rw [hd', if_pos hje, hje, List.take_length]
        rfl
    · refine ⟨0, h₆, _, _, rfl, F₆, N₆, ⟨?_, ?_, ⟨t₂, ?_⟩, ⟨_, (if_pos rfl).trans (congrArg (fun z => some (Value.int z _)) ?_)⟩, ⟨_, (if_neg (by decide)).trans (if_pos rfl)⟩, ⟨u₂, ?_⟩⟩, Nat.zero_le _, rfl⟩
      · exact (if_neg (by decide)).trans ((if_neg (by decide)).trans ((if_neg (by decide)).trans ((if_neg (by decide)).trans he)))
      · exact (if_neg (by decide)).trans ((if_neg (by decide)).trans ((if_neg (by decide)).trans ((if_neg (by decide)).trans ho)))
      · exact (if_neg (by decide)).trans ((if_neg (by decide)).trans (if_pos rfl))
      · rw [hlen]; push_cast; rfl
      · refine (if_neg (by decide)).trans ((if_neg (by decide)).trans ((if_neg (by decide)).trans ((if_neg (by decide)).trans (hd.trans ?_))))
        rw [if_neg (show ¬ (0 = cs.length) by omega)]
        rfl
  · rintro h' tk m' news' F' N' ⟨he, ho, u₂, hd⟩
    have hd2 : m' (Str.ofString "decoded") = some (.str (plainS (cs ++ [10])) u₂) := hd.trans (by rw [if_neg]; intro q; simp [strValues] at q)
    clear hd
    obtain ⟨c, hcj⟩ : ∃ c, cs[cs.length - 1]? = some c := ⟨cs[cs.length - 1], by simp⟩
    obtain ⟨s0, s1, s2⟩ := txt_sign hcj
    refine wpAny_execs_cons (wpAny_If (wpAny_isTrue_BoolOp (wpAny_allTrue_And_cons (wpAny_isTrue_Compare1 (Subscript_ (nameX_L F' he (UnaryOp_ (wpAny_Constant_int (P.neg_int ?_)))))))))
    refine tail_any (typeIs_str _ _ _) PySem.F.slot_str_getitem.lookup (P.getItem_str (c := hexC (c % 16)) (by decide) ?_ ?_) (by with_unfolding_all rfl)
    · rw [StrLaws.seqIndex_neg (by decide) (by rw [hlen]; omega)]
      rw [show (-1 + ((txt cs).length : Int)).toNat = 3 * (cs.length - 1) + 2 by rw [hlen]; omega]
      exact s2
    refine wpAny_Constant_str (notInText (b := false) ?_ (wpAny_truthy_bool ((if_pos rfl).mpr ?_)))
    · exact hex_notin (Nat.mod_lt _ (by decide))
    refine wpAny_allTrue_And_cons (isTrue_plain (MethodCall_ (nameX_L F' hd2 (GM.endswith (callWith_method1 (spliced_more (nameX_L F' ho (spliced_none ?_))))))))
    refine SC.endswith (wpAny_truthy_bool ?_)
    rw [ends_nl cs]
    refine (if_pos rfl).mpr (wpAny_allTrue_And_nil ((if_pos rfl).mpr ?_))
    refine wpAny_execs_cons (wpAny_Assign_Name (Subscript_ (nameX_L F' hd2 (wpAny_Slice (evalPart_none_step (evalPart_some_step (UnaryOp_ (Call_ (nameX_B F' X T rfl (by boot_fast) (by decide) ?_)))))))))
    refine PyProof.Rows.callWith_builtin1 (spliced_more (nameX_L F' ho (spliced_none ?_)))
    refine P.len_str (by decide) (P.neg_int (evalPart_none_step ?_))
    refine slice_strN_ns F' N' (fun h₈ t₈ k₈ F₈ N₈ => ?_) (hsz := by rw [plainS_len]; simp; omega)
    dsimp only
    rw [show Txt.slice (plainS (cs ++ [10])) none (some (-((Str.ofString "\n").length : Int))) = plainS cs from slice_nl cs]
    refine storeX_L F₈ N₈ fun h₉ F₉ N₉ => wpAny_execs_nil ?_
    refine wpAny_execs_cons (wpAny_Return_some (nameX_L F₉ (if_pos rfl) ?_))
    exact ⟨⟨_, rfl⟩, _, _, rfl, F₉.keep⟩
end Mine

-- part Q8
namespace Mine

def Kp (h h' : Heap) : Prop := ∀ b o, h.get? b = some o → h'.get? b = some o

/-- the texts of the octets -/
def WordsAt (h : Heap) (a : Addr) (os : List Nat) : Prop := ∃ its : Array Value, h.IsList a its ∧ its.size = os.length ∧ ∀ (i o : Nat), os[i]? = some o → ∃ t, its[i]? = some (Value.str (word o) t)
/-- a place: its two figures -/
def PlaceAt (h : Heap) (q : Addr) (o : Nat) : Prop := ∃ t u, h.IsList q #[Value.int ((o / 16 : Nat) : Int) t, Value.int ((o % 16 : Nat) : Int) u]
def PlacesAt (h : Heap) (a : Addr) (os : List Nat) : Prop := ∃ its : Array Value, h.IsList a its ∧ its.size = os.length ∧ ∀ (i o : Nat), os[i]? = some o → ∃ q, its[i]? = some (Value.ref q) ∧ PlaceAt h q o
theorem WordsAt.kp {h h' : Heap} {a : Addr} {os : List Nat} (x : WordsAt h a os) (hk : Kp h h') : WordsAt h' a os :=
  let ⟨its, hl, r⟩ := x; ⟨its, hl.at fun o e => hk a o e, r⟩
theorem PlaceAt.kp {h h' : Heap} {a : Addr} {o : Nat} (x : PlaceAt h a o) (hk : Kp h h') : PlaceAt h' a o :=
  let ⟨t, u, hl⟩ := x; ⟨t, u, hl.at fun o e => hk a o e⟩
theorem PlacesAt.kp {h h' : Heap} {a : Addr} {os : List Nat} (x : PlacesAt h a os) (hk : Kp h h') : PlacesAt h' a os :=
  let ⟨its, hl, hs, r⟩ := x; ⟨its, hl.at fun o e => hk a o e, hs, fun i o e => let ⟨q, a1, a2⟩ := r i o e; ⟨q, a1, a2.kp hk⟩⟩

/-- r lies on the line through p and q -/
def colB (p q r : Nat) : Bool := (((r / 16 : Nat) : Int) - ((p / 16 : Nat) : Int)) * (((q % 16 : Nat) : Int) - ((p % 16 : Nat) : Int)) == (((r % 16 : Nat) : Int) - ((p % 16 : Nat) : Int)) * (((q / 16 : Nat) : Int) - ((p / 16 : Nat) : Int))
def lineOf (os : List Nat) (p q : Nat) : List Nat := os.filter (colB p q)

section
variable {prog : Program} {w : World} {A : Around} {E : Value → Shared → Prop} {s : Shared} {env : Env}
theorem itemL {l : Addr} {its : Array Value} {i : Int} {k : Nat} {u : Tok} {v : Value} {value slice : Expr} {Q : Value → Shared → Prop} (hl : s.heap.IsList l its) (hi : i = (k : Int)) (hk : k < 2 ^ 30) (hx : its[k]? = some v) (h : Q v s)
    (hs : subscripted slice false (.ref l) (.int i u) = operate [.ref l, .int i u] (getItem (.ref l) (.int i u)) := by with_unfolding_all rfl) :
    wpAny (model prog w) A (subscriptTail value slice (.ref l) (.int i u)) Q E s :=
  tail_any hl.typeIs slot_list_getitem.lookup (wpAny_getItem_list hl (by omega) (by omega) (by rw [hi]; exact hx) h) hs
theorem extKp {h h' : Heap} (e : Heap.ExtBut h.objs.size h h') : Kp h h' := fun b o q => e b o (Nat.ne_of_lt (Heap.lt_size q)) q
theorem unpackL {elts : List Expr} {k : Nat} {pos : Pos} {l : Addr} {items : Array Value} {Q : Unit → Shared → Prop} (hh : A.handled = none) (hl : s.heap.IsList l items)
    (hn : (assignEach elts env).length = items.size) (hstar : (assignEach elts env).findIdx? (·.1) = none)
    (h : ∀ h', Kp s.heap h' → wpAny (model prog w) A (assignInOrder ((assignEach elts env).map (·.2)) items.toList) Q E { s with heap := h' }) :
    wpAny (model prog w) A (assign (.Tuple elts k pos) env (.ref l)) Q E s := by
  rw [PyProof.Rows.assign_Tuple]
  refine wpAny_bind (wpAny_standAt ?_)
  unfold unpack
  rw [hn, hstar]
  exact wpAny_bind (wpAny_holding (kun_itemsOf hh hl fun h' he => h h' (extKp he)))
theorem unpackT {elts : List Expr} {k : Nat} {pos : Pos} {l : Addr} {items : Array Value} {Q : Unit → Shared → Prop} (hh : A.handled = none) (hl : IsTup s.heap l items)
    (hn : (assignEach elts env).length = items.size) (hstar : (assignEach elts env).findIdx? (·.1) = none)
    (h : ∀ h', Kp s.heap h' → wpAny (model prog w) A (assignInOrder ((assignEach elts env).map (·.2)) items.toList) Q E { s with heap := h' }) :
    wpAny (model prog w) A (assign (.Tuple elts k pos) env (.ref l)) Q E s :=
  assign_Tuple_tuple hh hl hn hstar fun h' he => h h' (extKp he)
end

theorem newTup {M : Model} {A : Around} {E : Value → Shared → Prop} {s : Shared} {vs : List Value} {Q : Value → Shared → Prop} (h : Q (.ref s.heap.objs.size) { s with heap := s.heap.push { cls := .type "tuple", data := .seq vs.toArray } }) (hsz : vs.length ≤ sizeLine) :
    wpAny M A (newTuple vs) Q E s := wpAny_newObj_type h (by show vs.toArray.size ≤ sizeLine; rw [List.size_toArray]; exact hsz)
theorem pushKp (h : Heap) (o : Obj) : Kp h (h.push o) := fun _ _ e => Heap.get?_push_of_some _ e

/-- does the i-th octet lie on the line? -/
def onLine (os : List Nat) (p q : Nat) (v : Value) : Bool := match v with
  | .int i _ => (os[i.toNat]?).any (colB p q)
  | _ => false

theorem paired_of {α β : Type} {R : α → β → Prop} : ∀ (l₁ : List α) (l₂ : List β), l₁.length = l₂.length → (∀ (i : Nat) a b, l₁[i]? = some a → l₂[i]? = some b → R a b) → Paired R l₁ l₂
  | [], [], _, _ => .nil
  | [], _ :: _, h, _ => by simp at h
  | _ :: _, [], h, _ => by simp at h
  | a :: l₁, b :: l₂, h, hr => .cons (hr 0 a b rfl rfl) (paired_of l₁ l₂ (by simpa using h) fun i x y e1 e2 => hr (i + 1) x y (by simpa using e1) (by simpa using e2))
theorem paired_filter {α β γ : Type} {R : α → β → Prop} {F : α → γ → Prop} {G : β → γ → Prop} {p : α → Bool} {c : β → Bool} (hp : ∀ a b, R a b → p a = c b) (hF : ∀ a b y, R a b → F a y → G b y) :
    ∀ {l₁ : List α} {l₂ : List β} {ys : List γ}, Paired R l₁ l₂ → Paired F (l₁.filter p) ys → Paired G (l₂.filter c) ys := by
  intro l₁ l₂ ys hR
  induction hR generalizing ys with
  | nil => intro h; cases h; exact .nil
  | @cons a b l₁ l₂ hab _ ih =>
    intro h
    rw [List.filter_cons] at h ⊢
    rw [← hp a b hab]
    cases hpa : p a with
    | true =>
      rw [hpa] at h
      simp only [if_true] at h ⊢
      cases h with
      | cons h1 h2 => exact .cons (hF _ _ _ hab h1) (ih h2)
    | false =>
      rw [hpa] at h
      simp only [Bool.false_eq_true, if_false] at h ⊢
      exact ih h
theorem strsAre_words {os : List Nat} {ys : List Value} (h : Paired (fun o y => ∃ u, y = Value.str (word o) u) os ys) : StrsAre ys (os.map word) := by
  induction h with
  | nil => exact .nil
  | @cons a b l₁ l₂ hab _ ih =>
    obtain ⟨u, rfl⟩ := hab
    exact .cons _ _ ih
theorem glue_fold : ∀ (os : List Nat) (acc : Array Nat), (os.map word).foldl (fun acc p => acc ++ (Str.ofString "").cps ++ p.cps) acc = acc ++ (os.flatMap sig3).toArray
  | [], acc => by simp
  | o :: r, acc => by
    rw [List.map_cons, List.foldl_cons, glue_fold r]
    rw [show (Str.ofString "").cps = #[] from by decide +kernel]
    simp [word, sig3]
theorem join_words (os : List Nat) : Txt.join (Str.ofString "") (os.map word) = txt os := by
  unfold Txt.join Builtin.Str.glued
  cases os with
  | nil => rfl
  | cons o r =>
    show Str.mk ((r.map word).foldl _ (word o).cps) = _
    rw [glue_fold]
    simp [txt, word, sig3]
theorem words_sum (os : List Nat) : ((os.map word).map (·.length)).sum = 3 * os.length := by
  induction os with
  | nil => rfl
  | cons o r ih => simp only [List.map_cons, List.sum_cons, ih, List.length_cons]; show 3 + _ = _; omega

theorem mul16 {a b : Int} (h1 : -16 < b) (h2 : b < 16) : IntMulOk a b := by
  refine IntMulOk.of_right ?_
  have : ((List.range 31).all fun n => decide (Builtin.Int.intBits ((n : Int) - 15) ≤ 64)) = true := by decide +kernel
  have h := List.all_eq_true.mp this (b + 15).toNat (List.mem_range.mpr (by omega))
  have e : (((b + 15).toNat : Nat) : Int) - 15 = b := by omega
  rw [e] at h
  exact of_decide_eq_true h
theorem ldCell {M : Model} {A : Around} {E : Value → Shared → Prop} {s : Shared} {env : Env} {x : Str} {pos : Pos} {c : Addr} {v : Value} {Q : Value → Shared → Prop} (hv : s.heap.IsCell c (some v)) (h : Q v s)
    (hk : env.scope.kind = .function := by rfl) (hl : env.kindOf x = some .cell := by rfl) (hc : env.cells.lookup x = some c := by rfl) (hd : (x == ("__debug__" : Str)) = false := by decide) :
    wpAny M A (eval (.Name x pos) env) Q E s := wpAny_Name (wpAny_loadName_cell hk hl hc hv h) hd
theorem ldNs {M : Model} {A : Around} {E : Value → Shared → Prop} {s : Shared} {env : Env} {x : Str} {pos : Pos} {m : Str → Option Value} {v : Value} {Q : Value → Shared → Prop} (hn : s.heap.Ns env.locals m) (hv : m x = some v) (h : Q v s)
    (hk : env.scope.kind = .function := by rfl) (hl : env.kindOf x = some .local := by rfl) (hd : (x == ("__debug__" : Str)) = false := by decide) :
    wpAny M A (eval (.Name x pos) env) Q E s := wpAny_Name (wpAny_loadName_local hk hl hn hv h) hd

theorem walksBound {prog : Program} {w : World} {A : Around} {I : Addr} {fp wr : List Addr} {n : Nat} {P P' : Nat → Value → Prop} {St : Nat → Heap → Prop} (W : Walks prog w A I fp wr n P St) (h : ∀ i v, i < n → P i v → P' i v) :
    Walks prog w A I fp wr n P' St where
  sub := W.sub
  frame := W.frame
  item := fun i s Q E hi st hQ => W.item i s Q E hi st fun v h' tk hP st' hk => hQ v h' tk (h i v hi hP) st' hk
  done := W.done
  self := W.self
theorem rangeIter {prog : Program} {w : World} {A : Around} {E : Value → Shared → Prop} {s : Shared} {n : Nat} {t : Tok} {Q : Value → Shared → Prop} (hh : A.handled = none) (hn : n < 2 ^ 30)
    (h : ∀ I h' tk St, Kp s.heap h' → s.heap.get? I = none → I < h'.objs.size → Walks prog w A I [I] [I] n (fun i v => i < n ∧ ∃ t, v = .int (i : Int) t) St → St 0 h' → Q (.ref I) { s with heap := h', toks := tk }) :
    wpAny (model prog w) A (call (.type "range") [.int (n : Int) t]) (fun xv s₁ => wpAny (model prog w) A (pyIter xv) Q E s₁) E s := by
  refine call_range_1 ?_
  refine wpAny_pyIter_range (IsRange.new ..) (small_one (by omega) (by omega) (by omega) (by omega)) ?_
  have hsz : Builtin.Range.rangeSize 0 (n : Int) 1 = (n : Int) := by rw [rangeSize_one]; split <;> omega
  refine h _ _ _ _ (fun b o e => Heap.get?_push_of_some _ (Heap.get?_push_of_some _ e)) ?_ ?_ (walksBound (Walks.range hh _ 0 1 n) ?_) ?_
  · cases q : s.heap.get? (s.heap.push { cls := .type "range", data := .fields #[.int 0 s.toks, .int n t, .int 1 (s.toks + 1)] }).objs.size with
    | none => rfl
    | some o => exact absurd (Heap.lt_size q) (by rw [Heap.size_push]; exact Nat.not_lt.mpr (Nat.le_succ _))
  · exact Heap.lt_size (Heap.get?_push_size _ rfl)
  · rintro i v hi ⟨t, rfl⟩
    exact ⟨hi, t, by rw [show (0 : Int) + (i : Int) * 1 = (i : Int) by omega]⟩
  · show IsRangeIter _ _ ((0 : Int) + ((0 : Nat) : Int) * 1) ((n : Int) - ((0 : Nat) : Int)) 1
    have e1 : ((0 : Int) + ((0 : Nat) : Int) * 1) = 0 := by simp
    have e2 : ((n : Int) - ((0 : Nat) : Int)) = Builtin.Range.rangeSize 0 n 1 := by rw [hsz]; simp
    rw [e1, e2]
    exact Heap.get?_push_size _ rfl

theorem law_line_spec {w : World} {A : Around} {s : Shared} {E : Value → Shared → Prop} {p : Program} {loose : List Str} {mg mb : Str → Option Value} {aW aP : Addr} {os : List Nat} {j k oj ok : Nat} {tj tk : Tok}
    (X : (hd.heap_39 w.params).In s.heap) (T : TopRead p loose mg mb s.heap) (hA : A.depth + 1 < recursionLimit) (hh : A.handled = none)
    (hW : WordsAt s.heap aW os) (hP : PlacesAt s.heap aP os) (hl : os.length ≤ 1000) (ho : ∀ o ∈ os, o < 256) (hj : os[j]? = some oj) (hk : os[k]? = some ok) :
    wpAny (model PG w) A (call (.ref 76) [.ref aW, .ref aP, .int (j : Int) tj, .int (k : Int) tk]) (fun v s' => (∃ u, v = .str (txt (lineOf os oj ok)) u) ∧ Keeps s s') E s := by
  have hsL : sizeLine = 16777216 := sizeLine_eq
  have hjl : j < os.length := (List.getElem?_eq_some_iff.mp hj).1
  have hkl : k < os.length := (List.getElem?_eq_some_iff.mp hk).1
  refine wpAny_call (call_cells_ret (binds := [(Str.ofString "words", .ref aW), (Str.ofString "places", .ref aP), (Str.ofString "j", .int (j : Int) tj), (Str.ofString "k", .int (k : Int) tk)])
    (by omega) (X _ _ rfl) rfl T.nolimit (codeRec_of X rfl) rfl ?_ fun h₁ tk₁ F C => ?_)
  · intro x hx
    simp only [List.mem_cons, List.not_mem_nil, or_false] at hx
    rcases hx with rfl | rfl | rfl | rfl
    · exact Or.inr ⟨rfl, rfl⟩
    · exact Or.inr ⟨rfl, rfl⟩
    · exact Or.inl rfl
    · exact Or.inl rfl
  generalize hL : s.heap.objs.size = L at F C ⊢
  obtain ⟨itsP, hlP, hsP, hPl⟩ := hP
  obtain ⟨qj, ej, tj1, tj2, hqj⟩ := hPl j oj hj
  obtain ⟨qk, ek, tk1, tk2, hqk⟩ := hPl k ok hk
  refine wpAny_execs_cons (Assign_Tuple (Subscript_ (ldC C (x := Str.ofString "places") (c := L + 1 + 1) rfl rfl (ldLoc F rfl ?_))))
  refine itemL (hlP.at fun o e => F.keep _ o e) rfl (by omega) ej ?_
  refine unpackL hh (hqj.at fun o e => F.keep _ o e) rfl rfl fun h₂ k₂ => ?_
  have F₂ := F.keeps k₂
  have C₂ := C.keeps k₂
  show wpAny _ _ (do holding [_] (assign (.Name (Str.ofString "a") _) _ _); do holding [] (assign (.Name (Str.ofString "b") _) _ _); pure ()) _ _ _
  refine wpAny_bind (wpAny_holding (wpAny_assign_Name (stC F₂ C₂ (c := L + 1 + 2) rfl fun h₃ F₃ C₃ => ?_)))
  refine wpAny_bind (wpAny_holding (wpAny_assign_Name (stC F₃ C₃ (c := L + 1 + 3) rfl fun h₄ F₄ C₄ => wpAny_pure ?_)))
  dsimp only
  refine wpAny_execs_cons (Assign_Tuple (Tuple_ (spliced_more (wpAny_BinOp (Subscript_ (Subscript_ (ldC C₄ (x := Str.ofString "places") (c := L + 1 + 1) rfl rfl (ldLoc F₄ rfl ?_)))))))) 
  refine itemL (hlP.at fun o e => F₄.keep _ o e) rfl (by omega) ek ?_
  refine wpAny_Constant_int (itemL (k := 0) (hqk.at fun o e => F₄.keep _ o e) rfl (by decide) rfl ?_)
  refine ldC C₄ (x := Str.ofString "a") (c := L + 1 + 2) rfl rfl (P.sub_int ?_)
  refine spliced_more (wpAny_BinOp (Subscript_ (Subscript_ (ldC C₄ (x := Str.ofString "places") (c := L + 1 + 1) rfl rfl (ldLoc F₄ rfl ?_)))))
  refine itemL (hlP.at fun o e => F₄.keep _ o e) rfl (by omega) ek ?_
  refine wpAny_Constant_int (itemL (k := 1) (hqk.at fun o e => F₄.keep _ o e) rfl (by decide) rfl ?_)
  refine ldC C₄ (x := Str.ofString "b") (c := L + 1 + 3) rfl rfl (P.sub_int (spliced_none (newTup ?_ (by show 2 ≤ sizeLine; decide))))
  dsimp only
  refine unpackT hh ⟨_, Heap.get?_push_size _ rfl, rfl, _, rfl⟩ rfl rfl fun h₆ k₆ => ?_
  have F₆ := (F₄.push _).keeps k₆
  have C₆ := (C₄.keeps (pushKp _ _)).keeps k₆
  show wpAny _ _ (do holding [_] (assign (.Name (Str.ofString "x") _) _ _); do holding [] (assign (.Name (Str.ofString "y") _) _ _); pure ()) _ _ _
  refine wpAny_bind (wpAny_holding (wpAny_assign_Name (stC F₆ C₆ (c := L + 1 + 4) rfl fun h₇ F₇ C₇ => ?_)))
  refine wpAny_bind (wpAny_holding (wpAny_assign_Name (stC F₇ C₇ (c := L + 1 + 5) rfl fun h₈ F₈ C₈ => wpAny_pure ?_)))
  dsimp only
  clear F C F₂ C₂ F₃ C₃ F₄ C₄ F₆ C₆ F₇ C₇
  obtain ⟨itsW, hlW, hsW, hWl⟩ := hW
  refine wpAny_execs_cons (wpAny_Return_some (MethodCall_ (wpAny_Constant_str (GM.join (callWith_method1 (spliced_more ?_))))))
  refine wpAny_ListComp_free (onLine os oj ok) (fun v y => ∃ i t o u, v = Value.int i t ∧ os[i.toNat]? = some o ∧ y = Value.str (word o) u)
    (cl := [(Str.ofString "y", L + 1 + 5), (Str.ofString "x", L + 1 + 4), (Str.ofString "words", L + 1), (Str.ofString "places", L + 1 + 1), (Str.ofString "b", L + 1 + 3), (Str.ofString "a", L + 1 + 2)])
    rfl (by decide) rfl (by decide) rfl ?_
  refine Call_ (nameX_B F₈ X T rfl (by boot_fast) (by decide) ?_)
  refine PyProof.Rows.callWith_type1 (spliced_more (Call_ (nameX_B F₈ X T rfl (by boot_fast) (by decide) ?_)))
  refine PyProof.Rows.callWith_builtin1 (spliced_more (ldC C₈ (x := Str.ofString "words") (c := L + 1) rfl rfl (spliced_none ?_)))
  refine Calls.call_len_list (hlW.at fun o e => F₈.keep _ o e) (by omega) (spliced_none ?_)
  dsimp only
  have hojm : oj < 256 := ho oj (List.mem_of_getElem? hj)
  have hokm : ok < 256 := ho ok (List.mem_of_getElem? hk)
  refine rangeIter hh (by omega) fun I H tkI St kH hI hIl W hSt => ?_
  -- what stood ahead of the loop stands in its turns
  have base : ∀ (h : Heap), (∀ b o, b ∉ [I] → H.get? b = some o → h.get? b = some o) → Kp h₈ h := fun h k3 b o e =>
    k3 b o (fun q => by rw [List.mem_singleton.mp q] at e; have e' : h₈.get? I = some o := e; rw [hI] at e'; cases e') (kH b o e)
  have cell := C₈.cell
  refine ⟨I, [I], [I], itsW.size, _, St, rfl, W, by omega, hSt, (fun b hb => by rw [List.mem_singleton.mp hb]; exact hIl), ⟨?_, ?_⟩, ?_⟩
  · -- the test
    rintro C i v s₃ m₃ E' hC ⟨hi, tv, rfl⟩ hNs hm hkeep htk
    have kp := base s₃.heap hkeep
    have hi : i < os.length := by omega
    · obtain ⟨oi, hoi⟩ : ∃ o, os[i]? = some o := ⟨os[i], by simp [hi]⟩
      obtain ⟨qi, eqi, ti1, ti2, hqi⟩ := hPl i oi hoi
      have kps : Kp s.heap s₃.heap := fun b o e => kp b o (F₈.keep b o e)
      have hlP₃ : s₃.heap.IsList aP itsP := hlP.at fun o e => kps _ o e
      have hqi₃ := hqi.at fun o e => kps _ o e
      have cA := (cell (Str.ofString "a") (L + 1 + 2) rfl).keeps kp
      have cB := (cell (Str.ofString "b") (L + 1 + 3) rfl).keeps kp
      have cX := (cell (Str.ofString "x") (L + 1 + 4) rfl).keeps kp
      have cY := (cell (Str.ofString "y") (L + 1 + 5) rfl).keeps kp
      have cP := (cell (Str.ofString "places") (L + 1 + 1) rfl).keeps kp
      refine wpAny_tests_one (wpAny_isTrue_Compare1 (wpAny_BinOp (wpAny_BinOp (Subscript_ (Subscript_ (ldCell cP (ldNs hNs hm ?_)))))))
      refine itemL hlP₃ rfl (by omega) eqi ?_
      refine wpAny_Constant_int (itemL (k := 0) hqi₃ rfl (by decide) rfl ?_)
      refine ldCell cA (P.sub_int (ldCell cY (P.mul_int ?_ (mul16 (by omega) (by omega)))))
      refine wpAny_BinOp (wpAny_BinOp (Subscript_ (Subscript_ (ldCell cP (ldNs hNs hm ?_)))))
      refine itemL hlP₃ rfl (by omega) eqi ?_
      refine wpAny_Constant_int (itemL (k := 1) hqi₃ rfl (by decide) rfl ?_)
      refine ldCell cB (P.sub_int (ldCell cX (P.mul_int ?_ (mul16 (by omega) (by omega)))))
      refine P.eq_int (wpAny_truthy_bool ⟨?_, _, _, rfl, fun _ _ e => e⟩)
      show _ = (os[(i : Int).toNat]?).any (colB oj ok)
      rw [show ((i : Int)).toNat = i by omega, hoi]
      rfl
  · -- the element
    rintro C i v s₃ m₃ E' hC ⟨_, tv, rfl⟩ hpv hNs hm hkeep htk
    have kp := base s₃.heap hkeep
    obtain ⟨oi, hoi⟩ : ∃ o, os[i]? = some o := by
      have : (os[(i : Int).toNat]?).any (colB oj ok) = true := hpv
      rw [show ((i : Int)).toNat = i by omega] at this
      cases q : os[i]? with
      | none => rw [q] at this; cases this
      | some o => exact ⟨o, rfl⟩
    have hi : i < os.length := (List.getElem?_eq_some_iff.mp hoi).1
    obtain ⟨ti, ewi⟩ := hWl i oi hoi
    have kps : Kp s.heap s₃.heap := fun b o e => kp b o (F₈.keep b o e)
    have cW := (cell (Str.ofString "words") (L + 1) rfl).keeps kp
    refine Subscript_ (ldCell cW (ldNs hNs hm (itemL (hlW.at fun o e => kps _ o e) rfl (by omega) ewi ?_)))
    exact ⟨⟨_, _, oi, _, rfl, by rw [show ((i : Int)).toNat = i by omega]; exact hoi, rfl⟩, _, _, rfl, fun _ _ e => e⟩
  · intro D h' tkD ys vs hD hDl hDp hvl hvP hpair hkeep
    have hR : Paired (fun v o => ∃ i t, v = Value.int i t ∧ os[i.toNat]? = some o) vs os := paired_of vs os (by omega) fun i v o e1 e2 => by
      obtain ⟨_, t, rfl⟩ := hvP i v e1
      exact ⟨_, t, rfl, by rw [show ((i : Int)).toNat = i by omega]; exact e2⟩
    have hG : Paired (fun o y => ∃ u, y = Value.str (word o) u) (os.filter (colB oj ok)) ys.toList := by
      refine paired_filter (p := onLine os oj ok) ?_ ?_ hR hpair
      · rintro v o ⟨i, t, rfl, e⟩
        show (os[i.toNat]?).any (colB oj ok) = _
        rw [e]; rfl
      · rintro v o y ⟨i, t, rfl, e⟩ ⟨i', t', o', u, q, e', rfl⟩
        cases q
        rw [e] at e'
        cases e'
        exact ⟨u, rfl⟩
    have hlen : (os.filter (colB oj ok)).length ≤ os.length := List.length_filter_le _ _
    refine spliced_none (join_list hDl (strsAre_words hG) ?_ fun t' k' => ?_)
    · rw [words_sum, List.length_map]
      show _ + _ * 0 ≤ _
      omega
    · rw [join_words]
      exact ⟨⟨t', rfl⟩, _, _, rfl, fun b o e => base h' hkeep b o (F₈.keep b o e)⟩
end Mine

-- part Q9
namespace Mine

def lawDef : List Stmt × Scope := match PySem.Challenge.pw_rs0042_01.main.body.getLast? with
  | some (.FunctionDef _ _ b _ _ _ sc _ _ _) => (b, sc)
  | _ => ([], default)
abbrev lawEnv (L : Addr) : Env := envOfC (Str.ofString "law") lawDef.2 L 81 (.ref 80)

/-- one more octet, if it is new -/
def addOct (acc : List Nat) (o : Nat) : List Nat := if o ∈ acc then acc else acc ++ [o]
def numsOf (ns : List Int) : List Int := ns.take 10 ++ ([0, 0, 0, 1] : List Int).drop ns.length
def octOf (l : List Int) (k : Nat) : Nat := ((l.getD k 0 + 37 * (k : Int)).fmod 256).toNat
def octs (ns : List Int) (k : Nat) : List Nat := (List.range k).foldl (fun acc i => addOct acc (octOf (numsOf ns) i)) []

theorem law_enter {w : World} {A : Around} {s : Shared} {E : Value → Shared → Prop} {p : Program} {loose : List Str} {mg mb : Str → Option Value} {a : Addr} {Q : Value → Shared → Prop}
    (X : (hd.heap_39 w.params).In s.heap) (T : TopRead p loose mg mb s.heap) (hA : A.depth < recursionLimit)
    (h : ∀ L h₁ tk c o, Fr s.heap L h₁ (fun y => if y = Str.ofString "script" then some (.ref a) else none) → News s.heap L h₁ [(c, o)] → o.data = .cell none → c = L + 1 →
      wpAny (model PG w) (A.deeper (lawEnv L)) (execs lawDef.1 (lawEnv L)) (fun fl s' => Q (match fl with | .ret v => v | _ => .none) s') (fun _ _ => False) { s with heap := h₁, toks := tk }) :
    wpAny (model PG w) A (call (.ref 81) [.ref a]) Q E s := by
  refine wpAny_call (call_cellsN_ret (binds := [(Str.ofString "script", .ref a)]) hA (X _ _ rfl) rfl T.nolimit (codeRec_of X rfl) rfl ?_ (by decide) fun h₁ tk cells F N C => ?_)
  · intro x hx
    rw [List.mem_singleton.mp hx]
    exact Or.inl rfl
  · cases C with
    | cons hd C =>
      cases C
      exact h _ h₁ tk _ _ F N hd rfl

theorem ints4 (a b c d : Tok) : IntsAre [Value.int 0 a, Value.int 0 b, Value.int 0 c, Value.int 1 d] [0, 0, 0, 1] := .cons _ _ (.cons _ _ (.cons _ _ (.cons _ _ .nil)))
theorem numsOf_len (ns : List Int) : (numsOf ns).length ≤ 10 := by
  unfold numsOf
  rw [List.length_append, List.length_take, List.length_drop]
  simp only [List.length_cons, List.length_nil]
  omega
theorem addOct_len (acc : List Nat) (o : Nat) : (addOct acc o).length ≤ acc.length + 1 := by
  unfold addOct; split <;> simp
theorem octs_succ (ns : List Int) (k : Nat) : octs ns (k + 1) = addOct (octs ns k) (octOf (numsOf ns) k) := by
  unfold octs; rw [List.range_succ, List.foldl_append]; rfl
theorem octs_len (ns : List Int) (k : Nat) : (octs ns k).length ≤ k := by
  induction k with
  | zero => exact Nat.le_refl _
  | succ k ih => rw [octs_succ]; have := addOct_len (octs ns k) (octOf (numsOf ns) k); omega
theorem mem_cast {o : Nat} {l : List Nat} : ((o : Int) ∈ l.map Int.ofNat) ↔ o ∈ l := by
  simp only [List.mem_map]
  constructor
  · rintro ⟨x, hx, e⟩
    have : x = o := Int.ofNat.inj e
    exact this ▸ hx
  · exact fun h => ⟨o, h, rfl⟩

theorem sliceL {prog : Program} {w : World} {A : Around} {E : Value → Shared → Prop} {s : Shared} {h₀ : Heap} {L l : Addr} {m : Str → Option Value} {news : List (Addr × Obj)} {value slice : Expr} {vs : List Value} {ms : List Int} {vl vu : Value} {lo hi : Option Int} {Q : Value → Shared → Prop}
    (F : Fr h₀ L s.heap m) (N : News h₀ L s.heap news) (hl : s.heap.IsList l vs.toArray) (pl : IsPart vl lo) (pu : IsPart vu hi) (hm : IntsAre (slicePick vs.toArray lo hi none).toList ms) (hz : vs.toArray.size ≤ sizeLine)
    (h : ∀ D ws h', Fr h₀ L h' m → News h₀ L h' ((D, listOf (List.toArray ws) 0) :: news) → (∀ p ∈ news, p.1 < D) → IntsAre ws ms → Q (.ref D) { s with heap := h' })
    (hs : subscripted slice false (.ref l) (.ref s.heap.objs.size) = operate [.ref s.heap.objs.size, .ref l] (getItem (.ref l) (.ref s.heap.objs.size)) := by with_unfolding_all rfl) :
    wpAny (model prog w) A (subscriptTail value slice (.ref l) (.ref s.heap.objs.size)) Q E { s with heap := s.heap.push { cls := .type "slice", data := .fields #[vl, vu, .none] } } := by
  have hl' : (s.heap.push { cls := .type "slice", data := .fields #[vl, vu, .none] }).IsList l vs.toArray := hl.at fun o e => Heap.get?_push_of_some _ e
  refine tail_any (T := "list") hl'.typeIs slot_list_getitem.lookup ?_ hs
  refine wpAny_getItem_list_slice hl' ⟨_, Heap.get?_push_size _ rfl, rfl, rfl⟩ pl pu .none (by decide) ?_ hz
  refine h _ (slicePick vs.toArray lo hi none).toList _ ((F.push _).push _) ?_ (fun p hp => ?_) hm
  · rw [Array.toArray_toList]
    exact News.push (F.push _) (N.pushKeep _) _
  · show p.1 < (Heap.push _ _).objs.size
    rw [Heap.size_push]
    exact Nat.lt_succ_of_lt (Heap.lt_size (N p hp).1)

theorem lawA {w : World} {A : Around} {s : Shared} {E : Value → Shared → Prop} {p : Program} {loose : List Str} {mg mb : Str → Option Value} {h₀ : Heap} {L a c : Addr} {o : Obj} {vs : List Value} {ns : List Int} {m : Str → Option Value} {Q : Flow → Shared → Prop}
    (X : (hd.heap_39 w.params).In h₀) (T : TopRead p loose mg mb h₀) (hh : A.handled = none) (hE : PassesOwn (model PG w) A (lawEnv L) E)
    (F : Fr h₀ L s.heap m) (N : News h₀ L s.heap [(c, o)]) (hm : m (Str.ofString "script") = some (.ref a)) (hl : h₀.IsList a vs.toArray) (hi : IntsAre vs ns) (hlen : ns.length ≤ 63)
    (k : ∀ h' tk m' aO its n, Fr h₀ L h' m' → News h₀ L h' [(aO, listOf its n), (c, o)] → m' (Str.ofString "octets") = some (.ref aO) → IntsAre its.toList ((octs ns (numsOf ns).length).map Int.ofNat) →
      wpAny (model PG w) A (execs (lawDef.1.drop 3) (lawEnv L)) Q E { s with heap := h', toks := tk }) :
    wpAny (model PG w) A (execs lawDef.1 (lawEnv L)) Q E s := by
  have hsL : sizeLine = 16777216 := sizeLine_eq
  have hvl : vs.length = ns.length := hi.length
  refine wpAny_execs_cons (wpAny_Assign_Name (wpAny_BinOp (Subscript_ (nameX_L F hm (wpAny_Slice (evalPart_none_step (evalPart_some_step (wpAny_Constant_int (evalPart_none_step ?_)))))))))
  refine sliceL F N (hl.at fun o e => F.keep _ o e) .none (.int _ _) (slice_ints_uptoW hi (by decide)) (by rw [List.size_toArray]; omega) (fun D ws h₂ F₂ N₂ lt₂ hI₂ => ?_)
  refine Subscript_ (List_ (spliced_more (wpAny_Constant_int (spliced_more (wpAny_Constant_int (spliced_more (wpAny_Constant_int (spliced_more (wpAny_Constant_int (spliced_none ?_))))))))))
  refine newList_K F₂ N₂ (fun l h₃ F₃ N₃ lt₃ => ?_) (by show 4 ≤ sizeLine; decide)
  refine wpAny_Slice (evalPart_some_step (Call_ (nameX_B F₃ X T rfl (by boot_fast) (by decide) ?_)))
  refine PyProof.Rows.callWith_builtin1 (spliced_more (nameX_L F₃ hm (spliced_none (Calls.call_len_list (hl.at fun o e => F₃.keep _ o e) (by rw [List.size_toArray]; omega) ?_))))
  refine evalPart_none_step (evalPart_none_step ?_)
  refine sliceL F₃ N₃ ⟨_, (N₃ _ (List.mem_cons_self ..)).1, rfl, _, rfl⟩ (.int _ _) .none (slice_ints_fromW (ints4 _ _ _ _) (by omega)) (by show 4 ≤ sizeLine; decide) (fun D' ws' h₄ F₄ N₄ lt₄ hI₄ => ?_)
  dsimp only
  refine add_arrays_ints F₄ N₄ ⟨_, (N₄ (D, listOf (List.toArray ws) 0) (by simp)).1, rfl, _, rfl⟩ ⟨_, (N₄ _ (List.mem_cons_self ..)).1, rfl, _, rfl⟩ hI₂ hI₄ (fun h₅ F₅ N₅ hI₅ => ?_) ?_
  · generalize hNa : h₄.objs.size = aN at N₅ ⊢
    have hI₆ : IntsAre (ws ++ ws') (numsOf ns) := by
      have e : numsOf ns = ns.take (Int.toNat 10) ++ ([0, 0, 0, 1] : List Int).drop ((vs.toArray.size : Int)).toNat := by
        rw [show ((vs.toArray.size : Int)).toNat = ns.length by rw [List.size_toArray]; omega]; rfl
      rw [e]; exact hI₅
    have N₆ : News h₀ L h₅ [(aN, listOf (ws ++ ws').toArray 0), (c, o)] := fun p hp => N₅ p (by
      rcases List.mem_cons.mp hp with rfl | hp
      · simp
      · rw [List.mem_singleton.mp hp]; simp)
    clear N₅ hI₅ hI₄ hI₂ N₄ N₃ N₂ F₄ F₃ F₂ lt₂ lt₃ lt₄
    refine storeX_L F₅ N₆ fun h₇ F₇ N₇ => ?_
    dsimp only
    refine wpAny_execs_cons (wpAny_Assign_Name (List_ (spliced_none (newList_K F₇ N₇ (fun aO h₈ F₈ N₈ lt₈ => storeX_L F₈ N₈ fun h₉ F₉ N₉ => ?_) (by decide)))))
    dsimp only
    have hNl : (ws ++ ws').length = (numsOf ns).length := hI₆.length
    have hn10 := numsOf_len ns
    refine wpAny_execs_cons (For_invU h₀ rfl rfl (Call_ (nameX_B F₉ X T rfl (by boot_fast) (by decide) ?_)) (hE := hE))
    refine PyProof.Rows.callWith_type1 (spliced_more (Call_ (nameX_B F₉ X T rfl (by boot_fast) (by decide) ?_)))
    refine PyProof.Rows.callWith_builtin1 (spliced_more (nameX_L F₉ ((if_neg (by decide)).trans (if_pos rfl)) (spliced_none (Calls.call_len_list (l := aN) (items := (ws ++ ws').toArray) ⟨_, (N₉ (aN, listOf (ws ++ ws').toArray 0) (by simp)).1, rfl, _, rfl⟩ (by rw [List.size_toArray]; omega) (spliced_none ?_)))))
    dsimp only
    rw [show ((ws ++ ws').toArray.size : Int) = ((numsOf ns).length : Int) by rw [List.size_toArray, hNl]]
    refine iterRange (h₀ := h₀) hh F₉ N₉ (by omega)
      (fun i m news => ∃ its n, news = [(aO, listOf its n), (aN, listOf (ws ++ ws').toArray 0), (c, o)] ∧ IntsAre its.toList ((octs ns i).map Int.ofNat) ∧ m (Str.ofString "octets") = some (.ref aO) ∧ m (Str.ofString "numbers") = some (.ref aN))
      ⟨_, _, rfl, .nil, if_pos rfl, (if_neg (by decide)).trans (if_pos rfl)⟩ ?_ ?_
    · rintro i t m₁ news₁ s₁ own I hilt ⟨its, n, rfl, hIts, hmO, hmN⟩ F₁ N₁ hoff hown
      have hlow : ∀ p ∈ own, p.1 ≠ aO := fun p hp e => hoff (aO, listOf its n) (by simp) (by have := hown p hp; rw [e] at this; exact this)
      have haON : aN ≠ aO ∧ c ≠ aO := ⟨Nat.ne_of_lt (lt₈ (aN, listOf (ws ++ ws').toArray 0) (by simp)), Nat.ne_of_lt (lt₈ (c, o) (by simp))⟩
      obtain ⟨z, hz⟩ : ∃ z, (numsOf ns)[i]? = some z := ⟨(numsOf ns)[i], by simp [hilt]⟩
      obtain ⟨tz, htz⟩ := hI₆.get i z hz
      have hoct : (z + 37 * (i : Int)).fmod 256 = ((octOf (numsOf ns) i : Nat) : Int) := by
        unfold octOf
        rw [List.getD_eq_getElem?_getD, hz]
        have h1 : 0 ≤ (z + 37 * (i : Int)).fmod 256 := Int.fmod_nonneg_of_pos _ (by decide)
        show _ = (((z + 37 * (i : Int)).fmod 256).toNat : Int)
        omega
      refine wpAny_execs_cons (wpAny_Assign_Name (wpAny_BinOp (wpAny_BinOp (Subscript_ (nameX_L F₁ ((if_neg (by decide)).trans hmN) (nameX_L F₁ (if_pos rfl) ?_))))))
      refine itemL (l := aN) (its := (ws ++ ws').toArray) ⟨_, (N₁ (aN, listOf (ws ++ ws').toArray 0) (by simp)).1, rfl, _, rfl⟩ rfl (by omega) (by simpa using htz) ?_
      refine wpAny_BinOp (wpAny_Constant_int (nameX_L F₁ (if_pos rfl) (P.mul_int (P.add_int (wpAny_Constant_int (mod_int' (by decide) ?_))) (IntMulOk.of_left (by decide +kernel)))))
      rw [hoct]
      refine storeX_L F₁ N₁ fun h₂ F₂ N₂ => ?_
      dsimp only
      have hlO : h₂.IsList aO its.toList.toArray := ⟨_, (N₂ (aO, listOf its n) (by simp)).1, rfl, _, by rw [Array.toArray_toList]⟩
      refine wpAny_execs_cons (wpAny_If (wpAny_isTrue_Compare1 (nameX_L F₂ (if_pos rfl) (nameX_L F₂ ((if_neg (by decide)).trans ((if_neg (by decide)).trans hmO)) ?_))))
      refine notin_list_ints hlO hIts (wpAny_truthy_bool ?_)
      have hany : (((octs ns i).map Int.ofNat).any fun x => x == ((octOf (numsOf ns) i : Nat) : Int)) = decide (octOf (numsOf ns) i ∈ octs ns i) := by
        rw [Bool.eq_iff_iff, List.any_eq_true, decide_eq_true_eq, ← mem_cast]
        constructor
        · rintro ⟨x, hx, e⟩; rw [← eq_of_beq e]; exact hx
        · exact fun h => ⟨_, h, beq_self_eq_true _⟩
      rw [hany]
      by_cases hmem : octOf (numsOf ns) i ∈ octs ns i
      · rw [decide_eq_true hmem]
        refine (if_neg (by decide)).mpr (wpAny_execs_nil (wpAny_execs_nil ?_))
        refine ⟨rfl, _, _, _, [(aO, listOf its n), (aN, listOf (ws ++ ws').toArray 0), (c, o)], rfl, F₂, N₂, hoff, its, n, rfl, ?_, ?_, ?_⟩
        · rw [octs_succ, addOct, if_pos hmem]; exact hIts
        · exact (if_neg (by decide)).trans ((if_neg (by decide)).trans hmO)
        · exact (if_neg (by decide)).trans ((if_neg (by decide)).trans hmN)
      · rw [decide_eq_false hmem]
        refine (if_pos rfl).mpr ?_
        refine wpAny_execs_cons (wpAny_Expr (MethodCall_ (nameX_L F₂ ((if_neg (by decide)).trans ((if_neg (by decide)).trans hmO)) (Calls.getMethod_list_append (N₂ (aO, listOf its n) (by simp)).1 rfl rfl (callWith_method1 (spliced_more (nameX_L F₂ (if_pos rfl) (spliced_none ?_))))))))
        have hsz : its.size ≤ sizeLine := by
          have h1 := hIts.length
          rw [List.length_map] at h1
          have h2 := octs_len ns i
          rw [Array.length_toList] at h1
          omega
        refine append_at (hsz := hsz) (N₂ (aO, listOf its n) (by simp)).1 fun h₃ hs₃ ho₃ => ?_
        have hO := N₂ (aO, listOf its n) (by simp)
        have F₃ := F₂.change hs₃ hO.2.1 hO.2.2
        have N₃ := news_set (pre := own) (post := [(aN, listOf (ws ++ ws').toArray 0), (c, o)]) N₂ hlow (by
          intro p hp
          rcases List.mem_cons.mp hp with rfl | hp
          · exact haON.1
          · rw [List.mem_singleton.mp hp]; exact haON.2) hs₃ ho₃
        dsimp only
        refine wpAny_execs_nil (wpAny_execs_nil ?_)
        refine ⟨rfl, _, _, _, [(aO, listOf (its.push (Value.int ((octOf (numsOf ns) i : Nat) : Int) _)) (n + 1)), (aN, listOf (ws ++ ws').toArray 0), (c, o)], rfl, F₃, N₃, ?_, _, _, rfl, ?_, ?_, ?_⟩
        · intro p hp
          rcases List.mem_cons.mp hp with rfl | hp
          · exact hoff (aO, listOf its n) (by simp)
          · exact hoff p (List.mem_cons_of_mem _ hp)
        · rw [octs_succ, addOct, if_neg hmem, Array.toList_push, List.map_append]
          exact hIts.append (.cons _ _ .nil)
        · exact (if_neg (by decide)).trans ((if_neg (by decide)).trans hmO)
        · exact (if_neg (by decide)).trans ((if_neg (by decide)).trans hmN)
    · rintro h' tk m' news' F' N' ⟨its, n, rfl, hIts, hmO, hmN⟩
      refine k h' tk m' aO its n F' (fun p hp => N' p ?_) hmO hIts
      rcases List.mem_cons.mp hp with rfl | hp
      · simp
      · rw [List.mem_singleton.mp hp]; simp
  · rw [List.length_take, List.length_drop]; simp only [List.length_cons, List.length_nil]; omega
end Mine

-- part R1
namespace Mine

section
variable {prog : Program} {w : World} {A : Around} {E : Value → Shared → Prop} {s : Shared} {env : Env}
/-- one new list for each item of a list; the list of them is stored in a name of the frame -/
theorem listsTo {elt iter : Expr} {x y : Str} {px py : Pos} {scope : Scope} {pos spos : Pos} {l : Addr} {its : Array Value} {m : Str → Option Value} {Q : Flow → Shared → Prop} (G : Value → Array Value → Prop)
    (swaps : swapsWith (.ListComp elt [⟨.Name x px, iter, [], 0⟩] scope pos) (some (.Name y py)) spos.line env = pure true) (clos : closureFor scope env = pure [])
    (site : (∀ z ∈ scope.names, z.2 ≠ .cell) ∧ scope.kind = .function ∧ ∀ z ∈ scope.names, z.2 = .local → scope.names.lookup z.1 = some .local) (item : scope.names.lookup x = some .local)
    (name : env.kindOf y = some .local) (plain : (env.scope.kind == .class || (env.scope.kind == .module && env.locals != env.globals)) = false) (fold : ∀ v, foldedSetIterable iter env v = pure v)
    (hh : A.handled = none) (src : ∀ R : Value → Shared → Prop, R (.ref l) s → wpAny (model prog w) A (eval iter env) R E s) (hl : s.heap.IsList l its) (size : its.size ≤ sizeLine)
    (frame : s.heap.Ns env.locals m)
    (each : ∀ (K : Addr) (i : Nat) (v : Value) (s₃ : Shared) (m₃ : Str → Option Value) (E' : Value → Shared → Prop), its[i]? = some v → s₃.heap.Ns K m₃ → m₃ x = some v →
      wpAny (model prog w) A (eval elt (compEnvC scope [] K env)) (fun r s₄ => (∃ T ts, r = .ref T ∧ s₃.heap.get? T = none ∧ s₄.heap.IsList T ts ∧ G v ts) ∧ Keeps s₃ s₄) E' s₃)
    (done : ∀ (H : Heap) (D : Addr) (h' : Heap) (tk : Nat) (ys : Array Value), H = s.heap.push { cls := .type "list_iterator", data := .fields #[.ref l, .int 0 0] } → H.get? D = none → h'.PlainList D ys → Paired (LstIs H G h') its.toList ys.toList →
      h'.Ns env.locals (fun z => if z = y then some (.ref D) else m z) → (∀ b o, b ≠ env.locals → b ≠ s.heap.objs.size → H.get? b = some o → h'.get? b = some o) → Q .next { s with heap := h', toks := tk }) :
    wpAny (model prog w) A (exec (.Assign [.Name y py] (.ListComp elt [⟨.Name x px, iter, [], 0⟩] scope pos) spos) env) Q E s := by
  have held : ∀ {h : Heap} {a b : Addr} {n : Str → Option Value}, h.Ns a n → h.get? b = none → a ≠ b := fun hn hb e => by
    obtain ⟨o, _, _, ho, _⟩ := hn
    rw [e, hb] at ho
    cases ho
  obtain ⟨ol, hol, _⟩ := id hl
  obtain ⟨of, _, _, hof, _⟩ := id frame
  have old : ∀ {b o}, s.heap.get? b = some o → b ≠ s.heap.objs.size := fun e => Nat.ne_of_lt (Heap.lt_size e)
  have W := Walks.list (prog := prog) (w := w) hh s.heap.objs.size l (old hol) its
  generalize hH : s.heap.push { cls := .type "list_iterator", data := .fields #[.ref l, .int 0 0] } = H at done
  have up : ∀ {b o}, s.heap.get? b = some o → H.get? b = some o := fun e => hH ▸ Heap.get?_push_of_some _ e
  have self : H.get? s.heap.objs.size = some { cls := .type "list_iterator", data := .fields #[.ref l, .int 0 0] } := hH ▸ Heap.get?_push_size _ rfl
  have frame₂ : H.Ns env.locals m := frame.at' fun o e => up e
  rw [exec_Assign_Name_used _ _ _ _ swaps]
  refine wpAny_bind (wpAny_standAt (wpAny_bind (wpAny_bind (wpAny_mono (Q := fun _ s' => Q .next s') ?_ (fun _ _ q => wpAny_pure (wpAny_pure q)) fun _ _ e => e))))
  refine wpAny_comprehension_free (use := some (assign (.Name y py) env)) rfl fold clos site.2.1 site.2.2 (src _ (wpAny_pyIter_list hl ?_))
  rw [hH]
  refine comp_block_walkCO (RR := fun acc K => compPost (model prog w) A E (some (assign (.Name y py) env)) (fun _ s' => Q .next s') acc K) W size (fun _ => true) G (fun i h st b hb => ?_) site.1 site.2.1 item
    ⟨⟨_, self, rfl, rfl⟩, hl.at fun _ e => up e⟩ (fun b hb => ?_) ⟨fun _ _ _ _ _ _ _ _ _ _ _ _ => wpAny_tests_nil ⟨rfl, _, _, rfl, fun _ _ e => e⟩, fun K i v s₃ m₃ E' _ hv _ hn hx _ _ => each K i v s₃ m₃ E' hv hn hx⟩ ?_
  · rw [List.mem_singleton.mp hb]
    exact ⟨_, st.1.choose_spec.1⟩
  · rcases List.mem_cons.mp hb with rfl | hb
    · exact Heap.lt_size self
    · rw [List.mem_singleton.mp hb]
      exact Heap.lt_size (up hol)
  intro D K h' tk n ys vs hD hK hDK hn _ hP len vals pairs _ keep
  have whole : vs = its.toList := by
    apply List.ext_getElem?
    intro i
    rcases Nat.lt_or_ge i vs.length with c | c
    · have v := vals i vs[i] (List.getElem?_eq_getElem c)
      rw [List.getElem?_eq_getElem c, ← v]
      simp
    · rw [List.getElem?_eq_none c, List.getElem?_eq_none (by rw [Array.length_toList]; omega)]
  rw [List.filter_eq_self.mpr (fun _ _ => rfl), whole] at pairs
  have offK := held frame₂ hK
  have offD := held frame₂ hD
  have stands : h'.Ns env.locals m := frame₂.at' fun o e => keep _ o (fun q => absurd (List.mem_singleton.mp q) (old hof)) e
  refine wpAny_assign_Name (wpAny_storeName_local name stands (fun g hg one => ⟨n, hn.sameBut one offK.symm, fun g' two => ?_⟩) plain)
  have both : ∀ {b o}, b ≠ env.locals → b ≠ K → h'.get? b = some o → g'.get? b = some o := fun b1 b2 e => two.extBut _ _ b2 (one.extBut _ _ b1 e)
  have atK : ∀ {b o}, H.get? b = some o → b ≠ K := fun e q => by rw [q, hK] at e; cases e
  refine done H D g' _ ys rfl hD ((hP.extBut one.extBut offD.symm).extBut two.extBut hDK) (pairs.mono fun v r hr => ?_) (hg.sameBut two offK) fun b o b1 b2 e => both b1 (atK e) (keep b o (fun q => b2 (List.mem_singleton.mp q)) e)
  obtain ⟨T, ts, rfl, hT, tK, _, _, lT, g1⟩ := hr
  exact ⟨T, ts, rfl, hT, (lT.extBut one.extBut (held frame₂ hT).symm).extBut two.extBut tK, g1⟩

/-- a name of the module, in any block of a function -/
theorem nameGK {K : Frag} {p : Program} {loose : List Str} {mg mb : Str → Option Value} {x : Str} {pos : Pos} {v : Value} {Q : Value → Shared → Prop} (X : K.In s.heap) (T : TopRead p loose mg mb s.heap) (e : nsIn K mainGlobals x = some (some v)) (h : Q v s)
    (hg : env.globals = mainGlobals := by rfl) (hk : env.scope.kind = .function := by rfl) (hx : env.kindOf x = some .globalImplicit := by rfl) (hd : (x == ("__debug__" : Str)) = false := by decide) :
    wpAny (model prog w) A (eval (.Name x pos) env) Q E s := Calls.Name_function_global hk hx (Calls.loadGlobal_global (env := env) (hg ▸ T.g) (mg_of X T.g e) h) hd
theorem nameGB {K : Frag} {p : Program} {loose : List Str} {mg mb : Str → Option Value} {x : Str} {pos : Pos} {v : Value} {Q : Value → Shared → Prop} (X : K.In s.heap) (T : TopRead p loose mg mb s.heap) (e : nsIn K mainGlobals x = some none) (hv : bootBuiltins x = some v) (hn : x ≠ "__name__") (h : Q v s)
    (hg : env.globals = mainGlobals := by rfl) (hbn : env.builtins = builtinsNs := by rfl) (hk : env.scope.kind = .function := by rfl) (hx : env.kindOf x = some .globalImplicit := by rfl) (hd : (x == ("__debug__" : Str)) = false := by decide) :
    wpAny (model prog w) A (eval (.Name x pos) env) Q E s :=
  Calls.Name_function_global hk hx (Calls.loadGlobal_builtin (env := env) (hg ▸ T.g) (mg_none_of X T.g e) (hbn ▸ T.b) ((T.builtins x hn).trans hv) h) hd
end
end Mine

-- part R2
namespace Mine

/-- the frame and the ledger behind a comprehension that is bound to a name -/
theorem compNews {h₀ h h' : Heap} {L D : Addr} {m m' : Str → Option Value} {news : List (Addr × Obj)} {wr : List Addr} {ys : Array Value} (F : Fr h₀ L h m) (N : News h₀ L h news) (hwr : ∀ b ∈ wr, h₀.get? b = none ∧ ∀ p ∈ news, p.1 ≠ b)
    (hn : h'.Ns L m') (hk : ∀ b o, b ≠ L → b ∉ wr → h.get? b = some o → h'.get? b = some o) (hD : h.get? D = none) (hP : h'.PlainList D ys) :
    Fr h₀ L h' m' ∧ ∃ n, News h₀ L h' ((D, listOf ys n) :: news) := by
  obtain ⟨oL, _, _, hL, _⟩ := F.ns
  have hold : ∀ b o, h₀.get? b = some o → h'.get? b = some o := fun b o e => hk b o
    (fun q => by have := Heap.lt_size e; rw [q] at this; exact absurd this (Nat.not_lt.mpr F.above)) (fun q => by rw [(hwr b q).1] at e; cases e) (F.keep b o e)
  obtain ⟨n, hn'⟩ := hP
  refine ⟨⟨hn, hold, F.above⟩, n, fun p hp => ?_⟩
  rcases List.mem_cons.mp hp with rfl | hp
  · refine ⟨hn', fun q => ?_, ?_⟩
    · have q' : D = L := q
      rw [q', hL] at hD; cases hD
    · cases q : h₀.get? D with
      | none => rfl
      | some o => rw [F.keep _ _ q] at hD; cases hD
  · exact ⟨hk p.1 p.2 (N p hp).2.1 (fun q => (hwr p.1 q).2 p hp rfl) (N p hp).1, (N p hp).2⟩

theorem paired_get {α β : Type} {R : α → β → Prop} : ∀ {l₁ : List α} {l₂ : List β}, Paired R l₁ l₂ → ∀ (i : Nat) a, l₁[i]? = some a → ∃ b, l₂[i]? = some b ∧ R a b
  | _, _, .nil, _, _, h => by simp at h
  | _, _, .cons hab _, 0, a, h => by cases h; exact ⟨_, rfl, hab⟩
  | _, _, .cons _ t, i + 1, a, h => by simpa using paired_get t i a (by simpa using h)

theorem lawB1 {w : World} {A : Around} {s : Shared} {E : Value → Shared → Prop} {p : Program} {loose : List Str} {mg mb : Str → Option Value} {h₀ : Heap} {L aO : Addr} {os : List Nat} {m : Str → Option Value} {Q : Flow → Shared → Prop} {news : List (Addr × Obj)} {its : Array Value} {n : Nat}
    (X : (hd.heap_39 w.params).In h₀) (T : TopRead p loose mg mb h₀) (hh : A.handled = none) (hA : A.depth + 1 < recursionLimit)
    (F : Fr h₀ L s.heap m) (N : News h₀ L s.heap news) (hm : m (Str.ofString "octets") = some (.ref aO)) (hO : (aO, listOf its n) ∈ news) (hI : IntsAre its.toList (os.map Int.ofNat)) (hos : ∀ o ∈ os, o < 256) (hl : os.length ≤ 1000)
    (k : ∀ h' tk aW itsW nW, Fr h₀ L h' (fun z => if z = Str.ofString "words" then some (.ref aW) else m z) → News h₀ L h' ((aW, listOf itsW nW) :: news) → itsW.size = os.length → (∀ (i o : Nat), os[i]? = some o → ∃ t, itsW[i]? = some (Value.str (word o) t)) →
      wpAny (model PG w) A (execs (lawDef.1.drop 4) (lawEnv L)) Q E { s with heap := h', toks := tk }) :
    wpAny (model PG w) A (execs (lawDef.1.drop 3) (lawEnv L)) Q E s := by
  have hsL : sizeLine = 16777216 := sizeLine_eq
  have hsz : its.size = os.length := by have := hI.length; rw [List.length_map] at this; simpa using this
  refine wpAny_execs_cons (wpAny_Assign_ListComp_free (cl := []) (fun _ => true) (fun v y => ∃ (o : Nat) (t u : Tok), v = Value.int (o : Int) t ∧ y = Value.str (word o) u) rfl rfl (by decide) rfl (by decide) rfl rfl rfl ?_)
  refine nameX_L F hm ?_
  have hlO : s.heap.IsList aO its := ⟨_, (N _ hO).1, rfl, _, rfl⟩
  refine wpAny_pyIter_list hlO ?_
  have hne : aO ≠ s.heap.objs.size := Nat.ne_of_lt (Heap.lt_size (N _ hO).1)
  have val : ∀ (i : Nat) v, its[i]? = some v → ∃ (o : Nat) (t : Tok), v = Value.int (o : Int) t ∧ os[i]? = some o := fun i v e => by
    obtain ⟨z, t, rfl, hz⟩ := hI.at i v (by simpa using e)
    rw [List.getElem?_map] at hz
    cases q : os[i]? with
    | none => rw [q] at hz; cases hz
    | some o => rw [q] at hz; cases hz; exact ⟨o, t, rfl, rfl⟩
  have F₂ := F.push { cls := .type "list_iterator", data := .fields #[.ref aO, .int 0 0] }
  have hfresh : h₀.get? s.heap.objs.size = none := next_is_new F
  have base : ∀ h : Heap, (∀ b o, b ∉ [s.heap.objs.size] → (s.heap.push { cls := .type "list_iterator", data := .fields #[.ref aO, .int 0 0] }).get? b = some o → h.get? b = some o) → Kp h₀ h := fun h k3 b o e =>
    k3 b o (fun q => by rw [List.mem_singleton.mp q] at e; rw [hfresh] at e; cases e) (F₂.keep b o e)
  refine ⟨_, _, _, its.size, _, _, m, rfl, Walks.list hh _ aO hne its, by omega, ⟨⟨_, Heap.get?_push_size _ rfl, rfl, rfl⟩, hlO.at fun o e => Heap.get?_push_of_some _ e⟩, ?_, ?_, F₂.ns, ⟨?_, ?_⟩, ?_⟩
  · intro b hb
    rcases List.mem_cons.mp hb with rfl | hb
    · exact Heap.lt_size (Heap.get?_push_size _ rfl)
    · rw [List.mem_singleton.mp hb]; exact Heap.lt_size (Heap.get?_push_of_some _ (N _ hO).1)
  · intro hm'
    have q : L = s.heap.objs.size := List.mem_singleton.mp hm'
    exact absurd F.ns.lt (by rw [q]; exact Nat.lt_irrefl _)
  · intro C i v s₃ m₃ E' _ _ _ _ _ _
    exact wpAny_tests_nil ⟨rfl, _, _, rfl, fun _ _ e => e⟩
  · intro C i v s₃ m₃ E' hC hv _ hNs hmx hkeep _
    obtain ⟨o, t, rfl, ho⟩ := val i v hv
    have ho256 := hos o (List.mem_of_getElem? ho)
    have kp := base s₃.heap hkeep
    refine Call_ (nameGK (X.keeps kp) (T.keeps kp) (v := .ref 58) rfl (callWith_K (X.keeps kp) rfl (spliced_more (Call_ (nameGB (X.keeps kp) (T.keeps kp) rfl (by boot_fast) (by decide) ?_)))))
    refine PyProof.Rows.callWith_builtin1 (spliced_more (ldNs hNs hmx (spliced_none (chr_of_range (by omega) (by omega) (spliced_none ⟨X.keeps kp, ?_⟩)))))
    rw [show ((o : Int)).toNat = o by omega]
    refine wpAny_mono (quote_spec (X.keeps kp) (T.keeps kp) (by omega) hh ho256) (fun y s₅ h₅ => ?_) fun _ _ e => e
    obtain ⟨⟨u, rfl⟩, h₅, k₅, rfl, hk₅⟩ := h₅
    exact ⟨⟨o, t, u, rfl, rfl⟩, _, _, rfl, hk₅⟩
  · intro D h' tk ys vs hD _ hDp hvl hvP hpair hns hkeep
    obtain ⟨F', nW, N'⟩ := compNews (wr := [s.heap.objs.size]) F₂ (N.pushKeep _) (fun b hb => by
      rw [List.mem_singleton.mp hb]; exact ⟨hfresh, fun p hp => Nat.ne_of_lt (Heap.lt_size (N p hp).1)⟩) hns hkeep hD hDp
    have hR : Paired (fun v o => ∃ t, v = Value.int ((o : Nat) : Int) t) vs os := paired_of vs os (by omega) fun i v o e1 e2 => by
      obtain ⟨o', t, rfl, ho'⟩ := val i v (hvP i v e1)
      rw [e2] at ho'; cases ho'
      exact ⟨t, rfl⟩
    have hG : Paired (fun (o : Nat) y => ∃ u, y = Value.str (word o) u) (os.filter fun _ => true) ys.toList := by
      refine paired_filter (p := fun _ => true) (fun _ _ _ => rfl) ?_ hR hpair
      rintro v o y ⟨t, rfl⟩ ⟨o', t', u, q, rfl⟩
      have : o' = o := by injection q with q1 _; exact (Int.ofNat.inj q1).symm
      rw [this]; exact ⟨u, rfl⟩
    rw [List.filter_eq_self.mpr (fun _ _ => rfl)] at hG
    refine k h' tk D ys nW F' N' ?_ ?_
    · have := hG.length; simpa using this.symm
    · intro i o ho
      have := paired_get hG i o ho
      obtain ⟨y, hy, u, rfl⟩ := this
      exact ⟨u, by simpa using hy⟩
end Mine

-- part R3
namespace Mine

def figs : Str := Str.ofString "0123456789ABCDEF"
theorem idx_all : ((List.range 16).all fun d => (Builtin.Str.occurrences figs ⟨#[hexC d]⟩ 0 figs.length 1).head? == some d) = true := by decide +kernel
theorem idx_at {d : Nat} (h : d < 16) : ∃ rest, Builtin.Str.occurrences figs ⟨#[hexC d]⟩ 0 figs.length 1 = d :: rest := by
  have := List.all_eq_true.mp idx_all d (List.mem_range.mpr h)
  cases q : Builtin.Str.occurrences figs ⟨#[hexC d]⟩ 0 figs.length 1 with
  | nil => rw [q] at this; cases this
  | cons a r =>
    rw [q] at this
    have e : a = d := by simpa using this
    exact ⟨r, by rw [e]⟩

theorem hexC_inj {a b : Nat} (ha : a < 16) (hb : b < 16) (h : hexC a = hexC b) : a = b := by
  unfold hexC at h
  split at h <;> split at h <;> omega

/-- the figures of one word, as a new list -/
def GPlace (v : Value) (its : Array Value) : Prop := ∃ o t u t', o < 256 ∧ v = Value.str (word o) t' ∧ its = #[Value.int ((o / 16 : Nat) : Int) t, Value.int ((o % 16 : Nat) : Int) u]

theorem figures {w : World} {A : Around} {s : Shared} {E : Value → Shared → Prop} {env : Env} {pos pc vp vp' sp sp1 : Pos} {scope : Scope} {o : Nat} {t : Tok} {m : Str → Option Value} {px pf : Pos} {k1 k2 : Nat}
    (hh : A.handled = none) (hn : s.heap.Ns env.locals m) (hm : m (Str.ofString "word") = some (.str (word o) t)) (ho : o < 256)
    (hclos : closureFor scope env = pure []) (hcell : ∀ y ∈ scope.names, y.2 ≠ .cell) (hkind : scope.kind = .function)
    (hnames : ∀ y ∈ scope.names, y.2 = .local → scope.names.lookup y.1 = some .local) (hx : scope.names.lookup (Str.ofString "figure") = some .local)
    (hk : env.scope.kind = .function) (hl : env.kindOf (Str.ofString "word") = some .local) :
    wpAny (model PG w) A (eval (.ListComp (.Call (.Attribute (.Constant (.str (Str.ofString "0123456789ABCDEF")) k1 pc) (Str.ofString "index") ⟨86, 15, 86, 39⟩) [.Name (Str.ofString "figure") pf] [] ⟨86, 15, 86, 47⟩)
      [⟨.Name (Str.ofString "figure") px, .Subscript (.Name (Str.ofString "word") vp) (.Slice (some (.Constant (.int 1) k2 sp1)) none none sp) vp', [], 0⟩] scope pos) env)
      (fun y s' => (∃ T its, y = .ref T ∧ s.heap.get? T = none ∧ s'.heap.IsList T its ∧ GPlace (.str (word o) t) its) ∧ Keeps s s') E s := by
  have hz : (word o).length ≤ sizeLine := by show 3 ≤ sizeLine; decide
  refine wpAny_ListComp_free (cl := []) (fun _ => true) (fun v y => ∃ (d : Nat) (t u : Tok), d < 16 ∧ v = Value.str ⟨#[hexC d]⟩ t ∧ y = Value.int (d : Int) u) hclos hcell hkind hnames hx ?_
  refine Subscript_ (wpAny_Name (wpAny_loadName_local hk hl hn hm (wpAny_Slice (evalPart_some_step (wpAny_Constant_int (evalPart_none_step (evalPart_none_step ?_)))))))
  refine tail_of_ItemOn (SBH.sliceItem_sn (P := Kp s.heap) (fun h ob k b o e => Heap.get?_push_of_some _ (k b o e)) (fun _ _ e => e) (fun h₂ t₂ k₂ kp₂ => ?_) hz) (by with_unfolding_all rfl) (by intro _; with_unfolding_all rfl)
  dsimp only
  have e : Txt.slice (word o) (some 1) none = ⟨#[hexC (o / 16), hexC (o % 16)]⟩ := (slice_from_eq (b := 3) (by decide) (by show (1 : Int) ≤ 3; decide) rfl).trans rfl
  rw [e]
  refine wpAny_pyIter_str fun ob St W hSt => ?_
  have hI : h₂.get? h₂.objs.size = none := by
    cases q : h₂.get? h₂.objs.size with
    | none => rfl
    | some x => exact absurd (Heap.lt_size q) (Nat.lt_irrefl _)
  have base : ∀ h : Heap, (∀ b o, b ∉ [h₂.objs.size] → (h₂.push ob).get? b = some o → h.get? b = some o) → Kp s.heap h := fun h k3 b o e =>
    k3 b o (fun q => by rw [List.mem_singleton.mp q] at e; have := kp₂ _ _ e; rw [hI] at this; cases this) (Heap.get?_push_of_some _ (kp₂ b o e))
  have hl1 : o / 16 < 16 := by omega
  have hl2 : o % 16 < 16 := by omega
  have sg : ∀ i v, SignAt ⟨#[hexC (o / 16), hexC (o % 16)]⟩ i v → ∃ (d : Nat) (t : Tok), d < 16 ∧ v = Value.str ⟨#[hexC d]⟩ t ∧ ((i = 0 ∧ d = o / 16) ∨ (i = 1 ∧ d = o % 16)) := by
    rintro i v ⟨c, u, hc, rfl⟩
    match i, hc with
    | 0, hc => cases hc; exact ⟨_, u, hl1, rfl, Or.inl ⟨rfl, rfl⟩⟩
    | 1, hc => cases hc; exact ⟨_, u, hl2, rfl, Or.inr ⟨rfl, rfl⟩⟩
    | i + 2, hc => simp at hc
  refine ⟨_, _, _, 2, _, _, rfl, W A hh, by decide, hSt, ?_, ⟨?_, ?_⟩, ?_⟩
  · intro b hb
    rw [List.mem_singleton.mp hb]
    show h₂.objs.size < (h₂.push ob).objs.size
    rw [Heap.size_push]; exact Nat.lt_succ_self _
  · intro C i v s₃ m₃ E' _ _ _ _ _ _
    exact wpAny_tests_nil ⟨rfl, _, _, rfl, fun _ _ e => e⟩
  · intro C i v s₃ m₃ E' hC hv _ hNs hmx hkeep _
    obtain ⟨d, tv, hd, rfl, _⟩ := sg i v hv
    obtain ⟨rest, hocc⟩ := idx_at hd
    refine MethodCall_ (wpAny_Constant_str (GM.index (callWith_method1 (spliced_more (wpAny_Name (wpAny_loadName_local ?_ (lookup_relabel_local hx) hNs hmx (spliced_none (SC.index hocc ?_))))))))
    · exact hkind
    · exact ⟨⟨d, tv, _, hd, rfl, rfl⟩, _, _, rfl, fun _ _ e => e⟩
  · intro D h' tk ys vs hD hDl _ hvl hvP hpair hkeep
    have kp := base h' hkeep
    refine ⟨⟨D, ys, rfl, ?_, hDl, ?_⟩, _, _, rfl, kp⟩
    · cases q : s.heap.get? D with
      | none => rfl
      | some x => have := Heap.get?_push_of_some ob (kp₂ _ _ q); rw [hD] at this; cases this
    · rw [List.filter_eq_self.mpr (fun _ _ => rfl)] at hpair
      match vs, hvl, hpair with
      | [v0, v1], _, hpair =>
        obtain ⟨d0, t0, _, e0, c0⟩ := sg 0 v0 (hvP 0 v0 rfl)
        obtain ⟨d1, t1, _, e1, c1⟩ := sg 1 v1 (hvP 1 v1 rfl)
        cases hy : ys.toList with
        | nil => rw [hy] at hpair; cases hpair
        | cons y0 r =>
          rw [hy] at hpair
          cases hpair with
          | cons a0 hp1 =>
            cases hp1 with
            | @cons _ y1 _ r' a1 hp2 =>
              cases hp2
              obtain ⟨x0, ta, ua, hx0, q0, rfl⟩ := a0
              obtain ⟨x1, tb, ub, hx1, q1, rfl⟩ := a1
              have f0 : x0 = o / 16 := by
                rw [e0] at q0
                have : hexC d0 = hexC x0 := by injection q0 with q0; injection q0 with q0; simpa using q0
                have := hexC_inj (by omega) hx0 this
                omega
              have f1 : x1 = o % 16 := by
                rw [e1] at q1
                have : hexC d1 = hexC x1 := by injection q1 with q1; injection q1 with q1; simpa using q1
                have := hexC_inj (by omega) hx1 this
                omega
              refine ⟨o, ua, ub, t, ho, rfl, ?_⟩
              rw [← Array.toList_inj, hy, f0, f1]
end Mine

-- part R4
namespace Mine

theorem word_inj {a b : Nat} (ha : a < 256) (hb : b < 256) (h : word a = word b) : a = b := by
  have h : (#[61, hexC (a / 16), hexC (a % 16)] : Array Nat) = #[61, hexC (b / 16), hexC (b % 16)] := congrArg Str.cps h
  have h1 : hexC (a / 16) = hexC (b / 16) := Option.some.inj (congrArg (fun (x : Array Nat) => x[1]?) h)
  have h2 : hexC (a % 16) = hexC (b % 16) := Option.some.inj (congrArg (fun (x : Array Nat) => x[2]?) h)
  have := hexC_inj (by omega) (by omega) h1
  have := hexC_inj (by omega) (by omega) h2
  omega

/-- the lists that the law keeps: octets, words, places -/
structure Cst (news : List (Addr × Obj)) (aO aW aP : Addr) (os : List Nat) : Prop where
  o : ∃ its n, (aO, listOf its n) ∈ news ∧ IntsAre its.toList (os.map Int.ofNat)
  w : ∃ (its : Array Value) (n : _), (aW, listOf its n) ∈ news ∧ its.size = os.length ∧ ∀ (i o : Nat), os[i]? = some o → ∃ t, its[i]? = some (Value.str (word o) t)
  p : ∃ (its : Array Value) (n : _), (aP, listOf its n) ∈ news ∧ its.size = os.length ∧ ∀ (i o : Nat), os[i]? = some o → ∃ q ob t u n', its[i]? = some (Value.ref q) ∧ (q, ob) ∈ news ∧ ob.cls = .type "list" ∧ ob.data = .seq #[Value.int ((o / 16 : Nat) : Int) t, Value.int ((o % 16 : Nat) : Int) u] n'
  lt : ∀ o ∈ os, o < 256
  len : os.length ≤ 15

theorem Cst.sub {news news' : List (Addr × Obj)} {aO aW aP : Addr} {os : List Nat} (C : Cst news aO aW aP os) (h : ∀ p ∈ news, p ∈ news') : Cst news' aO aW aP os where
  o := let ⟨a, b, c, d⟩ := C.o; ⟨a, b, h _ c, d⟩
  w := let ⟨a, b, c, d⟩ := C.w; ⟨a, b, h _ c, d⟩
  p := let ⟨a, b, c, d, e⟩ := C.p; ⟨a, b, h _ c, d, fun i o x => let ⟨q, ob, t, u, n', e1, e2, e3⟩ := e i o x; ⟨q, ob, t, u, n', e1, h _ e2, e3⟩⟩
  lt := C.lt
  len := C.len

def isNew (h₀ h' : Heap) (L : Addr) (q : Addr × Obj) : Prop := h'.get? q.1 = some q.2 ∧ q.1 ≠ L ∧ h₀.get? q.1 = none
def subsOf (h' : Heap) (ys : List Value) : List (Addr × Obj) := ys.filterMap fun y => match y with | .ref T => (h'.get? T).map fun o => (T, o) | _ => none
theorem subs_mem {h' : Heap} {ys : List Value} {T : Addr} {o : Obj} (hy : Value.ref T ∈ ys) (e : h'.get? T = some o) : (T, o) ∈ subsOf h' ys :=
  List.mem_filterMap.mpr ⟨_, hy, by show Option.map (fun o => (T, o)) (h'.get? T) = _; rw [e]; rfl⟩
theorem subs_new {h' : Heap} {ys : List Value} {p : Addr × Obj} (h : p ∈ subsOf h' ys) : Value.ref p.1 ∈ ys ∧ h'.get? p.1 = some p.2 := by
  obtain ⟨y, hy, e⟩ := List.mem_filterMap.mp h
  cases y with
  | ref T =>
    have e : Option.map (fun o => (T, o)) (h'.get? T) = some p := e
    cases q : h'.get? T with
    | none => rw [q] at e; cases e
    | some o => rw [q] at e; cases e; exact ⟨hy, q⟩
  | _ => cases e

theorem lawB2 {w : World} {A : Around} {s : Shared} {E : Value → Shared → Prop} {h₀ : Heap} {L aO aW : Addr} {os : List Nat} {m : Str → Option Value} {Q : Flow → Shared → Prop} {news : List (Addr × Obj)} {its : Array Value} {n : Nat} {itsW : Array Value} {nW : Nat}
    (hh : A.handled = none)
    (F : Fr h₀ L s.heap m) (N : News h₀ L s.heap news) (hm : m (Str.ofString "words") = some (.ref aW)) (hO : (aO, listOf its n) ∈ news) (hI : IntsAre its.toList (os.map Int.ofNat)) (hos : ∀ o ∈ os, o < 256) (hl : os.length ≤ 15)
    (hW : (aW, listOf itsW nW) ∈ news) (hWs : itsW.size = os.length) (hWi : ∀ (i o : Nat), os[i]? = some o → ∃ t, itsW[i]? = some (Value.str (word o) t))
    (k : ∀ h' tk aP news', Fr h₀ L h' (fun z => if z = Str.ofString "places" then some (.ref aP) else m z) → News h₀ L h' news' → (∀ p ∈ news, p ∈ news') → Cst news' aO aW aP os →
      wpAny (model PG w) A (execs (lawDef.1.drop 5) (lawEnv L)) Q E { s with heap := h', toks := tk }) :
    wpAny (model PG w) A (execs (lawDef.1.drop 4) (lawEnv L)) Q E s := by
  have hsL : sizeLine = 16777216 := sizeLine_eq
  have hlW : s.heap.IsList aW itsW := ⟨_, (N _ hW).1, rfl, _, rfl⟩
  have val : ∀ (i : Nat) v, itsW[i]? = some v → ∃ (o : Nat) (t : Tok), v = Value.str (word o) t ∧ os[i]? = some o := fun i v e => by
    have hi : i < os.length := by rw [← hWs]; exact (Array.getElem?_eq_some_iff.mp e).1
    obtain ⟨t, ht⟩ := hWi i os[i] (List.getElem?_eq_getElem hi)
    rw [e] at ht; cases ht
    exact ⟨_, t, rfl, List.getElem?_eq_getElem hi⟩
  have F₂ := F.push { cls := .type "list_iterator", data := .fields #[.ref aW, .int 0 0] }
  have N₂ := N.pushKeep (o := { cls := .type "list_iterator", data := .fields #[.ref aW, .int 0 0] })
  have hfresh : h₀.get? s.heap.objs.size = none := next_is_new F
  refine wpAny_execs_cons (listsTo GPlace rfl rfl ⟨by decide, rfl, by decide⟩ rfl rfl rfl (fun _ => rfl) hh (fun R r => nameX_L F hm r) hlW (by omega) F.ns (fun K i v s₃ m₃ E' hv hNs hmx => ?_) (fun H D h' tk ys eH hD hDp hpair hns hkeep => ?_))
  · obtain ⟨o, t, rfl, ho⟩ := val i v hv
    exact figures hh hNs hmx (hos o (List.mem_of_getElem? ho)) rfl (by decide) rfl (by decide) rfl rfl rfl
  · subst eH
    obtain ⟨F', nP, N'⟩ := compNews (wr := [s.heap.objs.size]) F₂ N₂ (fun b hb => by
      rw [List.mem_singleton.mp hb]; exact ⟨hfresh, fun p hp => Nat.ne_of_lt (Heap.lt_size (N p hp).1)⟩) hns (fun b o h1 h2 => hkeep b o h1 fun q => h2 (List.mem_singleton.mpr q)) hD hDp
    have subN : News h₀ L h' (subsOf h' ys.toList) := fun p hp => by
      obtain ⟨hy, e⟩ := subs_new hp
      obtain ⟨v, T', its', q, hn', _⟩ := Paired.right hpair _ hy
      have q : p.1 = T' := by injection q
      subst q
      refine ⟨e, fun q => ?_, ?_⟩
      · obtain ⟨oL, _, _, hL, _⟩ := F₂.ns
        rw [q, hL] at hn'; cases hn'
      · cases q : h₀.get? p.1 with
        | none => rfl
        | some o => rw [F₂.keep _ _ q] at hn'; cases hn'
    have Nall : News h₀ L h' (((D, listOf ys nP) :: news) ++ subsOf h' ys.toList) := fun p hp => by
      rcases List.mem_append.mp hp with hp | hp
      · exact N' p hp
      · exact subN p hp
    refine k h' tk D _ F' Nall (fun p hp => List.mem_append_left _ (List.mem_cons_of_mem _ hp)) ?_
    refine ⟨⟨its, n, List.mem_append_left _ (List.mem_cons_of_mem _ hO), hI⟩, ⟨itsW, nW, List.mem_append_left _ (List.mem_cons_of_mem _ hW), hWs, hWi⟩, ⟨ys, nP, List.mem_append_left _ (List.mem_cons_self ..), ?_, ?_⟩, hos, hl⟩
    · have := hpair.length; rw [Array.length_toList, hWs] at this; simpa using this.symm
    · intro i o ho
      have hil : i < itsW.size := by rw [hWs]; exact (List.getElem?_eq_some_iff.mp ho).1
      obtain ⟨y, hy, T', its', rfl, hn', hT', hG⟩ := paired_get hpair i itsW[i] (by rw [Array.getElem?_toList]; exact Array.getElem?_eq_getElem hil)
      obtain ⟨o', tv, hv, ho'⟩ := val i itsW[i] (Array.getElem?_eq_getElem hil)
      rw [ho] at ho'; cases ho'
      obtain ⟨oG, t, u, t', hG256, hGv, rfl⟩ := hG
      rw [hv] at hGv
      have eo : oG = o := by
        have hlt := hos o (List.mem_of_getElem? ho)
        exact (word_inj hlt hG256 (by injection hGv)).symm
      subst eo
      obtain ⟨ob, hob, hc, n', hdt⟩ := hT'
      exact ⟨T', ob, t, u, n', by simpa using hy, List.mem_append_right _ (subs_mem (List.mem_of_getElem? hy) hob), hc, hdt⟩
end Mine

-- part R5
namespace Mine

theorem Cst.words {h₀ h : Heap} {L : Addr} {news : List (Addr × Obj)} {aO aW aP : Addr} {os : List Nat} (C : Cst news aO aW aP os) (N : News h₀ L h news) : WordsAt h aW os := by
  obtain ⟨its, n, hm, hs, hi⟩ := C.w
  exact ⟨its, ⟨_, (N _ hm).1, rfl, _, rfl⟩, hs, hi⟩
theorem Cst.places {h₀ h : Heap} {L : Addr} {news : List (Addr × Obj)} {aO aW aP : Addr} {os : List Nat} (C : Cst news aO aW aP os) (N : News h₀ L h news) : PlacesAt h aP os := by
  obtain ⟨its, n, hm, hs, hi⟩ := C.p
  refine ⟨its, ⟨_, (N _ hm).1, rfl, _, rfl⟩, hs, fun i o ho => ?_⟩
  obtain ⟨q, ob, t, u, n', e1, e2, e3, e4⟩ := hi i o ho
  exact ⟨q, e1, t, u, ob, (N _ e2).1, e3, n', e4⟩
theorem Cst.octs {h₀ h : Heap} {L : Addr} {news : List (Addr × Obj)} {aO aW aP : Addr} {os : List Nat} (C : Cst news aO aW aP os) (N : News h₀ L h news) : ∃ its, h.IsList aO its ∧ IntsAre its.toList (os.map Int.ofNat) := by
  obtain ⟨its, n, hm, hi⟩ := C.o
  exact ⟨its, ⟨_, (N _ hm).1, rfl, _, rfl⟩, hi⟩

theorem all_true {n : Nat} {e : Nat → Bool} (h : ∀ i, i < n → e i = true) : (List.range n).all e = true := List.all_eq_true.mpr fun i hi => h i (List.mem_range.mp hi)

theorem place_eq {A : Around} {s : Shared} {a b : Addr} {o : Nat} (ha : PlaceAt s.heap a o) (hb : PlaceAt s.heap b o) (hu : A.units < cLine) : SeqAt.EqAt A s (.ref a) (.ref b) true := by
  obtain ⟨t, u, ha⟩ := ha
  obtain ⟨t', u', hb⟩ := hb
  by_cases hab : a = b
  · subst hab; exact SeqAt.EqAt.same _
  · refine SeqAt.EqAt.of_refs hab ?_
    have := SeqAt.RcAt.lists (e := fun _ => true) ha hb rfl hu (fun j h1 h2 => by
      match j, h1, h2 with
      | 0, h1, h2 => have := SeqAt.EqAt.int_int (A := A.in1) (s := s) ((o / 16 : Nat) : Int) t ((o / 16 : Nat) : Int) t'; rw [beq_self_eq_true] at this; exact this
      | 1, h1, h2 => have := SeqAt.EqAt.int_int (A := A.in1) (s := s) ((o % 16 : Nat) : Int) u ((o % 16 : Nat) : Int) u'; rw [beq_self_eq_true] at this; exact this
      | j + 2, h1, h2 => exact absurd h1 (by simp))
    rwa [all_true fun _ _ => rfl] at this
theorem places_ne {A : Around} {s : Shared} {a b : Addr} {os : List Nat} (ha : PlacesAt s.heap a os) (hb : PlacesAt s.heap b os) (hu : A.units + 1 < cLine) : SeqAt.RcNeAt A s (.ref a) (.ref b) false := by
  obtain ⟨its, hl, hs, hi⟩ := ha
  obtain ⟨its', hl', hs', hi'⟩ := hb
  have := SeqAt.RcNeAt.lists (A := A) (e := fun _ => true) hl hl' (hs.trans hs'.symm) (by omega) (fun j h1 h2 => by
    obtain ⟨q, e, p⟩ := hi j os[j] (List.getElem?_eq_getElem (by omega))
    obtain ⟨q', e', p'⟩ := hi' j os[j] (List.getElem?_eq_getElem (by omega))
    rw [Array.getElem?_eq_getElem h1] at e
    rw [Array.getElem?_eq_getElem h2] at e'
    rw [Option.some.inj e, Option.some.inj e']
    exact place_eq p p' (by show A.units + 1 < cLine; exact hu))
  rwa [all_true fun _ _ => rfl] at this

def GNib (v : Value) (its : Array Value) : Prop := ∃ (o : Nat) (t u t' : Tok), v = Value.int (o : Int) t' ∧ its = #[Value.int ((o / 16 : Nat) : Int) t, Value.int ((o % 16 : Nat) : Int) u]
theorem lawB3 {w : World} {A : Around} {s : Shared} {E : Value → Shared → Prop} {h₀ : Heap} {L aO aW aP : Addr} {os : List Nat} {m : Str → Option Value} {Q : Flow → Shared → Prop} {news : List (Addr × Obj)}
    (hh : A.handled = none) (hu : A.units + 1 < cLine)
    (F : Fr h₀ L s.heap m) (N : News h₀ L s.heap news) (C : Cst news aO aW aP os) (hmO : m (Str.ofString "octets") = some (.ref aO)) (hmP : m (Str.ofString "places") = some (.ref aP))
    (k : ∀ h' tk, Fr h₀ L h' m → News h₀ L h' news → wpAny (model PG w) A (execs (lawDef.1.drop 6) (lawEnv L)) Q E { s with heap := h', toks := tk }) :
    wpAny (model PG w) A (execs (lawDef.1.drop 5) (lawEnv L)) Q E s := by
  have hsL : sizeLine = 16777216 := sizeLine_eq
  obtain ⟨its, hlO, hI⟩ := C.octs N
  have hlen := C.len
  have hsz : its.size = os.length := by have := hI.length; rw [List.length_map] at this; simpa using this
  refine wpAny_execs_cons (wpAny_If (wpAny_isTrue_Compare1 (nameX_L F hmP ?_)))
  refine wpAny_ListComp_freeO (cl := []) (fun _ => true) GNib rfl (by decide) rfl (by decide) rfl ?_
  refine nameX_L F hmO ?_
  refine wpAny_pyIter_list hlO ?_
  have hne : aO ≠ s.heap.objs.size := by obtain ⟨o, ho, _⟩ := hlO; exact Nat.ne_of_lt (Heap.lt_size ho)
  have val : ∀ (i : Nat) v, its[i]? = some v → ∃ (o : Nat) (t : Tok), v = Value.int (o : Int) t ∧ os[i]? = some o := fun i v e => by
    obtain ⟨z, t, rfl, hz⟩ := hI.at i v (by simpa using e)
    rw [List.getElem?_map] at hz
    cases q : os[i]? with
    | none => rw [q] at hz; cases hz
    | some o => rw [q] at hz; cases hz; exact ⟨o, t, rfl, rfl⟩
  refine ⟨_, _, _, its.size, _, _, rfl, Walks.list hh _ aO hne its, by omega, ?_, ⟨⟨_, Heap.get?_push_size _ rfl, rfl, rfl⟩, hlO.at fun o e => Heap.get?_push_of_some _ e⟩, ?_, ⟨?_, ?_⟩, ?_⟩
  · intro i h st b hb
    rw [List.mem_singleton.mp hb]
    obtain ⟨o, ho, _⟩ := st.1
    exact ⟨o, ho⟩
  · intro b hb
    rcases List.mem_cons.mp hb with rfl | hb
    · exact Heap.lt_size (Heap.get?_push_size _ rfl)
    · rw [List.mem_singleton.mp hb]; obtain ⟨o, ho, _⟩ := hlO; exact Heap.lt_size (Heap.get?_push_of_some _ ho)
  · intro C i v s₃ m₃ E' _ _ _ _ _ _
    exact wpAny_tests_nil ⟨rfl, _, _, rfl, fun _ _ e => e⟩
  · intro C' i v s₃ m₃ E' hC hv _ hNs hmx hkeep _
    obtain ⟨o, t, rfl, ho⟩ := val i v hv
    have hlt := C.lt o (List.mem_of_getElem? ho)
    refine List_ (spliced_more (wpAny_BinOp (ldNs hNs hmx (wpAny_Constant_int (floordiv_int (by decide) ?_ (Or.inl (PyProof.noPylong_small (by omega))))))))
    dsimp only
    refine spliced_more (wpAny_BinOp (ldNs hNs hmx (wpAny_Constant_int (mod_int' (by decide) (spliced_none ?_)))))
    dsimp only
    refine wpAny_newObj_type ?_
    refine ⟨⟨_, _, rfl, ?_, ⟨_, Heap.get?_push_size _ rfl, rfl, _, rfl⟩, o, s₃.toks + 1, s₃.toks + 1 + 1 + 1, t, rfl, by rw [Int.fdiv_eq_ediv_of_nonneg _ (by decide), Int.fmod_eq_emod_of_nonneg _ (by decide)]; simp⟩, _, _, rfl, fun b o e => Heap.get?_push_of_some _ e⟩
    · cases q : s₃.heap.get? s₃.heap.objs.size with
      | none => rfl
      | some x => exact absurd (Heap.lt_size q) (Nat.lt_irrefl _)
  · intro D h' tk ys vs hD hDl hDp hvl hvP hpair hnd hnD hkeep
    have hold : ∀ b o, s.heap.get? b = some o → h'.get? b = some o := fun b o e => hkeep b o (by
      intro q
      have := Heap.lt_size e
      rw [List.mem_singleton.mp q] at this
      exact absurd this (Nat.lt_irrefl _)) (Heap.get?_push_of_some _ e)
    have F' := F.keeps hold
    have N' := N.keeps hold
    rw [List.filter_eq_self.mpr (fun _ _ => rfl)] at hpair
    have hPD : PlacesAt h' D os := by
      refine ⟨ys, hDl, ?_, fun i o ho => ?_⟩
      · have := hpair.length; rw [hvl, hsz] at this; simpa using this.symm
      · have hil : i < vs.length := by rw [hvl, hsz]; exact (List.getElem?_eq_some_iff.mp ho).1
        obtain ⟨y, hy, T', its', rfl, hn', hT', hG⟩ := paired_get hpair i vs[i] (List.getElem?_eq_getElem hil)
        obtain ⟨o', tv, hv, ho'⟩ := val i vs[i] (hvP i _ (List.getElem?_eq_getElem hil))
        rw [ho] at ho'; cases ho'
        obtain ⟨oG, t, u, t', hGv, rfl⟩ := hG
        rw [hv] at hGv
        have eo : oG = o := by injection hGv with q _; exact (Int.ofNat.inj q).symm
        subst eo
        exact ⟨T', by simpa using hy, t, u, hT'⟩
    refine places_ne (C.places N') hPD hu PG w E _ (wpAny_truthy_bool ?_)
    refine (if_neg (by decide)).mpr ?_
    exact wpAny_pure (k h' _ F' N')
end Mine

-- part R6
namespace Mine

def textOf (os : List Nat) (j k : Nat) : Str := txt (lineOf os (os.getD j 0) (os.getD k 0))
noncomputable def ownD (os : List Nat) (k : Nat) : Nat → List (Str × Int)
  | 0 => []
  | j + 1 => bump (ownD os k j) (textOf os j k) 1
noncomputable def linesD (os : List Nat) : Nat → List (Str × Int)
  | 0 => []
  | k + 1 => merge (linesD os k) (ownD os k k)

def outerBody : List Stmt := match lawDef.1.drop 7 with | .For _ _ b _ _ :: _ => b | _ => []
def innerBody : List Stmt := match outerBody.drop 1 with | .For _ _ b _ _ :: _ => b | _ => []

theorem lawJ {w : World} {A : Around} {s : Shared} {E : Value → Shared → Prop} {p : Program} {loose : List Str} {mg mb : Str → Option Value} {h₀ : Heap} {L aO aW aP d : Addr} {os : List Nat} {m : Str → Option Value} {R : List (Addr × Obj)} {o : Obj} {D : List (Str × Int)} {j k : Nat} {tj tk : Tok} {Q : Flow → Shared → Prop}
    (X : (hd.heap_39 w.params).In h₀) (T : TopRead p loose mg mb h₀) (hh : A.handled = none) (hA : A.depth + 1 < recursionLimit)
    (F : Fr h₀ L s.heap m) (N : News h₀ L s.heap (R ++ [(d, o)])) (C : Cst R aO aW aP os) (hR : ∀ p ∈ R, p.1 ≠ d) (hds : (d == sysModules) = false) (ho : OI w o D) (hD : D.length ≤ 1000)
    (hW : m (Str.ofString "words") = some (.ref aW)) (hP : m (Str.ofString "places") = some (.ref aP)) (hown : m (Str.ofString "own") = some (.ref d))
    (hmj : m (Str.ofString "j") = some (.int (j : Int) tj)) (hmk : m (Str.ofString "k") = some (.int (k : Int) tk)) (hj : j < os.length) (hk : k < os.length)
    (h : ∀ h' tk o' t, Fr h₀ L h' (fun y => if y = Str.ofString "text" then some (.str (textOf os j k) t) else m y) → News h₀ L h' (R ++ [(d, o')]) → OI w o' (bump D (textOf os j k) 1) → Q .next { s with heap := h', toks := tk }) :
    wpAny (model PG w) A (execs innerBody (lawEnv L)) Q E s := by
  have hsL : sizeLine = 16777216 := sizeLine_eq
  have hlen := C.len
  have NR : News h₀ L s.heap R := fun p hp => N p (List.mem_append_left _ hp)
  have hoj : os[j]? = some (os.getD j 0) := by rw [List.getD_eq_getElem?_getD, List.getElem?_eq_getElem hj]; rfl
  have hok : os[k]? = some (os.getD k 0) := by rw [List.getD_eq_getElem?_getD, List.getElem?_eq_getElem hk]; rfl
  refine wpAny_execs_cons (wpAny_Assign_Name (Call_ (nameX_K F X T (v := .ref 76) rfl (callWith_K (X.keeps F.keep) rfl (spliced_more (nameX_L F hW (spliced_more (nameX_L F hP (spliced_more (nameX_L F hmj (spliced_more (nameX_L F hmk (spliced_none ⟨X.keeps F.keep, ?_⟩))))))))))))) 
  refine wpAny_mono (law_line_spec (X.keeps F.keep) (T.keeps F.keep) hA hh (C.words NR) (C.places NR) (by omega) C.lt hoj hok) (fun y s₅ h₅ => ?_) fun _ _ e => e
  obtain ⟨⟨u, rfl⟩, h₅, k₅, rfl, hk₅⟩ := h₅
  dsimp only
  refine storeX_L (F.keeps hk₅) (N.keeps hk₅) fun h₆ F₆ N₆ => ?_
  dsimp only
  have hdo := DI.ofO (N₆ (d, o) (by simp)).1 ho
  obtain ⟨vs, hdv, hvs⟩ := hdo
  refine wpAny_execs_cons (wpAny_Assign_Subscript (wpAny_BinOp (wpAny_Call_method2_late rfl rfl rfl (nameX_L F₆ ((if_neg (by decide)).trans hown) ?_))))
  refine ⟨"dict", "dict.get", PySem.F.plainAttrs_dict, PySem.F.slot_dict_get, PySem.F.type_dict_get, hdv.typeIs, hdv.mapOf.noDict, ?_⟩
  refine wpAny_dict_get2 (knd := PySem.strKind PG w) hds (nameX_L F₆ (if_pos rfl) (wpAny_Constant_int ?_))
  refine ⟨textOf os j k, _, strKind_is _ _ _ _, hdv.mapOf, ?_⟩
  have hget : ∀ t₀, ∃ t, (valueAt (intPairs vs) (textOf os j k)).getD (.int 0 t₀) = Value.int ((look D (textOf os j k)).getD 0) t := fun t₀ => by
    rw [← hvs]
    rcases valueAt_int vs (textOf os j k) with ⟨n, t, e1, e2⟩ | ⟨e1, e2⟩
    · rw [e1, e2]; exact ⟨t, rfl⟩
    · rw [e1, e2]; exact ⟨t₀, rfl⟩
  obtain ⟨tg, hg⟩ := hget _
  rw [hg]
  dsimp only
  refine wpAny_Constant_int (P.add_int ?_)
  dsimp only
  refine nameX_L F₆ ((if_neg (by decide)).trans hown) (nameX_L F₆ (if_pos rfl) ?_)
  refine setI F₆ N₆ hR ho (by omega) fun h₇ o₇ F₇ N₇ hO₇ => ?_
  exact wpAny_execs_nil (h h₇ _ o₇ _ F₇ N₇ hO₇)
end Mine

-- part M2
namespace Mine

theorem look_nil (x : Str) : look [] x = none := rfl
theorem look_cons (a : Str) (b : Int) (D : List (Str × Int)) (x : Str) : look ((a, b) :: D) x = if a = x then some b else look D x := by
  unfold look
  rw [List.find?_cons]
  by_cases h : a = x <;> simp [h]
theorem look_none {D : List (Str × Int)} {x : Str} : look D x = none ↔ ∀ p ∈ D, p.1 ≠ x := by
  induction D with
  | nil => simp [look_nil]
  | cons p D ih =>
    obtain ⟨a, b⟩ := p
    rw [look_cons]
    by_cases h : a = x
    · simp [h]
    · simp [h, ih]
theorem put_cons_ne {a k : Str} {b n : Int} {D : List (Str × Int)} (h : a ≠ k) : put ((a, b) :: D) k n = (a, b) :: put D k n := by
  unfold put
  simp only [List.any_cons, decide_eq_false h, Bool.false_or, List.map_cons, if_neg h]
  split <;> rfl
theorem put_cons_eq {k : Str} {b n : Int} {D : List (Str × Int)} (h : ∀ p ∈ D, p.1 ≠ k) : put ((k, b) :: D) k n = (k, n) :: D := by
  unfold put
  rw [if_pos (by simp)]
  rw [List.map_cons, if_pos rfl]
  congr 1
  conv => rhs; rw [← List.map_id D]
  apply List.map_congr_left
  intro p hp
  rw [if_neg (h p hp)]; rfl
theorem nodup_cons_keys {a : Str} {b : Int} {D : List (Str × Int)} : (((a, b) :: D).map (·.1)).Nodup ↔ (∀ p ∈ D, p.1 ≠ a) ∧ (D.map (·.1)).Nodup := by
  rw [List.map_cons, List.nodup_cons]
  constructor
  · rintro ⟨h1, h2⟩
    exact ⟨fun p hp e => h1 (List.mem_map.mpr ⟨p, hp, e⟩), h2⟩
  · rintro ⟨h1, h2⟩
    exact ⟨fun hm => by obtain ⟨p, hp, e⟩ := List.mem_map.mp hm; exact h1 p hp e, h2⟩
theorem put_mem {D : List (Str × Int)} {k : Str} {n : Int} {p : Str × Int} (h : p ∈ put D k n) : p.1 = k ∨ p ∈ D := by
  induction D with
  | nil => unfold put at h; simp at h; left; rw [h]
  | cons q D ih =>
    obtain ⟨a, b⟩ := q
    by_cases e : a = k
    · subst e
      unfold put at h
      rw [if_pos (by simp)] at h
      obtain ⟨q, hq, rfl⟩ := List.mem_map.mp h
      by_cases e : q.1 = a
      · simp [e]
      · rw [if_neg e]; exact Or.inr hq
    · rw [put_cons_ne e] at h
      rcases List.mem_cons.mp h with rfl | h
      · exact Or.inr (List.mem_cons_self ..)
      · exact (ih h).imp id (List.mem_cons_of_mem _)
theorem put_facts {k : Str} {n : Int} : ∀ {D : List (Str × Int)}, (D.map (·.1)).Nodup → ((put D k n).map (·.1)).Nodup ∧ (∀ x, look (put D k n) x = if k = x then some n else look D x) ∧ ((put D k n).map (·.2)).sum = (D.map (·.2)).sum + n - (look D k).getD 0
  | [], _ => by
    refine ⟨by simp [put], fun x => ?_, by simp [put, look_nil]⟩
    show look [(k, n)] x = _
    rw [look_cons]
  | (a, b) :: D, h => by
    obtain ⟨h1, h2⟩ := nodup_cons_keys.mp h
    by_cases e : a = k
    · subst e
      rw [put_cons_eq h1]
      refine ⟨nodup_cons_keys.mpr ⟨h1, h2⟩, fun x => ?_, ?_⟩
      · rw [look_cons, look_cons]; by_cases q : a = x <;> simp [q]
      · rw [look_cons, if_pos rfl]; simp only [List.map_cons, List.sum_cons, Option.getD_some]; omega
    · obtain ⟨i1, i2, i3⟩ := put_facts (k := k) (n := n) h2
      rw [put_cons_ne e]
      refine ⟨nodup_cons_keys.mpr ⟨fun p hp q => ?_, i1⟩, fun x => ?_, ?_⟩
      · rcases put_mem hp with r | r
        · exact e (q.symm.trans r)
        · exact h1 p r q
      · rw [look_cons, look_cons, i2]
        by_cases q : a = x
        · subst q; rw [if_pos rfl, if_neg (Ne.symm e), if_pos rfl]
        · rw [if_neg q, if_neg q]
      · rw [look_cons, if_neg e]; simp only [List.map_cons, List.sum_cons]; omega

/-- D counts the texts of the list -/
structure Counts (D : List (Str × Int)) (T : List Str) : Prop where
  nd : (D.map (·.1)).Nodup
  val : ∀ x, look D x = if x ∈ T then some (T.count x : Int) else none
  sum : (D.map (·.2)).sum = T.length
theorem Counts.nil : Counts [] [] := ⟨List.nodup_nil, fun _ => rfl, rfl⟩
theorem Counts.getD {D : List (Str × Int)} {T : List Str} (h : Counts D T) (x : Str) : (look D x).getD 0 = (T.count x : Int) := by
  rw [h.val]
  split
  · rfl
  · next hx => rw [List.count_eq_zero.mpr hx]; rfl
theorem Counts.bump {D : List (Str × Int)} {T : List Str} (h : Counts D T) (k : Str) (S : List Str) (hS : S ≠ []) (hk : ∀ x ∈ S, x = k) : Counts (bump D k S.length) (T ++ S) := by
  obtain ⟨a, b, c⟩ := put_facts (k := k) (n := (look D k).getD 0 + (S.length : Int)) h.nd
  have hcnt : ∀ x, S.count x = if k = x then S.length else 0 := fun x => by
    by_cases q : k = x
    · subst q; rw [if_pos rfl]; exact List.count_eq_length.mpr fun y hy => (hk y hy).symm
    · rw [if_neg q]; exact List.count_eq_zero.mpr fun hx => q (hk x hx).symm
  refine ⟨a, fun x => ?_, ?_⟩
  · show look (put D k _) x = _
    rw [b, h.getD, List.count_append, hcnt]
    by_cases q : k = x
    · subst q
      rw [if_pos rfl, if_pos rfl, if_pos]
      · simp
      · obtain ⟨y, S', rfl⟩ := List.exists_cons_of_ne_nil hS
        have := hk y (List.mem_cons_self ..)
        subst this; simp
    · rw [if_neg q, if_neg q, h.val]
      have : x ∈ T ++ S ↔ x ∈ T := by
        rw [List.mem_append]
        exact ⟨fun r => r.elim id fun r => absurd (hk x r).symm q, Or.inl⟩
      simp only [this, Nat.add_zero]
  · show ((put D k _).map (·.2)).sum = _
    rw [c, h.sum, List.length_append]
    omega
theorem Counts.one {D : List (Str × Int)} {T : List Str} (h : Counts D T) (k : Str) : Counts (Mine.bump D k 1) (T ++ [k]) := h.bump k [k] (by simp) (by simp)

theorem Counts.keys {D : List (Str × Int)} {T : List Str} (h : Counts D T) {p : Str × Int} (hp : p ∈ D) : p.1 ∈ T ∧ p.2 = (T.count p.1 : Int) := by
  have hl : look D p.1 = some p.2 := by
    have hnd := h.nd
    clear h
    induction D with
    | nil => cases hp
    | cons q D ih =>
      obtain ⟨a, b⟩ := q
      obtain ⟨h1, h2⟩ := nodup_cons_keys.mp hnd
      rw [look_cons]
      rcases List.mem_cons.mp hp with rfl | hp
      · rw [if_pos rfl]
      · rw [if_neg (Ne.symm (h1 p hp))]; exact ih hp h2
  have := h.val p.1
  rw [hl] at this
  by_cases q : p.1 ∈ T
  · rw [if_pos q] at this; exact ⟨q, Option.some.inj this⟩
  · rw [if_neg q] at this; cases this

/-- a list of texts taken apart by one text -/
theorem count_filter_split (T : List Str) (k x : Str) : T.count x = (T.filter (· = k)).count x + (T.filter (· ≠ k)).count x := by
  induction T with
  | nil => rfl
  | cons a T ih =>
    by_cases h : a = k
    · have e1 : (a :: T).filter (· = k) = a :: T.filter (· = k) := List.filter_cons_of_pos (by simpa using h)
      have e2 : (a :: T).filter (· ≠ k) = T.filter (· ≠ k) := List.filter_cons_of_neg (by simpa using h)
      rw [e1, e2, List.count_cons, List.count_cons, ih]; omega
    · have e1 : (a :: T).filter (· = k) = T.filter (· = k) := List.filter_cons_of_neg (by simpa using h)
      have e2 : (a :: T).filter (· ≠ k) = a :: T.filter (· ≠ k) := List.filter_cons_of_pos (by simpa using h)
      rw [e1, e2, List.count_cons, List.count_cons, ih]; omega

theorem len_filter_split (T : List Str) (k : Str) : (T.filter (· = k)).length + (T.filter (· ≠ k)).length = T.length := by
  induction T with
  | nil => rfl
  | cons a T ih =>
    by_cases h : a = k
    · have e1 : (a :: T).filter (· = k) = a :: T.filter (· = k) := List.filter_cons_of_pos (by simpa using h)
      have e2 : (a :: T).filter (· ≠ k) = T.filter (· ≠ k) := List.filter_cons_of_neg (by simpa using h)
      rw [e1, e2, List.length_cons, List.length_cons]; omega
    · have e1 : (a :: T).filter (· = k) = T.filter (· = k) := List.filter_cons_of_neg (by simpa using h)
      have e2 : (a :: T).filter (· ≠ k) = a :: T.filter (· ≠ k) := List.filter_cons_of_pos (by simpa using h)
      rw [e1, e2, List.length_cons, List.length_cons]; omega
theorem merge_counts : ∀ {D' : List (Str × Int)} {D : List (Str × Int)} {T T' : List Str}, Counts D T → Counts D' T' → Counts (merge D D') (T ++ T')
  | [], D, T, T', h, h' => by
    have : T' = [] := by
      cases T' with
      | nil => rfl
      | cons a r => have := h'.val a; rw [look_nil, if_pos (by simp)] at this; cases this
    subst this
    simpa [merge] using h
  | (k, n) :: D', D, T, T', h, h' => by
    obtain ⟨h1, h2⟩ := nodup_cons_keys.mp h'.nd
    have hk := h'.val k
    rw [look_cons, if_pos rfl] at hk
    have hkT : k ∈ T' := by
      by_cases q : k ∈ T'
      · exact q
      · rw [if_neg q] at hk; cases hk
    rw [if_pos hkT] at hk
    have hn : n = (T'.count k : Int) := Option.some.inj hk
    have hlen : (T'.filter (· = k)).length = T'.count k := by
      rw [List.count_eq_countP, List.countP_eq_length_filter]
      congr 1
    have hpos : 0 < T'.count k := List.count_pos_iff.mpr hkT
    have hb : Counts (bump D k n) (T ++ T'.filter (· = k)) := by
      have := h.bump k (T'.filter (· = k)) (by intro e; rw [e] at hlen; simp at hlen; omega) (fun x hx => by simpa using (List.mem_filter.mp hx).2)
      rwa [hlen, ← hn] at this
    have hsplit := len_filter_split T' k
    have hr : Counts D' (T'.filter (· ≠ k)) := by
      refine ⟨h2, fun x => ?_, ?_⟩
      · by_cases q : k = x
        · subst q
          rw [look_none.mpr h1, if_neg (by simp)]
        · have := h'.val x
          rw [look_cons, if_neg q] at this
          rw [this]
          have e1 : x ∈ T'.filter (· ≠ k) ↔ x ∈ T' := by
            rw [List.mem_filter]; simp [Ne.symm q]
          have e2 : (T'.filter (· ≠ k)).count x = T'.count x := by
            rw [count_filter_split T' k x]
            have : (T'.filter (· = k)).count x = 0 := List.count_eq_zero.mpr fun hm => q (of_decide_eq_true (List.mem_filter.mp hm).2).symm
            omega
          rw [e2]
          by_cases r : x ∈ T'
          · rw [if_pos r, if_pos (e1.mpr r)]
          · rw [if_neg r, if_neg (fun y => r (e1.mp y))]
      · have := h'.sum
        simp only [List.map_cons, List.sum_cons] at this
        omega
    have := merge_counts hb hr
    refine ⟨this.nd, fun x => ?_, ?_⟩
    · show look (merge (bump D k n) D') x = _
      rw [this.val]
      have e1 : x ∈ T ++ T'.filter (· = k) ++ T'.filter (· ≠ k) ↔ x ∈ T ++ T' := by
        simp only [List.mem_append, List.mem_filter, decide_eq_true_eq]
        by_cases q : x = k <;> simp [q]
      have e2 : (T ++ T'.filter (· = k) ++ T'.filter (· ≠ k)).count x = (T ++ T').count x := by
        rw [List.count_append, List.count_append, List.count_append, count_filter_split T' k x]; omega
      rw [e2]
      by_cases r : x ∈ T ++ T'
      · rw [if_pos r, if_pos (e1.mpr r)]
      · rw [if_neg r, if_neg (fun y => r (e1.mp y))]
    · show ((merge (bump D k n) D').map (·.2)).sum = _
      rw [this.sum, List.length_append, List.length_append, List.length_append]
      omega

noncomputable def ownT (os : List Nat) (k : Nat) : Nat → List Str
  | 0 => []
  | j + 1 => ownT os k j ++ [textOf os j k]
noncomputable def linesT (os : List Nat) : Nat → List Str
  | 0 => []
  | k + 1 => linesT os k ++ ownT os k k
theorem ownT_len (os : List Nat) (k : Nat) : ∀ j, (ownT os k j).length = j
  | 0 => rfl
  | j + 1 => by rw [ownT, List.length_append, ownT_len os k j]; rfl
theorem own_counts (os : List Nat) (k : Nat) : ∀ j, Counts (ownD os k j) (ownT os k j)
  | 0 => .nil
  | j + 1 => (own_counts os k j).one _
theorem lines_counts (os : List Nat) : ∀ k, Counts (linesD os k) (linesT os k)
  | 0 => .nil
  | k + 1 => merge_counts (lines_counts os k) (own_counts os k k)
theorem own_sum (os : List Nat) (k j : Nat) : ((ownD os k j).map (·.2)).sum = (j : Int) := by rw [(own_counts os k j).sum, ownT_len]
theorem linesT_len (os : List Nat) : ∀ k, 2 * (linesT os k).length + k = k * k
  | 0 => rfl
  | k + 1 => by
    rw [linesT, List.length_append, ownT_len]
    have := linesT_len os k
    have e : (k + 1) * (k + 1) = k * k + 2 * k + 1 := by rw [Nat.add_mul, Nat.mul_add]; omega
    omega
theorem ownD_len (os : List Nat) (k : Nat) : ∀ j, (ownD os k j).length ≤ j
  | 0 => Nat.le_refl _
  | j + 1 => by
    have := put_length (ownD os k j) (textOf os j k) ((look (ownD os k j) (textOf os j k)).getD 0 + 1)
    have h := ownD_len os k j
    show (put _ _ _).length ≤ _
    omega
theorem linesD_len (os : List Nat) : ∀ k, (linesD os k).length ≤ k * k
  | 0 => Nat.le_refl _
  | k + 1 => by
    have := merge_length (linesD os k) (ownD os k k)
    have h := linesD_len os k
    have h' := ownD_len os k k
    have e : (k + 1) * (k + 1) = k * k + 2 * k + 1 := by rw [Nat.add_mul, Nat.mul_add]; omega
    show (merge _ _).length ≤ _
    omega
end Mine

-- part R7
namespace Mine

theorem iterRangeL {prog : Program} {w : World} {A : Around} {E : Value → Shared → Prop} {s : Shared} {env : Env} {h₀ : Heap} {m : Str → Option Value} {news : List (Addr × Obj)} {n : Nat} {t : Tok} {x : Str} {body : List Stmt} {Q : Flow → Shared → Prop}
    (hh : A.handled = none) (F : Fr h₀ env.locals s.heap m) (N : News h₀ env.locals s.heap news) (hn : n < 2 ^ 30)
    (J : Nat → (Str → Option Value) → List (Addr × Obj) → Prop) (h0 : J 0 m news)
    (step : ∀ i t m₁ news₁ s₁ own I o, i < n → J i m₁ news₁ → (I, o) ∈ own → Fr h₀ env.locals s₁.heap (fun y => if y = x then some (.int (i : Int) t) else m₁ y) → News h₀ env.locals s₁.heap (own ++ news₁) → (∀ p ∈ news₁, p.1 ∉ [I]) → (∀ p ∈ own, p.1 ∈ [I]) →
      wpAny (model prog w) A (execs body env) (LoopStepU h₀ env.locals [I] own (J (i + 1)) s₁) E s₁)
    (done : ∀ h' tk m' news', Fr h₀ env.locals h' m' → News h₀ env.locals h' news' → J n m' news' → Q .next { s with heap := h', toks := tk }) :
    wpAny (model prog w) A (call (.type "range") [.int (n : Int) t]) (fun xv s₁ => wpAny (model prog w) A (pyIter xv) (fun it s₂ => LoopAtU prog w A h₀ env x body Q E it s₂) E s₁) E s := by
  refine call_range_1 ?_
  refine wpAny_pyIter_range (IsRange.new ..) (small_one (by omega) (by omega) (by omega) (by omega)) ?_
  have F₁ := (F.push { cls := .type "range", data := .fields #[.int 0 s.toks, .int n t, .int 1 (s.toks + 1)] })
  have hsz : Builtin.Range.rangeSize 0 (n : Int) 1 = (n : Int) := by rw [rangeSize_one]; split <;> omega
  refine ⟨_, [_], [_], n, _, _, m, news, J, rfl, Walks.range hh _ 0 1 n, ?_, ?_, ?_, ?_, F₁.push _, fun p hp => ⟨Heap.get?_push_of_some _ (Heap.get?_push_of_some _ (N p hp).1), (N p hp).2⟩, h0, ?_, ?_⟩
  · intro hm
    exact absurd F₁.ns.lt ((List.mem_singleton.mp hm) ▸ Nat.lt_irrefl _)
  · intro b hb
    rw [List.mem_singleton.mp hb]
    exact next_is_new F₁
  · intro p hp hI
    have h1 := Heap.lt_size (N p hp).1
    have h2 : p.1 = s.heap.objs.size + 1 := (List.mem_singleton.mp hI).trans (Heap.size_push ..)
    rw [h2] at h1
    exact absurd h1 (Nat.not_lt.mpr (Nat.le_succ _))
  · show IsRangeIter _ _ ((0 : Int) + ((0 : Nat) : Int) * 1) ((n : Int) - ((0 : Nat) : Int)) 1
    have e1 : ((0 : Int) + ((0 : Nat) : Int) * 1) = 0 := by simp
    have e2 : ((n : Int) - ((0 : Nat) : Int)) = Builtin.Range.rangeSize 0 n 1 := by rw [hsz]; simp
    rw [e1, e2]
    exact Heap.get?_push_size _ rfl
  · rintro i v m₁ news₁ s₁ own hi ⟨t, rfl⟩ hJ hoff hown _ hall st F₂ N₂
    have e : (0 : Int) + (i : Int) * 1 = (i : Int) := by omega
    rw [e] at F₂
    exact step i t m₁ news₁ s₁ own _ _ hi hJ (hall _ (List.mem_singleton_self _) (next_is_new F₁) _ st) F₂ N₂ hoff hown
  · intro h' tk m' news' F' N' _ hJ
    exact done h' tk m' news' F' N' hJ

theorem newDictAt {w : World} {h₀ h h' : Heap} {L d : Addr} {m : Str → Option Value} {D : List (Str × Int)} (F : Fr h₀ L h m) (hd : h.get? d = none) (x : DI w h' d D) :
    ∃ o, h'.get? d = some o ∧ d ≠ L ∧ h₀.get? d = none ∧ OI w o D := by
  obtain ⟨v, a, b⟩ := x
  obtain ⟨o, ho, hdo⟩ := Heap.dictOf_iff.mp a
  refine ⟨o, ho, ?_, ?_, v, hdo, b⟩
  · obtain ⟨oL, _, _, hL, _⟩ := F.ns
    rintro rfl; rw [hL] at hd; cases hd
  · cases q : h₀.get? d with
    | none => rfl
    | some y => rw [F.keep _ _ q] at hd; cases hd

theorem same_hits {A : Around} {s : Shared} {vs : List (Str × Int × Tok)} (hn : ((intPairs vs).map (·.1)).Nodup) : KeqHits A s (intPairs vs) (intPairs vs) true := by
  have key : ∀ l : List (Str × Int × Tok), (∀ x ∈ l, valueAt (intPairs vs) x.1 = some (.int x.2.1 x.2.2)) → KeqHits A s (intPairs vs) (intPairs l) true := by
    intro l
    induction l with
    | nil => intro _; exact .nil
    | cons x l ih =>
      intro h
      exact .hit (e := true) (b := true) (h x (List.mem_cons_self ..)) (SeqAt.EqAt.same _) (ih fun y hy => h y (List.mem_cons_of_mem _ hy))
  refine key vs fun x hx => ?_
  clear key
  unfold valueAt intPairs at *
  induction vs with
  | nil => cases hx
  | cons y l ih =>
    simp only [List.map_cons, List.find?_cons]
    rw [List.map_cons, List.map_cons, List.nodup_cons] at hn
    rcases List.mem_cons.mp hx with rfl | hx
    · simp
    · have : y.1 ≠ x.1 := fun e => hn.1 (by
        rw [List.map_map]
        exact List.mem_map.mpr ⟨x, hx, e.symm⟩)
      simp only [decide_eq_false this]
      exact ih hn.2 hx

def outerNames : List Str := [Str.ofString "own", Str.ofString "j", Str.ofString "text", Str.ofString "ahead", Str.ofString "kept", Str.ofString "lines"]

theorem lawK {w : World} {A : Around} {s : Shared} {E : Value → Shared → Prop} {p : Program} {loose : List Str} {mg mb : Str → Option Value} {h₀ : Heap} {L aO aW aP dl : Addr} {os : List Nat} {m : Str → Option Value} {R : List (Addr × Obj)} {ol : Obj} {D : List (Str × Int)} {k : Nat} {tk : Tok} {Q : Flow → Shared → Prop}
    (X : (hd.heap_39 w.params).In h₀) (T : TopRead p loose mg mb h₀) (hh : A.handled = none) (hA : A.depth + 1 < recursionLimit) (hu : A.units < cLine) (hE : PassesOwn (model PG w) A (lawEnv L) E)
    (F : Fr h₀ L s.heap m) (N : News h₀ L s.heap (R ++ [(dl, ol)])) (C : Cst R aO aW aP os) (hds : (dl == sysModules) = false) (ho : OI w ol D) (hD : D.length ≤ 1000)
    (hW : m (Str.ofString "words") = some (.ref aW)) (hP : m (Str.ofString "places") = some (.ref aP)) (hl : m (Str.ofString "lines") = some (.ref dl))
    (hmk : m (Str.ofString "k") = some (.int (k : Int) tk)) (hk : k < os.length)
    (h : ∀ h' tk m' d' o', Fr h₀ L h' m' → News h₀ L h' (R ++ [(d', o')]) → (∀ q ∈ R, q.1 ≠ d') → (d' == sysModules) = false → OI w o' (merge D (ownD os k k)) → m' (Str.ofString "lines") = some (.ref d') → (∀ z, z ∉ outerNames → m' z = m z) → Q .next { s with heap := h', toks := tk }) :
    wpAny (model PG w) A (execs outerBody (lawEnv L)) Q E s := by
  have hsL : sizeLine = 16777216 := sizeLine_eq
  have hlen := C.len
  refine wpAny_execs_cons (wpAny_Assign_Name (newDict_K F N T.nolimit fun d h₂ o F₂ N₂ lt hdS hdo _ _ _ => storeX_L F₂ N₂ fun h₃ F₃ N₃ => ?_))
  dsimp only
  have hdfresh : ∀ q ∈ R ++ [(dl, ol)], q.1 ≠ d := fun q hq => Nat.ne_of_lt (lt q hq)
  have N₃' : News h₀ L h₃ ((R ++ [(dl, ol)]) ++ [(d, o)]) := fun q hq => N₃ q (by
    rcases List.mem_append.mp hq with hq | hq
    · exact List.mem_cons_of_mem _ hq
    · rw [List.mem_singleton.mp hq]; exact List.mem_cons_self ..)
  refine wpAny_execs_cons (For_invU h₀ rfl rfl (Call_ (nameX_B F₃ X T rfl (by boot_fast) (by decide) (PyProof.Rows.callWith_type1 (spliced_more (nameX_L F₃ ((if_neg (by decide)).trans hmk) (spliced_none ?_)))))) (hE := hE))
  refine iterRangeL (h₀ := h₀) hh F₃ N₃' (by omega)
    (fun i m₁ news => ∃ o, news = (R ++ [(dl, ol)]) ++ [(d, o)] ∧ OI w o (ownD os k i) ∧ m₁ (Str.ofString "own") = some (.ref d) ∧ ∀ z, z ∉ outerNames.take 3 → m₁ z = m z)
    ⟨o, rfl, ⟨[], hdo, rfl⟩, if_pos rfl, fun z hz => if_neg (fun e => hz (by rw [e]; decide))⟩ ?_ ?_
  · rintro i t m₁ news₁ s₁ own I oI hi ⟨o₁, rfl, hO₁, hm1, hm2⟩ hIl F₁ N₁ hoff hown
    rw [← List.append_assoc] at N₁
    refine lawJ (Q := _) X T hh hA F₁ N₁ (C.sub fun q hq => List.mem_append_right _ (List.mem_append_left _ hq)) ?_ hdS hO₁ ?_
      ((if_neg (by decide)).trans ((hm2 _ (by decide)).trans hW)) ((if_neg (by decide)).trans ((hm2 _ (by decide)).trans hP)) ((if_neg (by decide)).trans hm1)
      (if_pos rfl) ((if_neg (by decide)).trans ((hm2 _ (by decide)).trans hmk)) (by omega) hk fun h₅ tk₅ o₅ t₅ F₅ N₅ hO₅ => ?_
    · intro q hq
      rcases List.mem_append.mp hq with hq | hq
      · intro e
        have := hown q hq
        rw [e] at this
        exact hoff (d, o₁) (by simp) this
      · exact hdfresh q hq
    · have := ownD_len os k i; omega
    · rw [List.append_assoc] at N₅
      refine ⟨rfl, _, _, _, _, rfl, F₅, N₅, fun q hq => ?_, o₅, rfl, hO₅, ?_, fun z hz => ?_⟩
      · rcases List.mem_append.mp hq with hq | hq
        · exact hoff q (List.mem_append_left _ hq)
        · rw [List.mem_singleton.mp hq]; exact hoff (d, o₁) (by simp)
      · exact (if_neg (by decide)).trans ((if_neg (by decide)).trans hm1)
      · exact (if_neg (fun e => hz (by rw [e]; decide))).trans ((if_neg (fun e => hz (by rw [e]; decide))).trans (hm2 z hz))
  · rintro h₄ tk₄ m₄ news₄ F₄ N₄ ⟨o₄, rfl, hO₄, hm1, hm2⟩
    dsimp only
    have hml := (hm2 (Str.ofString "lines") (by decide)).trans hl
    obtain ⟨vl, hol, hvlD⟩ := id ho
    have hvl : h₄.DictOf (PySem.strKind PG w) dl (intPairs vl) := Heap.dictOf_iff.mpr ⟨ol, (N₄ (dl, ol) (by simp)).1, hol⟩
    have hvlen : (intPairs vl).length ≤ sizeLine := by
      have : (intPairs vl).length = D.length := by rw [← hvlD]; simp [intPairs]
      omega
    refine wpAny_execs_cons (Assign_Tuple_swapped (Tuple_ (spliced_more (nameX_L F₄ hml (spliced_more (Call_ (nameX_B F₄ X T rfl (by boot_fast) (by decide) (PyProof.Rows.callWith_type1 (spliced_more (nameX_L F₄ hml (spliced_none ?_))))))))))) 
    refine kt_call_dict hds hvl hvlen fun h₅ hd₅ hs₅ => spliced_none (newTup ?_ (by show 2 ≤ sizeLine; decide))
    dsimp only
    have k₅ : Kp h₄ h₅ := fun b o e => (hs₅.2 b (Nat.ne_of_lt (Heap.lt_size e))).trans (Heap.get?_push_of_some _ e)
    have hdkS : (h₄.objs.size == sysModules) = false := F₄.notModules (modules_low T.nolimit)
    generalize hdk : h₄.objs.size = dk at hd₅ hs₅ hdkS ⊢
    refine unpackItems_tuple (items := #[.ref dl, .ref dk]) hh ⟨_, Heap.get?_push_size _ rfl, rfl, _, rfl⟩ fun h₆ k₆ => ?_
    have k₆' : Kp h₅ h₆ := fun b o e => extKp k₆ b o (Heap.get?_push_of_some _ e)
    have F₆ := (F₄.keeps k₅).keeps k₆'
    have N₆ := (N₄.keeps k₅).keeps k₆'
    have hd₆ := hd₅.keep k₆'
    obtain ⟨ok, hok, hdok⟩ := Heap.dictOf_iff.mp hd₆
    have hdkn : h₄.get? dk = none := by
      cases q : h₄.get? dk with
      | none => rfl
      | some x => exact absurd (Heap.lt_size q) (by rw [← hdk]; exact Nat.lt_irrefl _)
    obtain ⟨ok', hok', hdkL, hdk0, _⟩ := newDictAt (w := w) (D := vl.map fun x => (x.1, x.2.1)) F₄ hdkn ⟨vl, hd₆, rfl⟩
    have N₆' : News h₀ L h₆ (((R ++ [(dl, ol)]) ++ [(d, o₄)]) ++ [(dk, ok)]) := fun q hq => by
      rcases List.mem_append.mp hq with hq | hq
      · exact N₆ q hq
      · rw [List.mem_singleton.mp hq]; exact ⟨hok, hdkL, hdk0⟩
    show wpAny _ _ (assignInOrder [bindName (lawEnv L) (Str.ofString "kept"), bindName (lawEnv L) (Str.ofString "ahead")] [.ref dk, .ref dl]) _ _ _
    refine assignInOrder_cons (wpAny_bindName (storeX_L F₆ N₆' fun h₇ F₇ N₇ => ?_))
    dsimp only
    refine assignInOrder_cons (wpAny_bindName (storeX_L F₇ N₇ fun h₈ F₈ N₈ => assignInOrder_nil ?_))
    dsimp only
    have hdl₈ : DI w h₈ dl D := DI.ofO (N₈ (dl, ol) (by simp)).1 ho
    have hdo₈ : DI w h₈ d (ownD os k k) := DI.ofO (N₈ (d, o₄) (by simp)).1 hO₄
    have hown₈ : (fun y => if y = Str.ofString "ahead" then some (Value.ref dl) else if y = Str.ofString "kept" then some (Value.ref dk) else m₄ y) (Str.ofString "own") = some (.ref d) := (if_neg (by decide)).trans ((if_neg (by decide)).trans hm1)
    refine wpAny_execs_cons (wpAny_Assign_Name (Call_ (nameX_K F₈ X T (v := .ref 21) rfl (callWith_K (X.keeps F₈.keep) rfl (spliced_more (nameX_L F₈ (if_pos rfl) (spliced_more (nameX_L F₈ hown₈ (spliced_none ⟨X.keeps F₈.keep, ?_⟩)))))))))
    refine wpAny_mono (add_callers_spec (X.keeps F₈.keep) (T.keeps F₈.keep) (by omega) hh hdl₈ hdo₈ hds hdS (by have := ownD_len os k k; omega)) (fun y s₉ h₉ => ?_) fun _ _ e => e
    obtain ⟨d', rfl, hd'n, hd'S, hd'D, h₉, t₉, rfl, hk₉⟩ := h₉
    obtain ⟨o', ho', hd'L, hd'0, hO'⟩ := newDictAt F₈ hd'n hd'D
    have N₉ : News h₀ L h₉ ((((R ++ [(dl, ol)]) ++ [(d, o₄)]) ++ [(dk, ok)]) ++ [(d', o')]) := fun q hq => by
      rcases List.mem_append.mp hq with hq | hq
      · exact (N₈.keeps hk₉) q hq
      · rw [List.mem_singleton.mp hq]; exact ⟨ho', hd'L, hd'0⟩
    refine storeX_L (F₈.keeps hk₉) N₉ fun h₁ F₁ N₁ => ?_
    dsimp only
    refine wpAny_execs_cons (wpAny_If (wpAny_isTrue_BoolOp (wpAny_allTrue_Or_cons (wpAny_isTrue_Compare1 (nameX_L F₁ ((if_neg (by decide)).trans (if_pos rfl)) (nameX_L F₁ ((if_neg (by decide)).trans ((if_neg (by decide)).trans (if_pos rfl))) ?_)))))) 
    have hnd : ((intPairs vl).map (·.1)).Nodup := by obtain ⟨_, _, _, _, _, _, _, _, hn⟩ := hvl; exact hn
    refine keq_ne (knd := PySem.strKind PG w) (ka := intPairs vl) (kb := intPairs vl) hds hdkS (Heap.dictOf_iff.mpr ⟨ol, (N₁ (dl, ol) (by simp)).1, hol⟩) (Heap.dictOf_iff.mpr ⟨ok, (N₁ (dk, ok) (by simp)).1, hdok⟩) hu (fun _ => same_hits hnd) ?_
    rw [beq_self_eq_true]
    refine wpAny_truthy_bool ((if_neg (by decide)).mpr ?_)
    refine wpAny_allTrue_Or_cons (wpAny_isTrue_Compare1 (Call_ (nameX_K F₁ X T (v := .ref 28) rfl (callWith_K (X.keeps F₁.keep) rfl (spliced_more (nameX_L F₁ ((if_neg (by decide)).trans hown₈) (spliced_none ⟨X.keeps F₁.keep, ?_⟩)))))))
    refine wpAny_mono (count_calls_spec (X.keeps F₁.keep) (T.keeps F₁.keep) (by omega) hh (DI.ofO (N₁ (d, o₄) (by simp)).1 hO₄) hdS) (fun y s₂ h₂ => ?_) fun _ _ e => e
    obtain ⟨⟨u, rfl⟩, h₂, t₂, rfl, hk₂⟩ := h₂
    rw [own_sum]
    have F₂ := F₁.keeps hk₂
    have N₂ := N₁.keeps hk₂
    dsimp only
    refine nameX_L F₂ ((if_neg (by decide)).trans ((if_neg (by decide)).trans ((if_neg (by decide)).trans ((hm2 _ (by decide)).trans hmk)))) (P.ne_int (wpAny_truthy_bool ?_))
    rw [bne_self_eq_false]
    refine (if_neg (by decide)).mpr (wpAny_allTrue_Or_nil ((if_neg (by decide)).mpr (wpAny_execs_nil (wpAny_execs_nil ?_))))
    refine h _ _ _ d' o' F₂ (fun q hq => N₂ q ?_) (fun q hq e => ?_) hd'S hO' (if_pos rfl) fun z hz => ?_
    · rcases List.mem_append.mp hq with hq | hq
      · simp [hq]
      · rw [List.mem_singleton.mp hq]; simp
    · have := (N₈ q (by simp [hq])).1
      rw [e, hd'n] at this; cases this
    · exact (if_neg (fun e => hz (by rw [e]; decide))).trans ((if_neg (fun e => hz (by rw [e]; decide))).trans ((if_neg (fun e => hz (by rw [e]; decide))).trans (hm2 z fun e => hz (List.mem_of_mem_take e))))
end Mine

-- part R8
namespace Mine

theorem lawC {w : World} {A : Around} {s : Shared} {E : Value → Shared → Prop} {p : Program} {loose : List Str} {mg mb : Str → Option Value} {h₀ : Heap} {L aO aW aP : Addr} {os : List Nat} {m : Str → Option Value} {cst : List (Addr × Obj)} {Q : Flow → Shared → Prop}
    (X : (hd.heap_39 w.params).In h₀) (T : TopRead p loose mg mb h₀) (hh : A.handled = none) (hA : A.depth + 1 < recursionLimit) (hu : A.units < cLine) (hE : PassesOwn (model PG w) A (lawEnv L) E)
    (F : Fr h₀ L s.heap m) (N : News h₀ L s.heap cst) (C : Cst cst aO aW aP os)
    (hO : m (Str.ofString "octets") = some (.ref aO)) (hW : m (Str.ofString "words") = some (.ref aW)) (hP : m (Str.ofString "places") = some (.ref aP))
    (k : ∀ h' tk m' d o, Fr h₀ L h' m' → News h₀ L h' (cst ++ [(d, o)]) → (d == sysModules) = false → OI w o (linesD os os.length) → (∀ q ∈ cst, q.1 ≠ d) → m' (Str.ofString "lines") = some (.ref d) → m' (Str.ofString "octets") = some (.ref aO) →
      wpAny (model PG w) A (execs (lawDef.1.drop 8) (lawEnv L)) Q E { s with heap := h', toks := tk }) :
    wpAny (model PG w) A (execs (lawDef.1.drop 6) (lawEnv L)) Q E s := by
  have hsL : sizeLine = 16777216 := sizeLine_eq
  have hlen := C.len
  refine wpAny_execs_cons (wpAny_Assign_Name (newDict_K F N T.nolimit fun d h₂ o F₂ N₂ lt hdS hdo _ _ _ => storeX_L F₂ N₂ fun h₃ F₃ N₃ => ?_))
  dsimp only
  have N₃' : News h₀ L h₃ (cst ++ [(d, o)]) := fun q hq => N₃ q (by
    rcases List.mem_append.mp hq with hq | hq
    · exact List.mem_cons_of_mem _ hq
    · rw [List.mem_singleton.mp hq]; exact List.mem_cons_self ..)
  obtain ⟨itsW, hlW, hsW, _⟩ := C.words (fun q hq => N₃' q (List.mem_append_left _ hq))
  refine wpAny_execs_cons (For_invU h₀ rfl rfl (Call_ (nameX_B F₃ X T rfl (by boot_fast) (by decide) (PyProof.Rows.callWith_type1 (spliced_more (Call_ (nameX_B F₃ X T rfl (by boot_fast) (by decide) ?_)))))) (hE := hE))
  refine PyProof.Rows.callWith_builtin1 (spliced_more (nameX_L F₃ ((if_neg (by decide)).trans hW) (spliced_none (Calls.call_len_list hlW (by omega) (spliced_none ?_)))))
  dsimp only
  rw [hsW]
  refine iterRangeL (h₀ := h₀) hh F₃ N₃' (by omega)
    (fun i m₁ news => ∃ d o, news = cst ++ [(d, o)] ∧ (d == sysModules) = false ∧ OI w o (linesD os i) ∧ (∀ q ∈ cst, q.1 ≠ d) ∧ m₁ (Str.ofString "lines") = some (.ref d) ∧ ∀ z, z ∉ Str.ofString "k" :: outerNames → m₁ z = m z)
    ⟨d, o, rfl, hdS, ⟨[], hdo, rfl⟩, fun q hq => Nat.ne_of_lt (lt q hq), if_pos rfl, fun z hz => if_neg (fun e => hz (by rw [e]; decide))⟩ ?_ ?_
  · rintro i t m₁ news₁ s₁ own I oI hi ⟨d₁, o₁, rfl, hdS₁, hO₁, hcd₁, hm1, hm2⟩ hIo F₁ N₁ hoff hown
    rw [← List.append_assoc] at N₁
    show wpAny _ _ (execs outerBody (lawEnv L)) _ _ _
    have hDl : (linesD os i).length ≤ 1000 := by
      have := linesD_len os i
      have : i * i ≤ 15 * 15 := Nat.mul_le_mul (by omega) (by omega)
      omega
    refine lawK X T hh hA hu hE F₁ N₁ (C.sub fun q hq => List.mem_append_right _ hq) hdS₁ hO₁ hDl
      ((if_neg (by decide)).trans ((hm2 _ (by decide)).trans hW)) ((if_neg (by decide)).trans ((hm2 _ (by decide)).trans hP)) ((if_neg (by decide)).trans hm1) (if_pos rfl) hi
      fun h₅ tk₅ m₅ d₅ o₅ F₅ N₅ hn₅ hS₅ hO₅ hl₅ hm₅ => ?_
    rw [List.append_assoc] at N₅
    refine ⟨rfl, _, _, _, _, rfl, F₅, N₅, fun q hq => ?_, d₅, o₅, rfl, hS₅, hO₅, fun q hq => hn₅ q (List.mem_append_right _ hq), hl₅, fun z hz => ?_⟩
    · rcases List.mem_append.mp hq with hq | hq
      · exact hoff q (List.mem_append_left _ hq)
      · rw [List.mem_singleton.mp hq]
        intro e
        exact hn₅ (I, oI) (List.mem_append_left _ hIo) (List.mem_singleton.mp e).symm
    · exact (hm₅ z fun e => hz (List.mem_cons_of_mem _ e)).trans ((if_neg (fun e => hz (by rw [e]; decide))).trans (hm2 z hz))
  · rintro h₄ tk₄ m₄ news₄ F₄ N₄ ⟨d₁, o₁, rfl, hdS₁, hO₁, hcd₁, hm1, hm2⟩
    exact k h₄ _ m₄ d₁ o₁ F₄ N₄ hdS₁ hO₁ hcd₁ hm1 ((hm2 _ (by decide)).trans hO)
end Mine

-- part R9
namespace Mine

theorem vals_ints : ∀ vs : List (Str × Int × Tok), IntsAre ((intPairs vs).map (·.2)) (vs.map (·.2.1))
  | [] => .nil
  | x :: r => .cons _ _ (vals_ints r)

theorem lawD {w : World} {A : Around} {s : Shared} {E : Value → Shared → Prop} {p : Program} {loose : List Str} {mg mb : Str → Option Value} {h₀ : Heap} {L aO aW aP d : Addr} {o : Obj} {os : List Nat} {m : Str → Option Value} {cst : List (Addr × Obj)} {D : List (Str × Int)} {Q : Flow → Shared → Prop}
    (X : (hd.heap_39 w.params).In h₀) (T : TopRead p loose mg mb h₀) (hh : A.handled = none)
    (F : Fr h₀ L s.heap m) (N : News h₀ L s.heap (cst ++ [(d, o)])) (C : Cst cst aO aW aP os) (hdS : (d == sysModules) = false) (ho : OI w o D) (hD : D.length ≤ 1000)
    (hl : m (Str.ofString "lines") = some (.ref d)) (hO : m (Str.ofString "octets") = some (.ref aO))
    (law : 1 < D.length → 3 * os.length ≤ 7 * (D.map (·.2)).count 1)
    (k : ∀ h' tk, Fr h₀ L h' m → News h₀ L h' (cst ++ [(d, o)]) → wpAny (model PG w) A (execs (lawDef.1.drop 9) (lawEnv L)) Q E { s with heap := h', toks := tk }) :
    wpAny (model PG w) A (execs (lawDef.1.drop 8) (lawEnv L)) Q E s := by
  have hsL : sizeLine = 16777216 := sizeLine_eq
  have hlen := C.len
  obtain ⟨vs, hdo, hvs⟩ := id ho
  have hvl : (intPairs vs).length = D.length := by rw [← hvs]; simp [intPairs]
  have hdd : s.heap.DictOf (PySem.strKind PG w) d (intPairs vs) := Heap.dictOf_iff.mpr ⟨o, (N (d, o) (by simp)).1, hdo⟩
  refine wpAny_execs_cons (wpAny_If (wpAny_isTrue_BoolOp (wpAny_allTrue_And_cons (wpAny_isTrue_Compare1 (Call_ (nameX_B F X T rfl (by boot_fast) (by decide) (PyProof.Rows.callWith_builtin1 (spliced_more (nameX_L F hl (spliced_none ?_)))))))))) 
  refine call_len_dict hdS hdd (by omega) (wpAny_Constant_int (P.gt_int (wpAny_truthy_bool ?_)))
  dsimp only
  rw [hvl]
  by_cases h1 : 1 < D.length
  · rw [decide_eq_true (by omega)]
    refine (if_pos rfl).mpr ?_
    refine wpAny_allTrue_And_cons (wpAny_isTrue_Compare1 (wpAny_BinOp (wpAny_Constant_int (MethodCall_ (Call_ (nameX_B F X T rfl (by boot_fast) (by decide) (PyProof.Rows.callWith_type1 (spliced_more (Call_values hdS hdd rfl rfl (fun Q' hQ' => nameX_L F hl hQ') (spliced_none ?_)))))))))) 
    dsimp only
    have F₁ := F.push { cls := .type "dict_values", data := .fields #[.ref d] }
    have N₁ := News.push F N { cls := .type "dict_values", data := .fields #[.ref d] }
    refine kdl_list_valuesP (knd := PySem.strKind PG w) hh F₁ N₁ (List.mem_cons_self ..) (o := o) (by simp) hdo (by omega) fun B c h₂ tk₂ F₂ N₂ lt₂ => ?_
    have hB : h₂.IsList B ((intPairs vs).map (·.2)).toArray := ⟨_, (N₂ _ (List.mem_cons_self ..)).1, rfl, _, rfl⟩
    refine getMethod_list_of PySem.F.slot_list_count PySem.F.type_list_count hB ⟨_, (N₂ _ (List.mem_cons_self ..)).1, rfl⟩ ?_
    refine callWith_method1 (spliced_more (wpAny_Constant_int (spliced_none (count_list_ints hB (vals_ints vs) ?_))))
    dsimp only
    have hcnt : (vs.map (·.2.1)).count 1 = (D.map (·.2)).count 1 := by rw [← hvs, List.map_map]; rfl
    rw [hcnt]
    refine P.mul_int ?_ (IntMulOk.of_left (by decide +kernel))
    have N₃ : News h₀ L h₂ (cst ++ [(d, o)]) := fun q hq => N₂ q (List.mem_cons_of_mem _ (List.mem_cons_of_mem _ hq))
    obtain ⟨itsO, hlO, hI⟩ := C.octs (fun q hq => N₃ q (List.mem_append_left _ hq))
    have hsz : itsO.size = os.length := by have := hI.length; rw [List.length_map] at this; simpa using this
    refine wpAny_BinOp (wpAny_Constant_int (Call_ (nameX_B F₂ X T rfl (by boot_fast) (by decide) (PyProof.Rows.callWith_builtin1 (spliced_more (nameX_L F₂ hO (spliced_none (Calls.call_len_list hlO (by omega) ?_))))))))
    refine P.mul_int (P.lt_int (wpAny_truthy_bool ?_)) (IntMulOk.of_left (by decide +kernel))
    have := law h1
    rw [hsz, decide_eq_false (by omega)]
    refine (if_neg (by decide)).mpr ?_
    exact (if_neg (by decide)).mpr (wpAny_execs_nil (k _ _ F₂ N₃))
  · rw [decide_eq_false (by omega)]
    refine (if_neg (by decide)).mpr ?_
    exact (if_neg (by decide)).mpr (wpAny_execs_nil (k _ _ F N))
end Mine

-- part S1
namespace Mine

def forBody : List Stmt := match lawDef.1.drop 9 with | .For _ _ b _ _ :: _ => b | _ => []

/-- two lists of the same ints are not unequal -/
theorem ints_ne {A : Around} {s : Shared} {a b : Addr} {vs us : Array Value} {ns : List Int} (ha : s.heap.IsList a vs) (hb : s.heap.IsList b us) (hv : IntsAre vs.toList ns) (hu' : IntsAre us.toList ns) (hu : A.units < cLine) : SeqAt.RcNeAt A s (.ref a) (.ref b) false := by
  have e1 : vs.size = ns.length := by have := hv.length; simpa using this
  have e2 : us.size = ns.length := by have := hu'.length; simpa using this
  have := SeqAt.RcNeAt.lists (A := A) (e := fun _ => true) ha hb (e1.trans e2.symm) hu (fun j h1 h2 => by
    obtain ⟨z, t, q, hz⟩ := hv.at j vs[j] (by simp)
    obtain ⟨z', t', q', hz'⟩ := hu'.at j us[j] (by simp)
    rw [hz] at hz'; cases hz'
    rw [q, q']
    have := SeqAt.EqAt.int_int (A := A.in1) (s := s) z t z t'
    rwa [beq_self_eq_true] at this)
  rwa [all_true fun _ _ => rfl] at this

theorem ints_of_paired {cs : List Nat} {ys : List Value} (h : Paired (fun (c : Nat) y => ∃ u, y = Value.int (c : Int) u) cs ys) : IntsAre ys (cs.map Int.ofNat) := by
  induction h with
  | nil => exact .nil
  | @cons a b l₁ l₂ hab _ ih =>
    obtain ⟨u, rfl⟩ := hab
    exact .cons _ _ ih

/-- the signs of a text, as ints in a new list -/
theorem lawS {w : World} {A : Around} {s : Shared} {E : Value → Shared → Prop} {p : Program} {loose : List Str} {mg mb : Str → Option Value} {h₀ : Heap} {L : Addr} {m : Str → Option Value} {news : List (Addr × Obj)} {cs : List Nat} {t : Tok} {oc : Obj} {vc : Option Value} {Q : Flow → Shared → Prop}
    (X : (hd.heap_39 w.params).In h₀) (T : TopRead p loose mg mb h₀) (hh : A.handled = none) (hA : A.depth + 1 < recursionLimit)
    (F : Fr h₀ L s.heap m) (N : News h₀ L s.heap (news ++ [(L + 1, oc)])) (hc : oc.data = .cell vc) (hn : ∀ q ∈ news, q.1 ≠ L + 1) (hm : m (Str.ofString "text") = some (.str (txt cs) t)) (hcs : ∀ c ∈ cs, c < 256) (hne : cs ≠ []) (hl : cs.length ≤ 1000)
    (h : ∀ h' tk aS ys n oc', Fr h₀ L h' m → News h₀ L h' (((aS, listOf ys n) :: news) ++ [(L + 1, oc')]) → oc'.data = .cell (some (.ref aS)) → IntsAre ys.toList (cs.map Int.ofNat) →
      wpAny (model PG w) A (execs (forBody.drop 1) (lawEnv L)) Q E { s with heap := h', toks := tk }) :
    wpAny (model PG w) A (execs forBody (lawEnv L)) Q E s := by
  have hsL : sizeLine = 16777216 := sizeLine_eq
  refine wpAny_execs_cons (wpAny_Assign_Name ?_)
  refine wpAny_ListComp_free (cl := []) (fun _ => true) (fun v y => ∃ (c : Nat) (t u : Tok), v = Value.str ⟨#[c]⟩ t ∧ y = Value.int (c : Int) u) rfl (by decide) rfl (by decide) rfl ?_
  refine Call_ (nameX_K F X T (v := .ref 71) rfl (callWith_K (X.keeps F.keep) rfl (spliced_more (nameX_L F hm (spliced_none ⟨X.keeps F.keep, ?_⟩)))))
  refine wpAny_mono (decode_spec (X.keeps F.keep) (T.keeps F.keep) hA hh hcs hne hl) (fun y s₁ h₁ => ?_) fun _ _ e => e
  obtain ⟨⟨u, rfl⟩, h₁, k₁, rfl, hk₁⟩ := h₁
  dsimp only
  have F₁ := F.keeps hk₁
  have N₁ := N.keeps hk₁
  refine wpAny_pyIter_str fun ob St W hSt => ?_
  have hfresh : h₀.get? h₁.objs.size = none := next_is_new F₁
  have F₂ := F₁.push ob
  have N₂ := N₁.pushKeep (o := ob)
  have base : ∀ h : Heap, (∀ b o, b ∉ [h₁.objs.size] → (h₁.push ob).get? b = some o → h.get? b = some o) → Kp h₁ h := fun h k3 b o e =>
    k3 b o (fun q => by rw [List.mem_singleton.mp q] at e; exact absurd (Heap.lt_size e) (Nat.lt_irrefl _)) (Heap.get?_push_of_some _ e)
  refine ⟨_, _, _, (plainS cs).length, _, _, rfl, W A hh, by show (plainS cs).length ≤ sizeLine; unfold plainS Str.length; simp; omega, hSt, ?_, ⟨?_, ?_⟩, ?_⟩
  · intro b hb
    rw [List.mem_singleton.mp hb]
    show h₁.objs.size < (h₁.push ob).objs.size
    rw [Heap.size_push]; exact Nat.lt_succ_self _
  · intro C i v s₃ m₃ E' _ _ _ _ _ _
    exact wpAny_tests_nil ⟨rfl, _, _, rfl, fun _ _ e => e⟩
  · rintro C i v s₃ m₃ E' hC ⟨c, uc, hcc, rfl⟩ _ hNs hmx hkeep _
    have kp : Kp h₀ s₃.heap := fun b o e => base _ hkeep b o (F₁.keep b o e)
    refine Call_ (nameGB (X.keeps kp) (T.keeps kp) rfl (by boot_fast) (by decide) (PyProof.Rows.callWith_builtin1 (spliced_more (ldNs hNs hmx (spliced_none (ord_of_one rfl ?_))))))
    exact ⟨⟨c, uc, _, rfl, rfl⟩, _, _, rfl, fun _ _ e => e⟩
  · intro D h' tk ys vs hD hDl hDp hvl hvP hpair hkeep
    have kp := base h' hkeep
    have F' := F₁.keeps kp
    have N' := N₁.keeps kp
    obtain ⟨n, hDn⟩ := hDp
    have hD1 : h₁.get? D = none := by
      cases q : h₁.get? D with
      | none => rfl
      | some o => have := Heap.get?_push_of_some ob q; rw [this] at hD; cases hD
    have hDL : D ≠ L := by
      obtain ⟨oL, _, _, hL, _⟩ := F₁.ns
      rintro rfl; rw [hL] at hD1; cases hD1
    have hD0 : h₀.get? D = none := by
      cases q : h₀.get? D with
      | none => rfl
      | some y => rw [F₁.keep _ _ q] at hD1; cases hD1
    have hmem := N' (L + 1, oc) (by simp)
    have hDc : D ≠ L + 1 := by
      rintro rfl
      have := (N₁ (L + 1, oc) (by simp)).1
      rw [hD1] at this; cases this
    refine wpAny_storeName_cell rfl rfl rfl ⟨oc, hmem.1, hc⟩ fun h'' hv hs => ?_
    obtain ⟨oc', hoc', hdc'⟩ := hv
    have F'' := F'.change hs hmem.2.1 hmem.2.2
    rw [List.filter_eq_self.mpr (fun _ _ => rfl)] at hpair
    refine h h'' _ D ys n oc' F'' (fun q hq => ?_) hdc' ?_
    · rcases List.mem_append.mp hq with hq | hq
      · rcases List.mem_cons.mp hq with rfl | hq
        · exact ⟨(hs.2 _ hDc).trans hDn, hDL, hD0⟩
        · have := N' q (List.mem_append_left _ hq)
          exact ⟨(hs.2 _ (hn q hq)).trans this.1, this.2⟩
      · rw [List.mem_singleton.mp hq]
        exact ⟨hoc', hmem.2⟩
    · have hR : Paired (fun v (c : Nat) => ∃ t, v = Value.str ⟨#[c]⟩ t) vs cs := paired_of vs cs (by rw [hvl]; simp [plainS, Str.length]) fun i v c e1 e2 => by
        obtain ⟨c', t, hc', rfl⟩ := hvP i v e1
        have : cs.toArray[i]? = some c' := hc'
        rw [List.getElem?_toArray, e2] at this
        cases this
        exact ⟨t, rfl⟩
      have hG : Paired (fun (c : Nat) y => ∃ u, y = Value.int (c : Int) u) (cs.filter fun _ => true) ys.toList := by
        refine paired_filter (p := fun _ => true) (fun _ _ _ => rfl) ?_ hR (by rw [List.filter_eq_self.mpr (fun _ _ => rfl)]; exact hpair)
        rintro v c y ⟨t, rfl⟩ ⟨c', t', u, q, rfl⟩
        have : c' = c := by
          injection q with q _
          injection q with q
          simpa using q.symm
        rw [this]; exact ⟨u, rfl⟩
      rw [List.filter_eq_self.mpr (fun _ _ => rfl)] at hG
      exact ints_of_paired hG
end Mine

-- part S2
namespace Mine

def inCs (cs : List Nat) (v : Value) : Bool := match v with
  | .int i _ => (cs.map Int.ofNat).any (· == i)
  | _ => false
theorem inCs_nat (cs : List Nat) (o : Nat) (t : Tok) : inCs cs (.int (o : Int) t) = decide (o ∈ cs) := by
  show (cs.map Int.ofNat).any (· == (o : Int)) = _
  rw [Bool.eq_iff_iff, List.any_eq_true, decide_eq_true_eq, ← mem_cast]
  constructor
  · rintro ⟨x, hx, e⟩; rw [← eq_of_beq e]; exact hx
  · exact fun h => ⟨_, h, beq_self_eq_true _⟩

theorem lawT {w : World} {A : Around} {s : Shared} {E : Value → Shared → Prop} {p : Program} {loose : List Str} {mg mb : Str → Option Value} {h₀ : Heap} {L aO aW aP aS d : Addr} {m : Str → Option Value} {R : List (Addr × Obj)} {os cs : List Nat} {t : Tok} {oc o : Obj} {ys : Array Value} {n : Nat} {D : List (Str × Int)} {z : Int} {Q : Flow → Shared → Prop}
    (X : (hd.heap_39 w.params).In h₀) (T : TopRead p loose mg mb h₀) (hh : A.handled = none) (hu : A.units < cLine)
    (F : Fr h₀ L s.heap m) (N : News h₀ L s.heap (((aS, listOf ys n) :: R) ++ [(L + 1, oc)])) (hc : oc.data = .cell (some (.ref aS))) (hI : IntsAre ys.toList (cs.map Int.ofNat)) (C : Cst R aO aW aP os) (hd : (d, o) ∈ R) (hdS : (d == sysModules) = false) (ho : OI w o D)
    (hm : m (Str.ofString "text") = some (.str (txt cs) t)) (hl : m (Str.ofString "lines") = some (.ref d)) (hO : m (Str.ofString "octets") = some (.ref aO))
    (hf : os.filter (fun x => decide (x ∈ cs)) = cs) (hlk : look D (txt cs) = some z) (hz : 2 * z = (cs.length : Int) * ((cs.length : Int) - 1))
    (h : ∀ h' tk, Fr h₀ L h' m → News h₀ L h' (R ++ [(L + 1, oc)]) → Q .next { s with heap := h', toks := tk }) :
    wpAny (model PG w) A (execs (forBody.drop 1) (lawEnv L)) Q E s := by
  have hsL : sizeLine = 16777216 := sizeLine_eq
  have hlen := C.len
  have NR : News h₀ L s.heap R := fun q hq => N q (List.mem_append_left _ (List.mem_cons_of_mem _ hq))
  obtain ⟨itsO, hlO, hIO⟩ := C.octs NR
  have hsz : itsO.size = os.length := by have := hIO.length; rw [List.length_map] at this; simpa using this
  have hcl : cs.length ≤ 15 := by rw [← hf]; exact Nat.le_trans (List.length_filter_le _ _) hlen
  have val : ∀ (i : Nat) v, itsO[i]? = some v → ∃ (o : Nat) (t : Tok), v = Value.int (o : Int) t ∧ os[i]? = some o := fun i v e => by
    obtain ⟨z, t, rfl, hz⟩ := hIO.at i v (by simpa using e)
    rw [List.getElem?_map] at hz
    cases q : os[i]? with
    | none => rw [q] at hz; cases hz
    | some o => rw [q] at hz; cases hz; exact ⟨o, t, rfl, rfl⟩
  have hcell : s.heap.IsCell (L + 1) (some (.ref aS)) := ⟨oc, (N (L + 1, oc) (by simp)).1, hc⟩
  have hlS : s.heap.IsList aS ys := ⟨_, (N (aS, listOf ys n) (by simp)).1, rfl, _, rfl⟩
  refine wpAny_execs_cons (wpAny_If (wpAny_isTrue_BoolOp (wpAny_allTrue_Or_cons (wpAny_isTrue_Compare1 ?_))))
  refine wpAny_ListComp_free (cl := [(Str.ofString "signs", L + 1)]) (inCs cs) (fun v y => v = y) rfl (by decide) rfl (by decide) rfl ?_
  refine nameX_L F hO (wpAny_pyIter_list hlO ?_)
  have hne : aO ≠ s.heap.objs.size := by obtain ⟨o, ho, _⟩ := hlO; exact Nat.ne_of_lt (Heap.lt_size ho)
  have base : ∀ h : Heap, (∀ b o, b ∉ [s.heap.objs.size] → (s.heap.push { cls := .type "list_iterator", data := .fields #[.ref aO, .int 0 0] }).get? b = some o → h.get? b = some o) → Kp s.heap h := fun h k3 b o e =>
    k3 b o (fun q => by rw [List.mem_singleton.mp q] at e; exact absurd (Heap.lt_size e) (Nat.lt_irrefl _)) (Heap.get?_push_of_some _ e)
  refine ⟨_, _, _, itsO.size, _, _, rfl, Walks.list hh _ aO hne itsO, by omega, ⟨⟨_, Heap.get?_push_size _ rfl, rfl, rfl⟩, hlO.at fun o e => Heap.get?_push_of_some _ e⟩, ?_, ⟨?_, ?_⟩, ?_⟩
  · intro b hb
    rcases List.mem_cons.mp hb with rfl | hb
    · exact Heap.lt_size (Heap.get?_push_size _ rfl)
    · rw [List.mem_singleton.mp hb]; obtain ⟨o, ho, _⟩ := hlO; exact Heap.lt_size (Heap.get?_push_of_some _ ho)
  · intro C' i v s₃ m₃ E' hC hv hNs hmx hkeep _
    obtain ⟨o, t, rfl, ho⟩ := val i v hv
    have kp := base _ hkeep
    refine wpAny_tests_one (wpAny_isTrue_Compare1 (ldNs hNs hmx (ldCell (c := L + 1) (hcell.keeps kp) ?_)))
    refine in_list_ints (vs := ys.toList) (hlS.at fun o e => kp _ o e) hI (wpAny_truthy_bool ⟨rfl, _, _, rfl, fun _ _ e => e⟩)
  · intro C' i v s₃ m₃ E' hC hv _ hNs hmx hkeep _
    exact ldNs hNs hmx ⟨rfl, _, _, rfl, fun _ _ e => e⟩
  · intro B h' tk us vs hB hBl hBp hvl hvP hpair hkeep
    have kp := base h' hkeep
    have F' := F.keeps kp
    have N' := N.keeps kp
    have hus : IntsAre us.toList (cs.map Int.ofNat) := by
      have hR : Paired (fun v (x : Nat) => ∃ t, v = Value.int (x : Int) t) vs os := paired_of vs os (by omega) fun i v o e1 e2 => by
        obtain ⟨o', t, rfl, ho'⟩ := val i v (hvP i v e1)
        rw [e2] at ho'; cases ho'
        exact ⟨t, rfl⟩
      have hG : Paired (fun (c : Nat) y => ∃ u, y = Value.int (c : Int) u) (os.filter fun x => decide (x ∈ cs)) us.toList := by
        refine paired_filter (p := inCs cs) ?_ ?_ hR hpair
        · rintro v x ⟨t, rfl⟩; exact inCs_nat cs x t
        · rintro v x y ⟨t, rfl⟩ rfl; exact ⟨t, rfl⟩
      rw [hf] at hG
      exact ints_of_paired hG
    refine ldCell (c := L + 1) (hcell.keeps kp) ?_
    refine ints_ne hBl (hlS.at fun o e => kp _ o e) hus hI hu PG w E _ (wpAny_truthy_bool ?_)
    refine (if_neg (by decide)).mpr ?_
    obtain ⟨vd, hod, hvd⟩ := id ho
    have hdd : ∀ h'' : Heap, News h₀ L h'' (((aS, listOf ys n) :: R) ++ [(L + 1, oc)]) → h''.DictOf (PySem.strKind PG w) d (intPairs vd) := fun h'' N'' => Heap.dictOf_iff.mpr ⟨o, (N'' (d, o) (by simp [hd])).1, hod⟩
    obtain ⟨tz, hva⟩ : ∃ tz, valueAt (intPairs vd) (txt cs) = some (.int z tz) := by
      rcases valueAt_int vd (txt cs) with ⟨n', t', e1, e2⟩ | ⟨e1, e2⟩
      · rw [hvd, hlk] at e2; cases e2; exact ⟨t', e1⟩
      · rw [hvd, hlk] at e2; cases e2
    refine wpAny_allTrue_Or_cons (isTrue_plain (Call_ (nameX_B F' X T rfl (by boot_fast) (by decide) (PyProof.Rows.callWith_builtin1 (spliced_more (Subscript_ (nameX_L F' hl (nameX_L F' hm ?_))))))))
    refine subscriptTail_builtin (hdd h' N').typeIs slot_dict_getitem.lookup (wpAny_getItem_of (knd := PySem.strKind PG w) (strKind_is _ _ _ _) (hdd h' N').mapOf hva ?_) (by with_unfolding_all rfl) (by intro _; with_unfolding_all rfl)
    refine spliced_more (nameX_B F' X T rfl (by boot_fast) (by decide) (spliced_none (IsiPair.int_bool (wpAny_truthy_bool ?_))))
    refine (if_neg (by decide)).mpr (wpAny_allTrue_Or_nil ((if_neg (by decide)).mpr (wpAny_execs_nil ?_)))
    dsimp only
    refine wpAny_execs_cons (wpAny_If (wpAny_isTrue_Compare1 (Subscript_ (nameX_L F' hl (nameX_L F' hm ?_)))))
    refine subscriptTail_builtin (hdd h' N').typeIs slot_dict_getitem.lookup (wpAny_getItem_of (knd := PySem.strKind PG w) (strKind_is _ _ _ _) (hdd h' N').mapOf hva ?_) (by with_unfolding_all rfl) (by intro _; with_unfolding_all rfl)
    have hlS' := hlS.at fun o e => kp _ o e
    have hys : ys.size = cs.length := by have := hI.length; rw [List.length_map] at this; simpa using this
    refine wpAny_BinOp (wpAny_BinOp (Call_ (nameX_B F' X T rfl (by boot_fast) (by decide) (PyProof.Rows.callWith_builtin1 (spliced_more (ldCell (c := L + 1) (hcell.keeps kp) (spliced_none (Calls.call_len_list hlS' (by omega) ?_))))))))
    refine wpAny_BinOp (Call_ (nameX_B F' X T rfl (by boot_fast) (by decide) (PyProof.Rows.callWith_builtin1 (spliced_more (ldCell (c := L + 1) (hcell.keeps kp) (spliced_none (Calls.call_len_list hlS' (by omega) (wpAny_Constant_int (P.sub_int ?_)))))))))
    rw [hys]
    dsimp only
    have hb : 0 ≤ (cs.length : Int) * ((cs.length : Int) - 1) ∧ (cs.length : Int) * ((cs.length : Int) - 1) ≤ 225 := by
      rcases Nat.eq_zero_or_pos cs.length with e | e
      · rw [e]; decide
      · have h1 : (0 : Int) ≤ (cs.length : Int) - 1 := by omega
        exact ⟨Int.mul_nonneg (by omega) h1, by
          have : (cs.length : Int) * ((cs.length : Int) - 1) ≤ 15 * 15 := Int.mul_le_mul (by omega) (by omega) h1 (by omega)
          omega⟩
    refine P.mul_int ?_ (mul16 (by omega) (by omega))
    generalize (cs.length : Int) * ((cs.length : Int) - 1) = Pd at hz hb ⊢
    dsimp only
    refine wpAny_Constant_int (floordiv_int (by decide) (P.ne_int (wpAny_truthy_bool ?_)) (Or.inl (PyProof.noPylong_small (by omega))))
    have e : Pd.fdiv 2 = z := by rw [Int.fdiv_eq_ediv_of_nonneg _ (by decide)]; omega
    rw [e, bne_self_eq_false]
    refine (if_neg (by decide)).mpr (wpAny_execs_nil (wpAny_execs_nil ?_))
    exact h _ _ F' fun q hq => N' q (by
      rcases List.mem_append.mp hq with hq | hq
      · exact List.mem_append_left _ (List.mem_cons_of_mem _ hq)
      · exact List.mem_append_right _ hq)
end Mine

-- part S3
namespace Mine

theorem Cst.drop {h₀ h : Heap} {L c : Addr} {cst : List (Addr × Obj)} {aO aW aP : Addr} {os : List Nat} {oc : Obj} {v : Option Value} (C : Cst cst aO aW aP os) (N : News h₀ L h cst) (hc : (c, oc) ∈ cst) (hd : oc.data = .cell v) :
    Cst (cst.filter fun q => decide (q.1 ≠ c)) aO aW aP os := by
  have key : ∀ a ob, (a, ob) ∈ cst → (∀ w, ob.data ≠ .cell w) → (a, ob) ∈ cst.filter fun q => decide (q.1 ≠ c) := fun a ob hm hn => by
    refine List.mem_filter.mpr ⟨hm, decide_eq_true fun e => ?_⟩
    have e : a = c := e
    subst e
    have h1 := (N _ hm).1
    have h2 := (N _ hc).1
    have : some ob = some oc := h1.symm.trans h2
    cases this
    exact hn v hd
  refine ⟨?_, ?_, ?_, C.lt, C.len⟩
  · obtain ⟨a, b, c, d⟩ := C.o
    exact ⟨a, b, key _ _ c (fun w e => nomatch e), d⟩
  · obtain ⟨a, b, c, d⟩ := C.w
    exact ⟨a, b, key _ _ c (fun w e => nomatch e), d⟩
  · obtain ⟨a, b, c, d, e⟩ := C.p
    refine ⟨a, b, key _ _ c (fun w e => nomatch e), d, fun i o x => ?_⟩
    obtain ⟨q, ob, t, u, n', e1, e2, e3, e4⟩ := e i o x
    exact ⟨q, ob, t, u, n', e1, key _ _ e2 (fun w e => by rw [e4] at e; cases e), e3, e4⟩

/-- what each text of the counting dict is -/
def GoodText (os : List Nat) (D : List (Str × Int)) : Prop :=
  ∀ k z, (k, z) ∈ D → look D k = some z ∧ ∃ cs : List Nat, k = txt cs ∧ cs ≠ [] ∧ os.filter (fun x => decide (x ∈ cs)) = cs ∧ 2 * z = (cs.length : Int) * ((cs.length : Int) - 1)

theorem lawE {w : World} {A : Around} {s : Shared} {E : Value → Shared → Prop} {p : Program} {loose : List Str} {mg mb : Str → Option Value} {h₀ : Heap} {L aO aW aP d : Addr} {m : Str → Option Value} {cst : List (Addr × Obj)} {os : List Nat} {oc o : Obj} {vc : Option Value} {D : List (Str × Int)} {Q : Flow → Shared → Prop}
    (X : (hd.heap_39 w.params).In h₀) (T : TopRead p loose mg mb h₀) (hh : A.handled = none) (hA : A.depth + 1 < recursionLimit) (hu : A.units < cLine) (hE : PassesOwn (model PG w) A (lawEnv L) E)
    (F : Fr h₀ L s.heap m) (N : News h₀ L s.heap (cst ++ [(d, o)])) (C : Cst cst aO aW aP os) (hdS : (d == sysModules) = false) (ho : OI w o D) (hcd : ∀ q ∈ cst, q.1 ≠ d)
    (hc : (L + 1, oc) ∈ cst) (hcv : oc.data = .cell vc)
    (hl : m (Str.ofString "lines") = some (.ref d)) (hO : m (Str.ofString "octets") = some (.ref aO)) (good : GoodText os D)
    (k : ∀ h' tk m' cst', Fr h₀ L h' m' → News h₀ L h' (cst' ++ [(d, o)]) → Cst cst' aO aW aP os → m' (Str.ofString "lines") = some (.ref d) → m' (Str.ofString "octets") = some (.ref aO) →
      wpAny (model PG w) A (execs (lawDef.1.drop 10) (lawEnv L)) Q E { s with heap := h', toks := tk }) :
    wpAny (model PG w) A (execs (lawDef.1.drop 9) (lawEnv L)) Q E s := by
  have C' : Cst (cst.filter fun q => decide (q.1 ≠ L + 1)) aO aW aP os := C.drop (fun q hq => N q (List.mem_append_left _ hq)) hc hcv
  have hdc : d ≠ L + 1 := fun e => hcd _ hc e.symm
  generalize hcst : (cst.filter fun q => decide (q.1 ≠ L + 1)) = cst' at C'
  have hcst' : ∀ q ∈ cst', q.1 ≠ L + 1 ∧ q ∈ cst := fun q hq => by
    rw [← hcst] at hq
    exact ⟨of_decide_eq_true (List.mem_filter.mp hq).2, (List.mem_filter.mp hq).1⟩
  obtain ⟨vd, hod, hvd⟩ := id ho
  have hdd : s.heap.DictOf (PySem.strKind PG w) d (intPairs vd) := Heap.dictOf_iff.mpr ⟨o, (N (d, o) (by simp)).1, hod⟩
  have hN' : News h₀ L s.heap ((cst' ++ [(d, o)]) ++ [(L + 1, oc)]) := fun q hq => N q (by
    rcases List.mem_append.mp hq with hq | hq
    · rcases List.mem_append.mp hq with hq | hq
      · exact List.mem_append_left _ (hcst' q hq).2
      · exact List.mem_append_right _ hq
    · rw [List.mem_singleton.mp hq]; exact List.mem_append_left _ hc)
  refine wpAny_execs_cons (For_invU h₀ rfl rfl (nameX_L F hl ?_) (hE := hE))
  refine iterKeys (h₀ := h₀) hh hdd hdS F hN' (N (d, o) (by simp)).2.1
    (fun _ m₁ news => ∃ oc v, news = (cst' ++ [(d, o)]) ++ [(L + 1, oc)] ∧ oc.data = .cell v ∧ ∀ z, z ≠ Str.ofString "text" → m₁ z = m z)
    ⟨oc, vc, rfl, hcv, fun z _ => rfl⟩ ?_ ?_
  · rintro i key v t m₁ news₁ s₁ own hx ⟨oc₁, v₁, rfl, hcv₁, hm₁⟩ F₁ N₁ hoff hown
    obtain ⟨x, hx1, rfl⟩ := intPairs_at hx
    have hkey : key = x.1 := by
      unfold intPairs at hx
      rw [List.getElem?_map, hx1] at hx
      cases hx; rfl
    subst hkey
    have hmem : (x.1, x.2.1) ∈ D := by rw [← hvd]; exact List.mem_map.mpr ⟨x, List.mem_of_getElem? hx1, rfl⟩
    obtain ⟨hlk, cs, hcs, hne, hf, hz⟩ := good _ _ hmem
    rw [hcs] at F₁ hlk
    have hcl : cs.length ≤ 15 := by rw [← hf]; exact Nat.le_trans (List.length_filter_le _ _) C'.len
    have h256 : ∀ c ∈ cs, c < 256 := fun c h => C'.lt c (by rw [← hf] at h; exact (List.mem_filter.mp h).1)
    rw [← List.append_assoc] at N₁
    show wpAny _ _ (execs forBody (lawEnv L)) _ _ _
    refine lawS X T hh hA F₁ N₁ hcv₁ ?_ (if_pos rfl) h256 hne (by omega) fun h₂ tk₂ aS ys n oc₂ F₂ N₂ hcv₂ hI₂ => ?_
    · intro q hq
      rcases List.mem_append.mp hq with hq | hq
      · intro e
        rcases List.mem_cons.mp (hown q hq) with q' | q'
        · exact hoff (L + 1, oc₁) (by simp) (List.mem_singleton.mpr (e.symm.trans q'))
        · exact hdc ((List.mem_singleton.mp q').symm.trans e)
      · rcases List.mem_append.mp hq with hq | hq
        · exact (hcst' q hq).1
        · rw [List.mem_singleton.mp hq]; exact hdc
    · refine lawT X T hh hu F₂ N₂ hcv₂ hI₂ (C'.sub fun q hq => List.mem_append_right _ (List.mem_append_left _ hq)) (d := d) (o := o) (by simp) hdS ho (if_pos rfl)
        ((if_neg (by decide)).trans ((hm₁ _ (by decide)).trans hl)) ((if_neg (by decide)).trans ((hm₁ _ (by decide)).trans hO)) hf hlk hz fun h₃ tk₃ F₃ N₃ => ?_
      rw [List.append_assoc] at N₃
      refine ⟨rfl, _, _, _, _, rfl, F₃, N₃, fun q hq => ?_, oc₂, _, rfl, hcv₂, fun z hz => ?_⟩
      · rcases List.mem_append.mp hq with hq | hq
        · exact hoff q (List.mem_append_left _ hq)
        · rw [List.mem_singleton.mp hq]; exact hoff (L + 1, oc₁) (by simp)
      · exact (if_neg hz).trans (hm₁ z hz)
  · rintro h₄ tk₄ m₄ news₄ F₄ N₄ ⟨oc₄, v₄, rfl, hcv₄, hm₄⟩
    exact k h₄ _ m₄ cst' F₄ (fun q hq => N₄ q (List.mem_append_left _ hq)) C' ((hm₄ _ (by decide)).trans hl) ((hm₄ _ (by decide)).trans hO)

theorem lawF {w : World} {A : Around} {s : Shared} {E : Value → Shared → Prop} {p : Program} {loose : List Str} {mg mb : Str → Option Value} {h₀ : Heap} {L aO aW aP d : Addr} {m : Str → Option Value} {cst : List (Addr × Obj)} {os : List Nat} {o : Obj} {D : List (Str × Int)} {Q : Flow → Shared → Prop}
    (X : (hd.heap_39 w.params).In h₀) (T : TopRead p loose mg mb h₀) (hh : A.handled = none) (hA : A.depth + 1 < recursionLimit)
    (F : Fr h₀ L s.heap m) (N : News h₀ L s.heap (cst ++ [(d, o)])) (C : Cst cst aO aW aP os) (hdS : (d == sysModules) = false) (ho : OI w o D)
    (hl : m (Str.ofString "lines") = some (.ref d)) (hO : m (Str.ofString "octets") = some (.ref aO)) (hsum : 2 * (D.map (·.2)).sum = (os.length : Int) * ((os.length : Int) - 1))
    (k : ∀ h' tk, Kp h₀ h' → Q (.ret (.bool true)) { s with heap := h', toks := tk }) :
    wpAny (model PG w) A (execs (lawDef.1.drop 10) (lawEnv L)) Q E s := by
  have hsL : sizeLine = 16777216 := sizeLine_eq
  have hlen := C.len
  refine wpAny_execs_cons (wpAny_Return_some (wpAny_Compare1 (Call_ (nameX_K F X T (v := .ref 28) rfl (callWith_K (X.keeps F.keep) rfl (spliced_more (nameX_L F hl (spliced_none ⟨X.keeps F.keep, ?_⟩))))))))
  refine wpAny_mono (count_calls_spec (X.keeps F.keep) (T.keeps F.keep) (by omega) hh (DI.ofO (N (d, o) (by simp)).1 ho) hdS) (fun y s₂ h₂ => ?_) fun _ _ e => e
  obtain ⟨⟨u, rfl⟩, h₂, t₂, rfl, hk₂⟩ := h₂
  dsimp only
  have F₂ := F.keeps hk₂
  have N₂ := N.keeps hk₂
  obtain ⟨itsO, hlO, hI⟩ := C.octs (fun q hq => N₂ q (List.mem_append_left _ hq))
  have hsz : itsO.size = os.length := by have := hI.length; rw [List.length_map] at this; simpa using this
  refine wpAny_BinOp (wpAny_BinOp (Call_ (nameX_B F₂ X T rfl (by boot_fast) (by decide) (PyProof.Rows.callWith_builtin1 (spliced_more (nameX_L F₂ hO (spliced_none (Calls.call_len_list hlO (by omega) ?_))))))))
  refine wpAny_BinOp (Call_ (nameX_B F₂ X T rfl (by boot_fast) (by decide) (PyProof.Rows.callWith_builtin1 (spliced_more (nameX_L F₂ hO (spliced_none (Calls.call_len_list hlO (by omega) (wpAny_Constant_int (P.sub_int ?_)))))))))
  rw [hsz]
  dsimp only
  refine P.mul_int ?_ (mul16 (by omega) (by omega))
  generalize (os.length : Int) * ((os.length : Int) - 1) = Pd at hsum ⊢
  dsimp only
  refine wpAny_Constant_int (floordiv_int (by decide) (P.eq_int ?_) (Or.inl (PyProof.noPylong_small (by omega))))
  have e : Pd.fdiv 2 = (D.map (·.2)).sum := by rw [Int.fdiv_eq_ediv_of_nonneg _ (by decide)]; omega
  rw [e, beq_self_eq_true]
  exact k _ _ F₂.keep
end Mine

-- part S4
namespace Mine

/-- the law with no program in sight -/
def PlainLaw : Prop := ∀ os : List Nat, os.Nodup → (∀ o ∈ os, o < 256) → os.length ≤ 10 →
  (1 < (linesD os os.length).length → 3 * os.length ≤ 7 * ((linesD os os.length).map (·.2)).count 1) ∧ GoodText os (linesD os os.length)

theorem octs_lt (ns : List Int) : ∀ k, ∀ o ∈ octs ns k, o < 256
  | 0, o, h => nomatch h
  | k + 1, o, h => by
    rw [octs_succ] at h
    unfold addOct at h
    split at h
    · exact octs_lt ns k o h
    · rcases List.mem_append.mp h with h | h
      · exact octs_lt ns k o h
      · rw [List.mem_singleton.mp h]
        unfold octOf
        have h1 : 0 ≤ ((numsOf ns).getD k 0 + 37 * (k : Int)).fmod 256 := Int.fmod_nonneg_of_pos _ (by decide)
        have h2 : ((numsOf ns).getD k 0 + 37 * (k : Int)).fmod 256 < 256 := Int.fmod_lt_of_pos _ (by decide)
        omega
theorem octs_nodup (ns : List Int) : ∀ k, (octs ns k).Nodup
  | 0 => List.nodup_nil
  | k + 1 => by
    rw [octs_succ]
    unfold addOct
    split
    · exact octs_nodup ns k
    · next h => exact List.nodup_append.mpr ⟨octs_nodup ns k, by simp, fun a ha b hb e => h (by rw [List.mem_singleton.mp hb] at e; exact e ▸ ha)⟩

theorem law_spec {w : World} {A : Around} {s : Shared} {E : Value → Shared → Prop} {p : Program} {loose : List Str} {mg mb : Str → Option Value} {a : Addr} {vs : List Value} {ns : List Int}
    (PL : PlainLaw) (X : (hd.heap_39 w.params).In s.heap) (T : TopRead p loose mg mb s.heap) (hA : A.depth + 2 < recursionLimit) (hh : A.handled = none) (hu : A.units + 16 < cLine)
    (hl : s.heap.IsList a vs.toArray) (hi : IntsAre vs ns) (hlen : ns.length ≤ 63) :
    wpAny (model PG w) A (call (.ref 81) [.ref a]) (fun v s' => v = .bool true ∧ Keeps s s') E s := by
  refine law_enter X T (by omega) fun L h₁ tk c o F N hc hcL => ?_
  subst hcL
  have hE : PassesOwn (model PG w) (A.deeper (lawEnv L)) (lawEnv L) (fun _ _ => False) := by passes_own
  have hh' : (A.deeper (lawEnv L)).handled = none := hh
  have hd' : (A.deeper (lawEnv L)).depth + 1 < recursionLimit := by show A.depth + 1 + 1 < recursionLimit; omega
  have hu' : (A.deeper (lawEnv L)).units + 1 < cLine := by
    show A.units + 3 + 1 < cLine
    omega
  generalize A.deeper (lawEnv L) = B at hE hh' hd' hu' ⊢
  have hn10 := numsOf_len ns
  refine lawA X T hh' hE F N (if_pos rfl) hl hi hlen fun h₂ tk₂ m₂ aO its n F₂ N₂ hO₂ hI₂ => ?_
  have hol := octs_len ns (numsOf ns).length
  have hnd := octs_nodup ns (numsOf ns).length
  have hlt := octs_lt ns (numsOf ns).length
  generalize octs ns (numsOf ns).length = os at hI₂ hol hnd hlt
  dsimp only
  refine lawB1 X T hh' hd' F₂ N₂ hO₂ (List.mem_cons_self ..) hI₂ hlt (by omega) fun h₃ tk₃ aW itsW nW F₃ N₃ hs₃ hi₃ => ?_
  dsimp only
  refine lawB2 hh' F₃ N₃ (if_pos rfl) (List.mem_cons_of_mem _ (List.mem_cons_self ..)) hI₂ hlt (by omega) (List.mem_cons_self ..) hs₃ hi₃ fun h₄ tk₄ aP news F₄ N₄ hsub C => ?_
  dsimp only
  have hO₄ : (fun z => if z = Str.ofString "places" then some (Value.ref aP) else if z = Str.ofString "words" then some (Value.ref aW) else m₂ z) (Str.ofString "octets") = some (.ref aO) := (if_neg (by decide)).trans ((if_neg (by decide)).trans hO₂)
  refine lawB3 hh' hu' F₄ N₄ C hO₄ (if_pos rfl) fun h₅ tk₅ F₅ N₅ => ?_
  dsimp only
  refine lawC X T hh' hd' (by omega) hE F₅ N₅ C hO₄ ((if_neg (by decide)).trans (if_pos rfl)) (if_pos rfl) fun h₆ tk₆ m₆ d od F₆ N₆ hdS hod hcd hl₆ hO₆ => ?_
  dsimp only
  obtain ⟨P1, P2⟩ := PL os hnd hlt (by omega)
  have hDl := linesD_len os os.length
  have hcnt := lines_counts os os.length
  have htl := linesT_len os os.length
  have hsq : os.length * os.length ≤ 10 * 10 := Nat.mul_le_mul (by omega) (by omega)
  refine lawD X T hh' F₆ N₆ C hdS hod (by omega) hl₆ hO₆ P1 fun h₇ tk₇ F₇ N₇ => ?_
  dsimp only
  refine lawE X T hh' hd' (by omega) hE F₇ N₇ C hdS hod hcd (hsub _ (by simp)) hc hl₆ hO₆ P2 fun h₈ tk₈ m₈ cst F₈ N₈ C₈ hl₈ hO₈ => ?_
  dsimp only
  refine lawF X T hh' hd' F₈ N₈ C₈ hdS hod hl₈ hO₈ ?_ fun h₉ tk₉ k₉ => ?_
  · rw [hcnt.sum]
    have e : (os.length : Int) * ((os.length : Int) - 1) = ((os.length * os.length : Nat) : Int) - (os.length : Int) := by rw [Int.mul_sub, Int.mul_one]; push_cast; rfl
    rw [e]
    omega
  · exact ⟨rfl, h₉, tk₉, rfl, k₉⟩
end Mine

-- part M3
namespace Mine

def low (p : Nat) : Int := ((p % 16 : Nat) : Int)
def det (p q r : Nat) : Int := ((q : Int) - (p : Int)) * (low r - low p) - ((r : Int) - (p : Int)) * (low q - low p)

theorem colB_iff (p q r : Nat) : colB p q r = true ↔ det p q r = 0 := by
  unfold colB det low
  rw [beq_iff_eq]
  have hp : (p : Int) = 16 * ((p / 16 : Nat) : Int) + ((p % 16 : Nat) : Int) := by omega
  have hq : (q : Int) = 16 * ((q / 16 : Nat) : Int) + ((q % 16 : Nat) : Int) := by omega
  have hr : (r : Int) = 16 * ((r / 16 : Nat) : Int) + ((r % 16 : Nat) : Int) := by omega
  rw [hp, hq, hr]
  generalize ((p / 16 : Nat) : Int) = p1
  generalize ((q / 16 : Nat) : Int) = q1
  generalize ((r / 16 : Nat) : Int) = r1
  generalize ((p % 16 : Nat) : Int) = p2
  generalize ((q % 16 : Nat) : Int) = q2
  generalize ((r % 16 : Nat) : Int) = r2
  constructor <;> intro h <;> grind

theorem det_perm1 (p q r : Nat) : det p r q = - det p q r := by unfold det; grind
theorem det_perm2 (p q r : Nat) : det q p r = - det p q r := by unfold det; grind
theorem det_self1 (p q : Nat) : det p q p = 0 := by unfold det; grind
theorem det_self2 (p q : Nat) : det p q q = 0 := by unfold det; grind
theorem det_self3 (p q : Nat) : det p p q = 0 := by unfold det; grind
theorem mul_zero_of {a b : Int} (h : a * b = 0) (ha : a ≠ 0) : b = 0 := (Int.mul_eq_zero.mp h).resolve_left ha
/-- two points of the line p q, seen from p -/
theorem det_tr {p q r k : Nat} (hpq : p ≠ q) (h1 : det p q r = 0) (h2 : det p q k = 0) : det p r k = 0 := by
  have e : ((q : Int) - (p : Int)) * det p r k = ((r : Int) - (p : Int)) * det p q k - ((k : Int) - (p : Int)) * det p q r := by unfold det; grind
  rw [h1, h2] at e
  exact mul_zero_of (a := (q : Int) - (p : Int)) (by rw [e]; simp) (by omega)
/-- the line through two points of a line is that line -/
theorem det_line {p q r k o : Nat} (hpq : p ≠ q) (hrk : r ≠ k) (hr : det p q r = 0) (hk : det p q k = 0) : det r k o = 0 ↔ det p q o = 0 := by
  have key : ∀ {p q r k o : Nat}, p ≠ q → r ≠ k → det p q r = 0 → det p q k = 0 → det p q o = 0 → det r k o = 0 := by
    intro p q r k o hpq hrk hr hk ho
    by_cases e : p = r
    · subst e
      exact det_tr hpq hk ho
    · have h1 := det_tr hpq hr hk
      have h2 := det_tr hpq hr ho
      have h3 : det r p k = 0 := by rw [det_perm2, h1]; rfl
      have h4 : det r p o = 0 := by rw [det_perm2, h2]; rfl
      exact det_tr (Ne.symm e) h3 h4
  refine ⟨fun h => ?_, key hpq hrk hr hk⟩
  have hp : det r k p = 0 := key hpq hrk hr hk (det_self1 p q)
  have hq : det r k q = 0 := key hpq hrk hr hk (det_self2 p q)
  exact key hrk hpq hp hq h

theorem lineOf_mem {os : List Nat} {p q o : Nat} : o ∈ lineOf os p q ↔ o ∈ os ∧ det p q o = 0 := by
  unfold lineOf
  rw [List.mem_filter, colB_iff]
theorem lineOf_same {os : List Nat} {p q r k : Nat} (hpq : p ≠ q) (hrk : r ≠ k) (hr : r ∈ lineOf os p q) (hk : k ∈ lineOf os p q) : lineOf os r k = lineOf os p q := by
  unfold lineOf
  apply List.filter_congr
  intro o _
  rw [Bool.eq_iff_iff, colB_iff, colB_iff]
  exact det_line hpq hrk (lineOf_mem.mp hr).2 (lineOf_mem.mp hk).2

theorem txt_inj : ∀ {as bs : List Nat}, (∀ c ∈ as, c < 256) → (∀ c ∈ bs, c < 256) → as.flatMap sig3 = bs.flatMap sig3 → as = bs
  | [], [], _, _, _ => rfl
  | [], b :: bs, _, _, h => by simp [sig3] at h
  | a :: as, [], _, _, h => by simp [sig3] at h
  | a :: as, b :: bs, ha, hb, h => by
    simp only [List.flatMap_cons, sig3, List.cons_append, List.nil_append] at h
    injection h with _ h
    injection h with h1 h
    injection h with h2 h
    have l1 := ha a (List.mem_cons_self ..)
    have l2 := hb b (List.mem_cons_self ..)
    have e1 := hexC_inj (by omega) (by omega) h1
    have e2 := hexC_inj (by omega) (by omega) h2
    have : a = b := by omega
    rw [this, txt_inj (fun c hc => ha c (List.mem_cons_of_mem _ hc)) (fun c hc => hb c (List.mem_cons_of_mem _ hc)) h]
theorem txt_eq {as bs : List Nat} (ha : ∀ c ∈ as, c < 256) (hb : ∀ c ∈ bs, c < 256) (h : txt as = txt bs) : as = bs := by
  refine txt_inj ha hb ?_
  have := congrArg (fun s : Str => s.cps.toList) h
  simpa [txt] using this
end Mine

-- part M4
namespace Mine

noncomputable def cntB (P : Nat → Bool) : Nat → Nat
  | 0 => 0
  | n + 1 => cntB P n + (if P n then 1 else 0)
theorem cntB_filter (P : Nat → Bool) : ∀ n, cntB P n = ((List.range n).filter P).length
  | 0 => rfl
  | n + 1 => by
    rw [List.range_succ, List.filter_append, List.length_append, ← cntB_filter P n]
    show cntB P n + _ = _
    cases h : P n <;> simp [h]
theorem range_getD (os : List Nat) : (List.range os.length).map (fun i => os.getD i 0) = os := by
  apply List.ext_getElem
  · simp
  · intro i h1 h2
    simp [List.getD_eq_getElem?_getD, List.getElem?_eq_getElem h2]
theorem cntB_list (os : List Nat) (f : Nat → Bool) : cntB (fun i => f (os.getD i 0)) os.length = (os.filter f).length := by
  rw [cntB_filter]
  conv => rhs; rw [← range_getD os]
  rw [List.filter_map, List.length_map]
  rfl

theorem own_count {os : List Nat} {k : Nat} {x : Str} {P : Nat → Bool} : ∀ {j : Nat}, (∀ i, i < j → (textOf os i k = x ↔ P i = true ∧ P k = true)) → (ownT os k j).count x = if P k then cntB P j else 0
  | 0, _ => by simp [ownT, cntB]
  | j + 1, h => by
    have ih := own_count (j := j) fun i hi => h i (by omega)
    have hj := h j (by omega)
    rw [ownT, List.count_append, ih]
    show _ = if P k = true then cntB P j + (if P j = true then 1 else 0) else 0
    by_cases e : textOf os j k = x
    · obtain ⟨a, b⟩ := hj.mp e
      simp [e, a, b]
    · rw [List.count_eq_zero.mpr (by simpa using Ne.symm e)]
      cases hk : P k
      · simp
      · cases hj' : P j
        · simp
        · exact absurd (hj.mpr ⟨hj', hk⟩) e
theorem lines_count {os : List Nat} {x : Str} {P : Nat → Bool} : ∀ {n : Nat}, (∀ i k, i < k → k < n → (textOf os i k = x ↔ P i = true ∧ P k = true)) → 2 * (linesT os n).count x + cntB P n = cntB P n * cntB P n
  | 0, _ => rfl
  | n + 1, h => by
    have ih := lines_count (n := n) fun i k hi hk => h i k hi (by omega)
    rw [linesT, List.count_append, own_count fun i hi => h i n hi (by omega)]
    show 2 * (_ + _) + (cntB P n + _) = (cntB P n + _) * (cntB P n + _)
    cases hn : P n
    · simpa using ih
    · simp only [if_true]
      generalize cntB P n = c at ih ⊢
      generalize (linesT os n).count x = t at ih ⊢
      have : (c + 1) * (c + 1) = c * c + 2 * c + 1 := by rw [Nat.add_mul, Nat.mul_add]; omega
      omega

theorem own_mem {os : List Nat} {k : Nat} {x : Str} : ∀ {j : Nat}, x ∈ ownT os k j → ∃ i, i < j ∧ x = textOf os i k
  | j + 1, h => by
    rw [ownT] at h
    rcases List.mem_append.mp h with h | h
    · obtain ⟨i, hi, e⟩ := own_mem h
      exact ⟨i, by omega, e⟩
    · exact ⟨j, by omega, List.mem_singleton.mp h⟩
theorem lines_mem {os : List Nat} {x : Str} : ∀ {n : Nat}, x ∈ linesT os n → ∃ i k, i < k ∧ k < n ∧ x = textOf os i k
  | n + 1, h => by
    rw [linesT] at h
    rcases List.mem_append.mp h with h | h
    · obtain ⟨i, k, a, b, e⟩ := lines_mem h
      exact ⟨i, k, a, by omega, e⟩
    · obtain ⟨i, hi, e⟩ := own_mem h
      exact ⟨i, n, hi, by omega, e⟩
theorem mem_own {os : List Nat} {k i : Nat} : ∀ {j : Nat}, i < j → textOf os i k ∈ ownT os k j
  | j + 1, h => by
    rw [ownT]
    by_cases e : i = j
    · subst e; simp
    · exact List.mem_append_left _ (mem_own (by omega))
theorem mem_lines {os : List Nat} {i k : Nat} : ∀ {n : Nat}, i < k → k < n → textOf os i k ∈ linesT os n
  | n + 1, h, h' => by
    rw [linesT]
    by_cases e : k = n
    · subst e; exact List.mem_append_right _ (mem_own h)
    · exact List.mem_append_left _ (mem_lines h (by omega))

theorem getD_mem {os : List Nat} {i : Nat} (h : i < os.length) : os.getD i 0 ∈ os := by
  rw [List.getD_eq_getElem?_getD, List.getElem?_eq_getElem h]; exact List.getElem_mem h
theorem getD_ne {os : List Nat} (hn : os.Nodup) {i k : Nat} (hik : i < k) (hk : k < os.length) : os.getD i 0 ≠ os.getD k 0 := by
  rw [List.getD_eq_getElem?_getD, List.getD_eq_getElem?_getD, List.getElem?_eq_getElem (show i < os.length by omega), List.getElem?_eq_getElem hk]
  exact fun e => absurd ((List.getElem_inj hn).mp e) (by omega)

theorem line_lt {os : List Nat} (hlt : ∀ o ∈ os, o < 256) (p q : Nat) : ∀ c ∈ lineOf os p q, c < 256 := fun c hc => hlt c (lineOf_mem.mp hc).1
theorem line_filter (os : List Nat) (p q : Nat) : os.filter (fun x => decide (x ∈ lineOf os p q)) = lineOf os p q := by
  conv => rhs; unfold lineOf
  apply List.filter_congr
  intro o ho
  rw [Bool.eq_iff_iff, decide_eq_true_eq, lineOf_mem, colB_iff]
  exact ⟨fun h => h.2, fun h => ⟨ho, h⟩⟩

/-- how often the text of a line is counted -/
theorem line_count {os : List Nat} (hn : os.Nodup) (hlt : ∀ o ∈ os, o < 256) {p q : Nat} (hpq : p ≠ q) :
    2 * (linesT os os.length).count (txt (lineOf os p q)) + (lineOf os p q).length = (lineOf os p q).length * (lineOf os p q).length := by
  have e : cntB (fun i => decide (os.getD i 0 ∈ lineOf os p q)) os.length = (lineOf os p q).length := by
    rw [cntB_list os (fun x => decide (x ∈ lineOf os p q)), line_filter]
  rw [← e]
  refine lines_count fun i k hi hk => ?_
  have hne := getD_ne hn hi hk
  have hmi := getD_mem (show i < os.length by omega)
  have hmk := getD_mem hk
  simp only [decide_eq_true_eq]
  constructor
  · intro h
    have h := txt_eq (line_lt hlt _ _) (line_lt hlt _ _) h
    rw [← h]
    exact ⟨lineOf_mem.mpr ⟨hmi, det_self1 _ _⟩, lineOf_mem.mpr ⟨hmk, det_self2 _ _⟩⟩
  · rintro ⟨h1, h2⟩
    show txt _ = txt _
    rw [lineOf_same hpq hne h1 h2]

theorem goodText {os : List Nat} (hn : os.Nodup) (hlt : ∀ o ∈ os, o < 256) : GoodText os (linesD os os.length) := by
  intro k z hkz
  have C := lines_counts os os.length
  obtain ⟨hm, hz⟩ := C.keys hkz
  simp only at hm hz
  refine ⟨by rw [C.val, if_pos hm, hz], ?_⟩
  obtain ⟨i, j, hij, hj, rfl⟩ := lines_mem hm
  have hne := getD_ne hn hij hj
  refine ⟨lineOf os (os.getD i 0) (os.getD j 0), rfl, ?_, line_filter os _ _, ?_⟩
  · intro e
    have := lineOf_mem.mpr ⟨getD_mem hj, det_self2 (os.getD i 0) (os.getD j 0)⟩
    rw [e] at this; cases this
  · have := line_count hn hlt hne
    rw [hz]
    show 2 * (((linesT os os.length).count (txt (lineOf os (os.getD i 0) (os.getD j 0))) : Nat) : Int) = _
    generalize (linesT os os.length).count (txt (lineOf os (os.getD i 0) (os.getD j 0))) = t at this ⊢
    generalize (lineOf os (os.getD i 0) (os.getD j 0)).length = l at this ⊢
    have e : (l : Int) * ((l : Int) - 1) = ((l * l : Nat) : Int) - (l : Int) := by rw [Int.mul_sub, Int.mul_one]; push_cast; rfl
    rw [e]; omega
end Mine

-- part M6
namespace Mine

theorem exCommon : ∀ n : Nat, ∃ D : Int, 0 < D ∧ ∀ d : Int, 1 ≤ d → d ≤ (n : Int) → d ∣ D
  | 0 => ⟨1, by decide, fun d h1 h2 => by omega⟩
  | n + 1 => by
    obtain ⟨D, hD, hd⟩ := exCommon n
    refine ⟨D * ((n : Int) + 1), Int.mul_pos hD (by omega), fun d h1 h2 => ?_⟩
    by_cases e : d = (n : Int) + 1
    · subst e; exact Int.dvd_mul_left _ _
    · exact Int.dvd_trans (hd d h1 (by omega)) (Int.dvd_mul_right _ _)

theorem pos_of_mul {v z : Int} (hv : 0 < v) (h : 0 < v * z) : 0 < z := by
  rcases Int.lt_or_le 0 z with c | c
  · exact c
  · have := Int.mul_nonpos_of_nonneg_of_nonpos (Int.le_of_lt hv) c
    omega
theorem mediant {u v X Y m : Int} (hu : 0 < u) (hv : 0 < v) (h : (u + v) * m = u * X + v * Y) : (X < m ∧ m < Y) ∨ (X = m ∧ m = Y) ∨ (m < X ∧ Y < m) := by
  have e : u * (m - X) = v * (Y - m) := by grind
  rcases Int.lt_trichotomy X m with c | c | c
  · left
    refine ⟨c, ?_⟩
    have h1 : 0 < u * (m - X) := Int.mul_pos hu (by omega)
    rw [e] at h1
    have := pos_of_mul hv h1
    omega
  · right; left
    refine ⟨c, ?_⟩
    subst c
    have : v * (Y - X) = 0 := by rw [← e]; simp
    have := mul_zero_of this (by omega)
    omega
  · right; right
    refine ⟨c, ?_⟩
    have h1 : 0 < u * (X - m) := Int.mul_pos hu (by omega)
    have e' : u * (X - m) = v * (m - Y) := by grind
    rw [e'] at h1
    have := pos_of_mul hv h1
    omega

/-- the crossings of the dual lines of a list of octets -/
def xOf (D : Int) (ss : List Nat) (i j : Nat) : Int := (low (ss.getD i 0) - low (ss.getD j 0)) * (D / ((ss.getD j 0 : Int) - (ss.getD i 0 : Int)))

theorem sorted_lt {ss : List Nat} (hs : ss.Pairwise (· < ·)) {i j : Nat} (hij : i < j) (hj : j < ss.length) : ss.getD i 0 < ss.getD j 0 := by
  rw [List.getD_eq_getElem?_getD, List.getD_eq_getElem?_getD, List.getElem?_eq_getElem (show i < ss.length by omega), List.getElem?_eq_getElem hj]
  exact List.pairwise_iff_getElem.mp hs i j (by omega) hj hij

theorem cross_of {D : Int} {ss : List Nat} (hs : ss.Pairwise (· < ·)) (hlt : ∀ o ∈ ss, o < 256) (hD : ∀ d : Int, 1 ≤ d → d ≤ 255 → d ∣ D) : Cross ss.length (xOf D ss) where
  sym := fun i j => by
    unfold xOf
    have e : ((ss.getD i 0 : Int) - (ss.getD j 0 : Int)) = -((ss.getD j 0 : Int) - (ss.getD i 0 : Int)) := by omega
    rw [e, Int.ediv_neg]
    grind
  bet := fun i j k hij hjk hk => by
    have h1 := sorted_lt hs hij (by omega)
    have h2 := sorted_lt hs hjk hk
    have l1 := hlt _ (getD_mem (show i < ss.length by omega))
    have l3 := hlt _ (getD_mem hk)
    unfold xOf
    generalize ss.getD i 0 = p at *
    generalize ss.getD j 0 = q at *
    generalize ss.getD k 0 = r at *
    obtain ⟨U, hU⟩ := hD ((q : Int) - p) (by omega) (by omega)
    obtain ⟨V, hV⟩ := hD ((r : Int) - q) (by omega) (by omega)
    obtain ⟨W, hW⟩ := hD ((r : Int) - p) (by omega) (by omega)
    have eU : D / ((q : Int) - p) = U := by rw [hU]; exact Int.mul_ediv_cancel_left _ (by omega)
    have eV : D / ((r : Int) - q) = V := by rw [hV]; exact Int.mul_ediv_cancel_left _ (by omega)
    have eW : D / ((r : Int) - p) = W := by rw [hW]; exact Int.mul_ediv_cancel_left _ (by omega)
    rw [eU, eV, eW]
    refine mediant (u := (q : Int) - p) (v := (r : Int) - q) (by omega) (by omega) ?_
    generalize low p = a
    generalize low q = b
    generalize low r = c
    have e : (((q : Int) - p) + ((r : Int) - q)) * ((a - c) * W) = (a - c) * D := by rw [hW]; grind
    have e1 : ((q : Int) - p) * ((a - b) * U) = (a - b) * D := by rw [hU]; grind
    have e2 : ((r : Int) - q) * ((b - c) * V) = (b - c) * D := by rw [hV]; grind
    rw [e, e1, e2]
    grind

theorem x_eq_iff {D : Int} {ss : List Nat} (hs : ss.Pairwise (· < ·)) (hlt : ∀ o ∈ ss, o < 256) (hD0 : 0 < D) (hD : ∀ d : Int, 1 ≤ d → d ≤ 255 → d ∣ D) {i j k : Nat} (hi : i < ss.length) (hj : j < ss.length) (hk : k < ss.length) (hij : i ≠ j) (hik : i ≠ k) :
    xOf D ss i j = xOf D ss i k ↔ det (ss.getD i 0) (ss.getD j 0) (ss.getD k 0) = 0 := by
  have hd : ∀ d : Int, d ≠ 0 → -255 ≤ d → d ≤ 255 → ∃ U, D = d * U ∧ D / d = U := fun d h0 h1 h2 => by
    have : d ∣ D := by
      rcases Int.lt_or_le 0 d with c | c
      · exact hD d (by omega) h2
      · exact Int.neg_dvd.mp (hD (-d) (by omega) (by omega))
    obtain ⟨U, hU⟩ := this
    exact ⟨U, hU, by rw [hU]; exact Int.mul_ediv_cancel_left _ h0⟩
  have ne : ∀ {i j : Nat}, i < ss.length → j < ss.length → i ≠ j → ss.getD i 0 ≠ ss.getD j 0 := fun {i j} hi hj h => by
    rcases Nat.lt_or_ge i j with c | c
    · exact Nat.ne_of_lt (sorted_lt hs c hj)
    · exact Nat.ne_of_gt (sorted_lt hs (by omega) hi)
  have n1 := ne hi hj hij
  have n2 := ne hi hk hik
  have l1 := hlt _ (getD_mem hi)
  have l2 := hlt _ (getD_mem hj)
  have l3 := hlt _ (getD_mem hk)
  unfold xOf det
  generalize ss.getD i 0 = p at *
  generalize ss.getD j 0 = q at *
  generalize ss.getD k 0 = r at *
  obtain ⟨U, hU, eU⟩ := hd ((q : Int) - p) (by omega) (by omega) (by omega)
  obtain ⟨W, hW, eW⟩ := hd ((r : Int) - p) (by omega) (by omega) (by omega)
  rw [eU, eW]
  generalize low p = a
  generalize low q = b
  generalize low r = c
  have hu : (q : Int) - p ≠ 0 := by omega
  have hw : (r : Int) - p ≠ 0 := by omega
  generalize (q : Int) - p = u at *
  generalize (r : Int) - p = w at *
  constructor
  · intro h
    have : D * (u * (c - a) - w * (b - a)) = 0 := by
      have e1 : D * (u * (c - a)) = u * w * ((c - a) * W) := by rw [hW]; grind
      have e2 : D * (w * (b - a)) = u * w * ((b - a) * U) := by rw [hU]; grind
      grind
    exact mul_zero_of this (by omega)
  · intro h
    have : (u * w) * ((a - b) * U - (a - c) * W) = 0 := by
      have e1 : D * (u * (c - a)) = u * w * ((c - a) * W) := by rw [hW]; grind
      have e2 : D * (w * (b - a)) = u * w * ((b - a) * U) := by rw [hU]; grind
      have e3 : D * (u * (c - a) - w * (b - a)) = 0 := by rw [h]; simp
      grind
    have := mul_zero_of this (Int.mul_ne_zero hu hw)
    omega
end Mine

-- part M7
namespace Mine
open Classical

theorem look_mem {D : List (Str × Int)} {k : Str} {z : Int} (h : look D k = some z) : (k, z) ∈ D := by
  induction D with
  | nil => cases h
  | cons p D ih =>
    obtain ⟨a, b⟩ := p
    rw [look_cons] at h
    by_cases e : a = k
    · rw [if_pos e] at h; cases h; subst e; exact List.mem_cons_self ..
    · rw [if_neg e] at h; exact List.mem_cons_of_mem _ (ih h)

/-- the data of the plain law -/
structure Pts (os : List Nat) (ss : List Nat) (D : Int) : Prop where
  nd : os.Nodup
  lt : ∀ o ∈ os, o < 256
  srt : ss.Pairwise (· < ·)
  perm : ss.Perm os
  pos : 0 < D
  dvd : ∀ d : Int, 1 ≤ d → d ≤ 255 → d ∣ D

theorem exPts {os : List Nat} (hn : os.Nodup) (hlt : ∀ o ∈ os, o < 256) : ∃ ss D, Pts os ss D := by
  obtain ⟨D, h1, h2⟩ := exCommon 255
  refine ⟨os.mergeSort (fun a b => decide (a ≤ b)), D, hn, hlt, ?_, List.mergeSort_perm _ _, h1, h2⟩
  have hs : (os.mergeSort (fun a b => decide (a ≤ b))).Pairwise (fun a b => decide (a ≤ b) = true) :=
    List.pairwise_mergeSort (fun a b c h1 h2 => by simp only [decide_eq_true_eq] at *; omega) (fun a b => by simp only [Bool.or_eq_true, decide_eq_true_eq]; omega) os
  have hd : (os.mergeSort (fun a b => decide (a ≤ b))).Nodup := (List.mergeSort_perm _ _).nodup_iff.mpr hn
  refine (hs.and hd).imp fun {a b} h => ?_
  have := of_decide_eq_true h.1
  have := h.2
  omega

variable {os ss : List Nat} {D : Int}
theorem Pts.cross (P : Pts os ss D) : Cross ss.length (xOf D ss) := cross_of P.srt (fun o h => P.lt o (P.perm.mem_iff.mp h)) P.dvd
theorem Pts.xeq (P : Pts os ss D) {i j k : Nat} (hi : i < ss.length) (hj : j < ss.length) (hk : k < ss.length) (hij : i ≠ j) (hik : i ≠ k) :
    xOf D ss i j = xOf D ss i k ↔ det (ss.getD i 0) (ss.getD j 0) (ss.getD k 0) = 0 := x_eq_iff P.srt (fun o h => P.lt o (P.perm.mem_iff.mp h)) P.pos P.dvd hi hj hk hij hik
theorem Pts.len (P : Pts os ss D) : ss.length = os.length := P.perm.length_eq
theorem Pts.mem (P : Pts os ss D) {i : Nat} (hi : i < ss.length) : ss.getD i 0 ∈ os := P.perm.mem_iff.mp (getD_mem hi)
theorem Pts.idx (P : Pts os ss D) {o : Nat} (h : o ∈ os) : ∃ i, i < ss.length ∧ ss.getD i 0 = o := by
  obtain ⟨i, hi, e⟩ := List.mem_iff_getElem.mp (P.perm.mem_iff.mpr h)
  exact ⟨i, hi, by rw [List.getD_eq_getElem?_getD, List.getElem?_eq_getElem hi]; exact e⟩
theorem Pts.ne (P : Pts os ss D) {i j : Nat} (hij : i < j) (hj : j < ss.length) : ss.getD i 0 < ss.getD j 0 := sorted_lt P.srt hij hj

/-- the pair has no third point -/
def Ordy (os : List Nat) (p q : Nat) : Prop := p ∈ os ∧ q ∈ os ∧ p ≠ q ∧ ∀ r ∈ os, det p q r = 0 → r = p ∨ r = q

theorem Pts.ordy (P : Pts os ss D) {i j : Nat} (h : (i, j) ∈ ordL ss.length (xOf D ss)) : i < j ∧ j < ss.length ∧ Ordy os (ss.getD i 0) (ss.getD j 0) := by
  obtain ⟨h1, h2⟩ := List.mem_filter.mp h
  obtain ⟨hf, hl⟩ := of_decide_eq_true h2
  obtain ⟨hij, hj⟩ := prs_mem.mp h1
  simp only at hij hj hf hl
  refine ⟨hij, hj, P.mem (by omega), P.mem hj, Nat.ne_of_lt (P.ne hij hj), fun r hr hd => ?_⟩
  obtain ⟨k, hk, rfl⟩ := P.idx hr
  by_cases e1 : k = i
  · subst e1; exact Or.inl rfl
  by_cases e2 : k = j
  · subst e2; exact Or.inr rfl
  exfalso
  have hx := (P.xeq (i := i) (j := j) (k := k) (by omega) hj hk (by omega) (Ne.symm e1)).mpr hd
  have C := P.cross
  rcases Nat.lt_or_ge k i with c | c
  · have := hf.2 k c
    have := C.sym k i
    omega
  · rcases Nat.lt_or_ge k j with c' | c'
    · have := hf.1.2.2 k (by omega) c'
      omega
    · have := hl.2 k (by omega) hk
      rcases C.bet i j k hij (by omega) hk with h | h | h <;> omega

theorem ordy_line {os : List Nat} (hn : os.Nodup) {p q : Nat} (h : Ordy os p q) : (lineOf os p q).length = 2 ∧ ∀ r, r ∈ lineOf os p q ↔ r = p ∨ r = q := by
  obtain ⟨hp, hq, hne, ho⟩ := h
  have hm : ∀ r, r ∈ lineOf os p q ↔ r = p ∨ r = q := fun r => by
    rw [lineOf_mem]
    constructor
    · rintro ⟨a, b⟩; exact ho r a b
    · rintro (rfl | rfl)
      · exact ⟨hp, det_self1 _ _⟩
      · exact ⟨hq, det_self2 _ _⟩
  refine ⟨?_, hm⟩
  have h1 : (lineOf os p q).length ≤ [p, q].length := nodup_len (hn.filter _) fun r hr => by
    rcases (hm r).mp hr with rfl | rfl <;> simp
  have h2 : [p, q].length ≤ (lineOf os p q).length := nodup_len (by simp [hne]) fun r hr => by
    rw [hm]; simpa using hr
  simp only [List.length_cons, List.length_nil] at h1 h2
  omega

noncomputable def oneKeys (os : List Nat) : List Str := ((linesD os os.length).filter fun p => decide (p.2 = 1)).map (·.1)
theorem oneKeys_len (os : List Nat) : ((linesD os os.length).map (·.2)).count 1 = (oneKeys os).length := by
  unfold oneKeys
  rw [List.length_map]
  generalize linesD os os.length = L
  induction L with
  | nil => rfl
  | cons p L ih =>
    rw [List.map_cons, List.count_cons, ih, List.filter_cons]
    by_cases h : p.2 = 1
    · simp [h]
    · simp [h]

theorem ordy_key {os : List Nat} (hn : os.Nodup) (hlt : ∀ o ∈ os, o < 256) {p q : Nat} (h : Ordy os p q) : txt (lineOf os p q) ∈ oneKeys os := by
  have hl := (ordy_line hn h).1
  have hc := line_count hn hlt h.2.2.1
  rw [hl] at hc
  have hc : (linesT os os.length).count (txt (lineOf os p q)) = 1 := by omega
  have C := lines_counts os os.length
  have hv := C.val (txt (lineOf os p q))
  rw [if_pos (List.count_pos_iff.mp (by omega)), hc] at hv
  exact List.mem_map.mpr ⟨_, List.mem_filter.mpr ⟨look_mem hv, by simp⟩, rfl⟩

theorem Pts.ones (P : Pts os ss D) : (ordL ss.length (xOf D ss)).length ≤ (oneKeys os).length := by
  have := inj_count (H := fun (a : Nat × Nat) (b : Str) => b = txt (lineOf os (ss.getD a.1 0) (ss.getD a.2 0))) (l := ordL ss.length (xOf D ss)) (m := oneKeys os) (u := [])
    ((prs_nodup _).filter _) List.nodup_nil (fun a ha => ⟨_, ordy_key P.nd P.lt (P.ordy (i := a.1) (j := a.2) ha).2.2, rfl⟩)
    (fun a ha a' ha' b h h' => by
      obtain ⟨h1, h2, h3⟩ := P.ordy (i := a.1) (j := a.2) ha
      obtain ⟨h1', h2', h3'⟩ := P.ordy (i := a'.1) (j := a'.2) ha'
      have e := txt_eq (line_lt P.lt _ _) (line_lt P.lt _ _) (h.symm.trans h')
      have m1 := (ordy_line P.nd h3).2
      have m2 := (ordy_line P.nd h3').2
      rw [e] at m1
      have k := P.ne h1 h2
      have k' := P.ne h1' h2'
      have a1 := (m1 _).mp ((m2 _).mpr (Or.inl rfl))
      have a2 := (m1 _).mp ((m2 _).mpr (Or.inr rfl))
      have inj : ∀ {i j : Nat}, i < ss.length → j < ss.length → ss.getD i 0 = ss.getD j 0 → i = j := fun {i j} hi hj e => by
        rcases Nat.lt_trichotomy i j with c | c | c
        · have := P.ne c hj; omega
        · exact c
        · have := P.ne c hi; omega
      have b1 : ss.getD a.1 0 = ss.getD a'.1 0 := by omega
      have b2 : ss.getD a.2 0 = ss.getD a'.2 0 := by omega
      exact Prod.ext (inj (by omega) (by omega) b1) (inj h2 h2' b2))
    (fun _ h => nomatch h) (fun _ h => nomatch h)
  simpa using this
end Mine

-- part M8
namespace Mine
open Classical

variable {os ss : List Nat} {D : Int}

theorem all_same_len {D : List (Str × Int)} {t : Str} (hn : (D.map (·.1)).Nodup) (h : ∀ p ∈ D, p.1 = t) : D.length ≤ 1 := by
  have := nodup_len (l := D.map (·.1)) (m := [t]) hn fun a ha => by
    obtain ⟨p, hp, rfl⟩ := List.mem_map.mp ha
    rw [h p hp]; simp
  simpa using this

theorem Pts.notOne (P : Pts os ss D) (h : 1 < (linesD os os.length).length) : NotOne ss.length (xOf D ss) := by
  intro q v hq
  by_cases c : ∃ k, k < ss.length ∧ k ≠ q ∧ xOf D ss q k ≠ v
  · exact c
  exfalso
  have hall : ∀ k, k < ss.length → k ≠ q → xOf D ss q k = v := fun k hk hkq => by
    by_cases e : xOf D ss q k = v
    · exact e
    · exact absurd ⟨k, hk, hkq, e⟩ c
  have hcol : ∀ a ∈ os, ∀ b ∈ os, a ≠ ss.getD q 0 → b ≠ ss.getD q 0 → det (ss.getD q 0) a b = 0 := fun a ha b hb hna hnb => by
    obtain ⟨i, hi, rfl⟩ := P.idx ha
    obtain ⟨j, hj, rfl⟩ := P.idx hb
    have h1 : i ≠ q := fun e => hna (by rw [e])
    have h2 : j ≠ q := fun e => hnb (by rw [e])
    exact (P.xeq hq hi hj (Ne.symm h1) (Ne.symm h2)).mp ((hall i hi h1).trans (hall j hj h2).symm)
  have hc := lines_counts os os.length
  generalize ss.getD q 0 = p0 at hcol
  by_cases hex : ∃ p1, p1 ∈ os ∧ p1 ≠ p0
  · obtain ⟨p1, hp1, hne⟩ := hex
    have hdet : ∀ r ∈ os, det p0 p1 r = 0 := fun r hr => by
      by_cases e : r = p0
      · subst e; exact det_self1 _ _
      · exact hcol p1 hp1 r hr hne e
    have : (linesD os os.length).length ≤ 1 := all_same_len (t := txt (lineOf os p0 p1)) hc.nd fun p hp => by
      obtain ⟨i, k, hik, hk, e⟩ := lines_mem (hc.keys hp).1
      rw [e]
      show txt _ = txt _
      rw [lineOf_same (Ne.symm hne) (getD_ne P.nd hik hk) (lineOf_mem.mpr ⟨getD_mem (by omega), hdet _ (getD_mem (by omega))⟩) (lineOf_mem.mpr ⟨getD_mem hk, hdet _ (getD_mem hk)⟩)]
    omega
  · have hlen : os.length ≤ 1 := by
      have := nodup_len (m := [p0]) P.nd fun a ha => by
        by_cases e : a = p0
        · rw [e]; simp
        · exact absurd ⟨a, ha, e⟩ hex
      simpa using this
    have := linesD_len os os.length
    have h1 : os.length * os.length ≤ 1 * 1 := Nat.mul_le_mul hlen hlen
    omega

/-- the places of a line in the order of the octets -/
def places (os ss : List Nat) (p q : Nat) : List Nat := (List.range ss.length).filter fun i => decide (ss.getD i 0 ∈ lineOf os p q)
theorem Pts.places_len (P : Pts os ss D) (p q : Nat) : (places os ss p q).length = (lineOf os p q).length := by
  unfold places
  rw [← cntB_filter, cntB_list ss (fun x => decide (x ∈ lineOf os p q))]
  rw [(P.perm.filter _).length_eq, line_filter]
theorem places_sorted (os ss : List Nat) (p q : Nat) : (places os ss p q).Pairwise (· < ·) := List.pairwise_lt_range.filter _
theorem places_mem {p q i : Nat} : i ∈ places os ss p q ↔ i < ss.length ∧ ss.getD i 0 ∈ lineOf os p q := by
  unfold places
  rw [List.mem_filter, List.mem_range, decide_eq_true_eq]

theorem Pts.line_x (P : Pts os ss D) {p q a b c : Nat} (hpq : p ≠ q) (ha : a ∈ places os ss p q) (hb : b ∈ places os ss p q) (hc : c ∈ places os ss p q) (hba : b ≠ a) (hbc : b ≠ c) : xOf D ss b a = xOf D ss b c := by
  obtain ⟨a1, a2⟩ := places_mem.mp ha
  obtain ⟨b1, b2⟩ := places_mem.mp hb
  obtain ⟨c1, c2⟩ := places_mem.mp hc
  refine (P.xeq b1 a1 c1 hba hbc).mpr ?_
  have hne : ss.getD b 0 ≠ ss.getD a 0 := by
    rcases Nat.lt_or_ge b a with c | c
    · exact Nat.ne_of_lt (P.ne c a1)
    · exact Nat.ne_of_gt (P.ne (by omega) b1)
  exact (det_line hpq hne (lineOf_mem.mp b2).2 (lineOf_mem.mp a2).2).mpr (lineOf_mem.mp c2).2

theorem Pts.four (P : Pts os ss D) {p q : Nat} (hpq : p ≠ q) (h : 4 ≤ (lineOf os p q).length) : 1 ≤ (intL ss.length (xOf D ss)).length := by
  rw [← P.places_len] at h
  have hs := places_sorted os ss p q
  have hm : ∀ i, i ∈ places os ss p q → i ∈ places os ss p q := fun _ h => h
  generalize hl : places os ss p q = l at h hs
  match l, h, hs with
  | a :: b :: c :: d :: r, _, hs =>
    have ma : a ∈ places os ss p q := by rw [hl]; simp
    have mb : b ∈ places os ss p q := by rw [hl]; simp
    have mc : c ∈ places os ss p q := by rw [hl]; simp
    have md : d ∈ places os ss p q := by rw [hl]; simp
    simp only [List.pairwise_cons] at hs
    have hab := hs.1 b (by simp)
    have hbc := hs.2.1 c (by simp)
    have hcd := hs.2.2.1 d (by simp)
    obtain ⟨v, hv⟩ := interior P.cross hab hbc hcd (places_mem.mp md).1 (by rw [P.cross.sym]; exact P.line_x hpq ma mb mc (by omega) (by omega)) (P.line_x hpq mc mb md (by omega) (by omega))
    exact List.length_pos_of_mem hv
theorem Pts.five (P : Pts os ss D) {p q : Nat} (hpq : p ≠ q) (h : 5 ≤ (lineOf os p q).length) : 2 ≤ (intL ss.length (xOf D ss)).length := by
  rw [← P.places_len] at h
  have hs := places_sorted os ss p q
  generalize hl : places os ss p q = l at h hs
  match l, h, hs with
  | a :: b :: c :: d :: e :: r, _, hs =>
    have ma : a ∈ places os ss p q := by rw [hl]; simp
    have mb : b ∈ places os ss p q := by rw [hl]; simp
    have mc : c ∈ places os ss p q := by rw [hl]; simp
    have md : d ∈ places os ss p q := by rw [hl]; simp
    have me : e ∈ places os ss p q := by rw [hl]; simp
    simp only [List.pairwise_cons] at hs
    have hab := hs.1 b (by simp)
    have hbc := hs.2.1 c (by simp)
    have hcd := hs.2.2.1 d (by simp)
    have hde := hs.2.2.2.1 e (by simp)
    obtain ⟨v, hv⟩ := interior P.cross hab hbc hcd (places_mem.mp md).1 (by rw [P.cross.sym]; exact P.line_x hpq ma mb mc (by omega) (by omega)) (P.line_x hpq mc mb md (by omega) (by omega))
    obtain ⟨u, hu⟩ := interior P.cross hbc hcd hde (places_mem.mp me).1 (by rw [P.cross.sym]; exact P.line_x hpq mb mc md (by omega) (by omega)) (P.line_x hpq md mc me (by omega) (by omega))
    exact nodup_len (l := [(b, v), (c, u)]) (by simp; omega) fun x hx => by
      simp only [List.mem_cons, List.not_mem_nil, or_false] at hx
      rcases hx with rfl | rfl
      · exact hv
      · exact hu

/-- the count of lines modulo three, where no line has five points -/
theorem mod_three {L : List (Str × Int)} (h : ∀ p ∈ L, p.2 = 1 ∨ p.2 = 3 ∨ p.2 = 6) : ∃ e : Int, (L.map (·.2)).sum = ((L.map (·.2)).count 1 : Int) + 3 * e := by
  induction L with
  | nil => exact ⟨0, rfl⟩
  | cons p L ih =>
    obtain ⟨e, he⟩ := ih fun q hq => h q (List.mem_cons_of_mem _ hq)
    rw [List.map_cons, List.sum_cons, List.count_cons, he]
    rcases h p (List.mem_cons_self ..) with q | q | q
    · exact ⟨e, by rw [q]; simp; omega⟩
    · exact ⟨e + 1, by rw [q]; simp; omega⟩
    · exact ⟨e + 2, by rw [q]; simp; omega⟩
end Mine

-- part N5
namespace Mine
open Classical

theorem det_base {a b p x y : Nat} (h : det a b p = 0) : ((x : Int) - p) * det a b y - ((y : Int) - p) * det a b x = ((b : Int) - a) * det p x y := by
  have e : ((x : Int) - p) * det a b y - ((y : Int) - p) * det a b x - ((x : Int) - y) * det a b p = ((b : Int) - a) * det p x y := by
    unfold det
    generalize low a = a'
    generalize low b = b'
    generalize low p = p'
    generalize low x = x'
    generalize low y = y'
    grind
  rw [h] at e
  omega
theorem det_use {a b p x y : Nat} (h : det a b p = 0) (h' : det p x y = 0) : ((y : Int) - p) * det a b x = ((x : Int) - p) * det a b y := by
  have := det_base (x := x) (y := y) h
  rw [h', Int.mul_zero] at this
  omega
theorem det_three {a b x y z : Nat} (h : det x y z = 0) : ((y : Int) - x) * (det a b z - det a b x) = ((z : Int) - x) * (det a b y - det a b x) := by
  have e : ((y : Int) - x) * (det a b z - det a b x) - ((z : Int) - x) * (det a b y - det a b x) = ((b : Int) - a) * det x y z := by
    unfold det
    generalize low a = a'
    generalize low b = b'
    generalize low x = x'
    generalize low y = y'
    generalize low z = z'
    grind
  rw [h, Int.mul_zero] at e
  omega

/-- three points of a line, all unlike -/
def Tri (os : List Nat) (p q r : Nat) : Prop := (p ∈ os ∧ q ∈ os ∧ r ∈ os) ∧ (p ≠ q ∧ p ≠ r ∧ q ≠ r) ∧ det p q r = 0

variable {os ss : List Nat} {D : Int}
theorem sys_of (hn : os.Nodup) (h3 : ∀ p q, p ≠ q → (lineOf os p q).length ≤ 3) : Sys os (Tri os) where
  nd := hn
  c1 := fun {p q r} ⟨⟨a, b, c⟩, ⟨d, e, f⟩, h⟩ => ⟨⟨b, a, c⟩, ⟨d.symm, f, e⟩, by rw [det_perm2, h]; rfl⟩
  c2 := fun {p q r} ⟨⟨a, b, c⟩, ⟨d, e, f⟩, h⟩ => ⟨⟨a, c, b⟩, ⟨e, d, f.symm⟩, by rw [det_perm1, h]; rfl⟩
  ne := fun h => h.2.1.1
  mem := fun h => h.1.1
  uq := fun {p q r s} h h' => by
    by_cases e : r = s
    · exact e
    · exfalso
      have hne := h.2.1.1
      have := nodup_len (l := [p, q, r, s]) (m := lineOf os p q) (by
        have a1 := h.2.1.2.1; have a2 := h.2.1.2.2; have a3 := h'.2.1.2.1; have a4 := h'.2.1.2.2
        simp [hne, a1, a2, a3, a4, e]) fun x hx => by
          simp only [List.mem_cons, List.not_mem_nil, or_false] at hx
          rcases hx with rfl | rfl | rfl | rfl
          · exact lineOf_mem.mpr ⟨h.1.1, det_self1 _ _⟩
          · exact lineOf_mem.mpr ⟨h.1.2.1, det_self2 _ _⟩
          · exact lineOf_mem.mpr ⟨h.1.2.2, h.2.2⟩
          · exact lineOf_mem.mpr ⟨h'.1.2.2, h'.2.2⟩
      have := h3 p q hne
      simp only [List.length_cons, List.length_nil] at *
      omega
theorem odd2_ordy {p q : Nat} (h : Odd2 os (Tri os) p q) : Ordy os p q := ⟨h.1, h.2.1, h.2.2.1, fun r hr hd => by
  by_cases e1 : r = p
  · exact Or.inl e1
  by_cases e2 : r = q
  · exact Or.inr e2
  exact absurd ⟨⟨h.1, h.2.1, hr⟩, ⟨h.2.2.1, Ne.symm e1, Ne.symm e2⟩, hd⟩ (h.2.2.2 r)⟩
theorem ordy_odd2 {p q : Nat} (h : Ordy os p q) : Odd2 os (Tri os) p q := ⟨h.1, h.2.1, h.2.2.1, fun r hr => by
  rcases h.2.2.2 r hr.1.2.2 hr.2.2 with e | e
  · exact hr.2.1.2.1 e.symm
  · exact hr.2.1.2.2 e.symm⟩
theorem keyed_of (hn : os.Nodup) (hlt : ∀ o ∈ os, o < 256) (hk : (oneKeys os).length ≤ 3) : Keyed os (Tri os) (fun p q => txt (lineOf os p q)) (oneKeys os) where
  mem := fun h => ordy_key hn hlt (odd2_ordy h)
  inj := fun {p q p' q'} h h' e => by
    have e := txt_eq (line_lt hlt _ _) (line_lt hlt _ _) e
    have m1 := (ordy_line hn (odd2_ordy h)).2
    have m2 := (ordy_line hn (odd2_ordy h')).2
    rw [e] at m1
    have a1 := (m1 _).mp ((m2 _).mpr (Or.inl rfl))
    have a2 := (m1 _).mp ((m2 _).mpr (Or.inr rfl))
    have n1 := h'.2.2.1
    omega
  len := hk

theorem fig_absurd (S : Sys os (Tri os)) {a b c p₁ p₂ p₃ q₁ q₂ q₃ : Nat} (F : Fig (Tri os) a b c p₁ p₂ p₃ q₁ q₂ q₃) (hne : q₂ ≠ a) : False := by
  obtain ⟨pp, qq, a1, a2, a3, b1, b2, b3, c1, c2, c3⟩ := F
  have hh : ∀ {x}, p₁ ≠ x → p₂ ≠ x → p₃ ≠ x → x ∈ os → det p₁ p₂ x ≠ 0 := fun {x} h1 h2 h3 hx e =>
    h3 (S.uq pp ⟨⟨S.mem pp, S.mem2 pp, hx⟩, ⟨S.ne pp, h1, h2⟩, e⟩)
  have ha := hh (S.ne a1) (S.ne a2) (S.ne a3) (S.mem2 a1)
  have hb := hh (S.ne b1) (S.ne b2) (S.ne b3) (S.mem2 b1)
  have hc := hh (S.ne c1) (S.ne c2) (S.ne c3) (S.mem2 c1)
  have hq := hh (S.ne2 c1) (S.ne2 a2) (S.ne2 b3) (S.mem3 c1)
  have d1 : det p₁ p₂ p₁ = 0 := det_self1 _ _
  have d2 : det p₁ p₂ p₂ = 0 := det_self2 _ _
  have d3 : det p₁ p₂ p₃ = 0 := pp.2.2
  have k := no_fig (p₁ := p₁) (p₂ := p₂) (p₃ := p₃) (a := a) (b := b) (c := c) (q₁ := q₁) (q₂ := q₂) (q₃ := q₃) (by have := S.ne3 pp; omega) ha hb hc hq
    (det_use d1 a1.2.2) (det_use d2 a2.2.2) (det_use d3 a3.2.2) (det_use d1 b1.2.2) (det_use d2 b2.2.2) (det_use d3 b3.2.2) (det_use d1 c1.2.2) (det_use d2 c2.2.2) (det_use d3 c3.2.2) (det_three qq.2.2)
  have e := det_base (x := q₁) (y := q₂) d1
  have e : ((p₂ : Int) - p₁) * det p₁ q₁ q₂ = 0 := by omega
  have hz := mul_zero_of e (by have := S.ne pp; omega)
  exact hne (S.uq ⟨⟨S.mem pp, S.mem3 a1, S.mem3 b1⟩, ⟨S.ne2 a1, S.ne2 b1, S.ne qq⟩, hz⟩ (S.c2 a1))
end Mine

-- part N6
namespace Mine
open Classical

variable {os ss : List Nat} {D : Int}
/-- the counts in the book, where no line has five points -/
theorem vals_of (hn : os.Nodup) (hlt : ∀ o ∈ os, o < 256) (h4 : ∀ p q, p ≠ q → (lineOf os p q).length ≤ 4) : ∀ p ∈ linesD os os.length, p.2 = 1 ∨ p.2 = 3 ∨ p.2 = 6 := by
  intro p hp
  have C := lines_counts os os.length
  obtain ⟨hm, hz⟩ := C.keys hp
  obtain ⟨i, j, hij, hj, e⟩ := lines_mem hm
  have hne := getD_ne hn hij hj
  have hc := line_count hn hlt hne
  have h4 := h4 _ _ hne
  have h2 : 2 ≤ (lineOf os (os.getD i 0) (os.getD j 0)).length := nodup_len (l := [os.getD i 0, os.getD j 0]) (by simpa using hne) fun x hx => by
    simp only [List.mem_cons, List.not_mem_nil, or_false] at hx
    rcases hx with rfl | rfl
    · exact lineOf_mem.mpr ⟨getD_mem (by omega), det_self1 _ _⟩
    · exact lineOf_mem.mpr ⟨getD_mem hj, det_self2 _ _⟩
  have hc : 2 * (linesT os os.length).count (textOf os i j) + (lineOf os (os.getD i 0) (os.getD j 0)).length = (lineOf os (os.getD i 0) (os.getD j 0)).length * (lineOf os (os.getD i 0) (os.getD j 0)).length := hc
  rw [hz, e]
  generalize (linesT os os.length).count (textOf os i j) = u at hc ⊢
  generalize (lineOf os (os.getD i 0) (os.getD j 0)).length = l at hc h4 h2
  have : l = 2 ∨ l = 3 ∨ l = 4 := by omega
  rcases this with rfl | rfl | rfl <;> omega

theorem plain : PlainLaw := fun os nd lt len => ⟨fun h1 => by
  obtain ⟨ss, D, P⟩ := exPts nd lt
  have O := P.notOne h1
  have hlen := P.len
  have h2 : 2 ≤ ss.length := by
    have hD := linesD_len os os.length
    rcases Nat.lt_or_ge 1 os.length with c | c
    · omega
    · have := Nat.mul_le_mul c c
      omega
  have M := melchior P.cross O h2
  have N := P.ones
  rw [oneKeys_len]
  by_cases hbig : 3 * os.length ≤ 7 * (oneKeys os).length
  · exact hbig
  exfalso
  have h4 : ∀ p q, p ≠ q → (lineOf os p q).length ≤ 4 := fun p q hpq => by
    rcases Nat.lt_or_ge 4 (lineOf os p q).length with c | c
    · have := P.five hpq c
      omega
    · exact c
  obtain ⟨e, he⟩ := mod_three (vals_of nd lt h4)
  rw [(lines_counts os os.length).sum, oneKeys_len] at he
  have hT := linesT_len os os.length
  generalize (linesT os os.length).length = T at he hT
  have hn : os.length = 8 ∨ os.length = 9 ∨ os.length = 10 := by omega
  by_cases h10 : (oneKeys os).length = 3
  · have h3 : ∀ p q, p ≠ q → (lineOf os p q).length ≤ 3 := fun p q hpq => by
      rcases Nat.lt_or_ge 3 (lineOf os p q).length with c | c
      · have := P.four hpq c
        omega
      · exact c
    have S := sys_of nd h3
    have K := keyed_of nd lt (by omega)
    rcases hn with hn | hn | hn
    · rw [hn] at hT; omega
    · have hpos : 0 < (ordL ss.length (xOf D ss)).length := by omega
      obtain ⟨⟨i, j⟩, hij⟩ := List.exists_mem_of_length_pos hpos
      have hab := ordy_odd2 (P.ordy hij).2.2
      obtain ⟨c, hac, hbc, ho⟩ := nine_tri S K hn hab
      obtain ⟨_, _, _, _, _, _, F, hne⟩ := nine_fig S hn hab hac hbc ho
      exact fig_absurd S F hne
    · exact no_ten S K hn
  · rcases hn with hn | hn | hn
    · rw [hn] at hT; omega
    · omega
    · rw [hn] at hT; omega, goodText nd lt⟩
end Mine

-- the statement
theorem PySem.Challenge.cw_rs0042_01_holds : PySem.Challenge.rw_rs0042_01.Holds := by
  w_on
  o_law
  refine PySem.W.holds_open (q := Mine.topView) (loose := Mine.topLoose) (Xt := Mine.topX) (XP := XL Mine.topView Mine.topRead) (YP := Mine.topHook.says) (N := 35074) Mine.topLeft Mine.topHook.of Mine.topHook.keeps
    (fun s e => xl_of s (Bool.and_eq_true_iff.mp e).1) XL.keeps rfl rfl rfl (fun s e => recFacts_of (Bool.and_eq_true_iff.mp e).2) rfl (by assumption) (by decide +kernel) ⟨rfl, rfl, rfl, rfl, rfl, by decide +kernel⟩ ?hw ?hc
  case hw => w_witness2
  case hc =>
    intro w s₀ s₁ mg mb G Y fa o pm cd doc dV kV ho hd hcd hD hmg hg args vals as hpre hlay hrd hwl hlo
    have KX := kIn_of Y
    refine Ground.open G ?_
    intro T B D TE TW
    have hfa : some (Value.ref fa) = some (Value.ref 81) := hmg.symm.trans (mg_of KX T.g (n := Str.ofString "law") (v := .ref 81) rfl)
    have hfa : fa = 81 := by injection hfa with h; injection h
    subst hfa
    have TR := topRead_of T
    clear ho hd hcd hD hmg B D TE TW Y
    wrow_args hpre hlay hrd hwl hlo
    rename_i ns _ _ _ _ _ _ _ a vs _ hL ra w1 r0 hI hr hc hT
    refine wpAny_mono (Mine.law_spec Mine.plain KX TR (by decide +kernel) rfl (by decide +kernel) hL hI (by omega)) (fun v s' h => ?_) fun _ _ e => e
    obtain ⟨rfl, h', tk, rfl, hk⟩ := h
    refine GoodW.toG ⟨Or.inl ⟨_, .bool true, [], rfl, fun _ => rfl, .bool _, ?_, fun _ => ⟨List.nodup_nil, fun _ h => nomatch h⟩⟩, hk, rfl, hg⟩
    refine postW_of (X := true) (by with_unfolding_all rfl) ?_ rfl
    first
      | with_unfolding_all rfl
      | (show (WTm.eq .res (.lit (.bool true))).value _ _ = _; simp [WTm.value])
