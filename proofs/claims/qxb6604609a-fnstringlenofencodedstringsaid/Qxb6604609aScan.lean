/- THE PLAIN MATHEMATICS of quoted strings: no Go in sight. -/
import Derived.Lib.Bytealg
namespace Go.Proofs.Qxb6604609a.Scan

/-- How many backslashes stand in a row right before place i. -/
def bsN (l : List UInt8) : Nat → Nat
  | 0 => 0
  | i + 1 => if l.getD i 0 = 92 then bsN l i + 1 else 0
theorem bsN_le (l : List UInt8) : ∀ i, bsN l i ≤ i
  | 0 => Nat.le_refl _
  | i + 1 => by
    unfold bsN
    have := bsN_le l i
    split <;> omega
/-- A quote that closes: unescaped, not at place 0. -/
def closes (l : List UInt8) (i : Nat) : Bool := l.getD i 0 == 34 && bsN l i % 2 == 0
/-- The length that is measured: up to the first closing quote behind place 0, or all. -/
def LenIs (l : List UInt8) (r : Nat) : Prop :=
  (∃ i, 1 ≤ i ∧ i < l.length ∧ closes l i = true ∧ (∀ j, 1 ≤ j → j < i → closes l j = false) ∧ r = i + 1) ∨ ((∀ j, 1 ≤ j → j < l.length → closes l j = false) ∧ r = l.length)
theorem LenIs.one {l : List UInt8} {a b : Nat} (ha : LenIs l a) (hb : LenIs l b) : a = b := by
  rcases ha with ⟨i, i1, i2, i3, i4, rfl⟩ | ⟨a1, rfl⟩
  · rcases hb with ⟨j, j1, j2, j3, j4, rfl⟩ | ⟨b1, rfl⟩
    · rcases Nat.lt_trichotomy i j with h | h | h
      · have := j4 i i1 h; rw [i3] at this; cases this
      · omega
      · have := i4 j j1 h; rw [j3] at this; cases this
    · have := b1 i i1 i2; rw [i3] at this; cases this
  · rcases hb with ⟨j, j1, j2, j3, j4, rfl⟩ | ⟨b1, rfl⟩
    · have := a1 j j1 j2; rw [j3] at this; cases this
    · rfl
/-- Counting backslashes backwards. -/
theorem bsN_run {l : List UInt8} : ∀ {i n : Nat}, n ≤ i → (∀ t, t < n → l.getD (i - 1 - t) 0 = 92) → (n = i ∨ l.getD (i - 1 - n) 0 ≠ 92) → bsN l i = n
  | 0, n, h, _, _ => by
    have : n = 0 := by omega
    subst this; rfl
  | i + 1, 0, _, _, h2 => by
    unfold bsN
    rw [if_neg]
    rcases h2 with h2 | h2
    · omega
    · simpa using h2
  | i + 1, n + 1, h, h1, h2 => by
    unfold bsN
    have h3 := h1 0 (by omega)
    rw [if_pos (by simpa using h3)]
    rw [bsN_run (i := i) (n := n) (by omega) (fun t ht => by have := h1 (t + 1) (by omega); rwa [show i + 1 - 1 - (t + 1) = i - 1 - t from by omega] at this) (by
      rcases h2 with h2 | h2
      · left; omega
      · right; rwa [show i + 1 - 1 - (n + 1) = i - 1 - n from by omega] at h2)]

/-! ### The encoding -/
def esc : List UInt8 → List UInt8
  | [] => []
  | c :: t => if c = 34 ∨ c = 92 then 92 :: c :: esc t else c :: esc t
theorem esc_len (l : List UInt8) : (esc l).length ≤ 2 * l.length := by
  induction l with
  | nil => simp [esc]
  | cons c t ih => unfold esc; split <;> simp <;> omega
theorem esc_append (a b : List UInt8) : esc (a ++ b) = esc a ++ esc b := by
  induction a with
  | nil => rfl
  | cons c t ih =>
    simp only [List.cons_append, esc]
    split <;> simp [ih]
def encL (l : List UInt8) : List UInt8 := 34 :: (esc l ++ [34])

theorem closes_other {l : List UInt8} {i : Nat} (h : l.getD i 0 ≠ 34) : closes l i = false := by unfold closes; rw [beq_eq_false_iff_ne.2 h]; rfl
theorem closes_odd {l : List UInt8} {i : Nat} (h : bsN l i % 2 = 1) : closes l i = false := by unfold closes; simp [h]
theorem closes_even {l : List UInt8} {i : Nat} (h : bsN l i % 2 = 0) (h2 : l.getD i 0 = 34) : closes l i = true := by unfold closes; rw [h2, h]; rfl

/-- Behind an opening place p whose count is even, the escaped text t leaves the count even and closes nothing. -/
theorem esc_walk {d : List UInt8} : ∀ (t : List UInt8) (p : Nat), (∀ i, i < (esc t).length → d.getD (p + i) 0 = (esc t).getD i 0) → bsN d p % 2 = 0 →
    bsN d (p + (esc t).length) % 2 = 0 ∧ ∀ j, p ≤ j → j < p + (esc t).length → closes d j = false
  | [], p, _, h => by simp [esc]; exact ⟨h, fun j h1 h2 => by omega⟩
  | c :: t, p, hd, h => by
    by_cases hc : c = 34 ∨ c = 92
    · have e : esc (c :: t) = 92 :: c :: esc t := by simp [esc, hc]
      rw [e] at hd ⊢
      simp only [List.length_cons] at hd ⊢
      have d0 : d.getD p 0 = 92 := by simpa using hd 0 (by omega)
      have d1 : d.getD (p + 1) 0 = c := by simpa using hd 1 (by omega)
      have b1 : bsN d (p + 1) = bsN d p + 1 := by
        show (if d.getD p 0 = 92 then bsN d p + 1 else 0) = _
        rw [if_pos d0]
      have b2 : bsN d (p + 2) % 2 = 0 := by
        show (if d.getD (p + 1) 0 = 92 then bsN d (p + 1) + 1 else 0) % 2 = 0
        split
        · omega
        · rfl
      obtain ⟨r1, r2⟩ := esc_walk t (p + 2) (fun i hi => by
        have := hd (i + 2) (by omega)
        rw [show p + 2 + i = p + (i + 2) from by omega, this]; simp) b2
      refine ⟨by rwa [show p + ((esc t).length + 1 + 1) = p + 2 + (esc t).length from by omega], fun j h1 h2 => ?_⟩
      by_cases j0 : j = p
      · subst j0; exact closes_other (by rw [d0]; decide)
      · by_cases j1 : j = p + 1
        · subst j1; exact closes_odd (by omega)
        · exact r2 j (by omega) (by omega)
    · have e : esc (c :: t) = c :: esc t := by simp [esc, hc]
      rw [e] at hd ⊢
      simp only [List.length_cons] at hd ⊢
      have d0 : d.getD p 0 = c := by simpa using hd 0 (by omega)
      have b1 : bsN d (p + 1) % 2 = 0 := by
        show (if d.getD p 0 = 92 then bsN d p + 1 else 0) % 2 = 0
        rw [if_neg (by rw [d0]; exact fun h => hc (.inr h))]
      obtain ⟨r1, r2⟩ := esc_walk t (p + 1) (fun i hi => by
        have := hd (i + 1) (by omega)
        rw [show p + 1 + i = p + (i + 1) from by omega, this]; simp) b1
      refine ⟨by rwa [show p + ((esc t).length + 1) = p + 1 + (esc t).length from by omega], fun j h1 h2 => ?_⟩
      by_cases j0 : j = p
      · subst j0; exact closes_other (by rw [d0]; exact fun h => hc (.inl h))
      · exact r2 j (by omega) (by omega)
theorem enc_len (l r : List UInt8) : LenIs (encL l ++ r) (encL l).length := by
  have hd : ∀ i, i < (esc l).length → (encL l ++ r).getD (1 + i) 0 = (esc l).getD i 0 := by
    intro i hi
    rw [List.getD_eq_getElem?_getD, List.getD_eq_getElem?_getD]
    unfold encL
    rw [show 1 + i = i + 1 from by omega]
    simp only [List.cons_append, List.getElem?_cons_succ, List.append_assoc]
    rw [List.getElem?_append_left hi]
  have h0 : (encL l ++ r).getD 0 0 = 34 := by simp [encL]
  have b1 : bsN (encL l ++ r) 1 % 2 = 0 := by
    show (if (encL l ++ r).getD 0 0 = 92 then bsN (encL l ++ r) 0 + 1 else 0) % 2 = 0
    rw [if_neg (by rw [h0]; decide)]
  obtain ⟨r1, r2⟩ := esc_walk (d := encL l ++ r) l 1 hd b1
  have hq : (encL l ++ r).getD (1 + (esc l).length) 0 = 34 := by
    rw [List.getD_eq_getElem?_getD]
    unfold encL
    rw [show 1 + (esc l).length = (esc l).length + 1 from by omega]
    simp
  refine .inl ⟨1 + (esc l).length, by omega, ?_, closes_even r1 hq, fun j h1 h2 => r2 j h1 h2, ?_⟩
  · simp [encL]; omega
  · simp [encL]; omega
end Go.Proofs.Qxb6604609a.Scan
