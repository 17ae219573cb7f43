/- THE PLAIN MATHEMATICS of masking: no Go in sight. -/
import Derived.Lib.Index
namespace Go.Proofs.Qxb6604104a.Mask

/-- Does the key k stand at place j of l? -/
def occ (k l : List UInt8) (j : Nat) : Bool := k.isPrefixOf (l.drop j)

theorem occ_iff (k l : List UInt8) (j : Nat) : occ k l j = true ↔ ∃ r, l.drop j = k ++ r := by
  unfold occ
  rw [List.isPrefixOf_iff_prefix]
  exact ⟨fun ⟨r, h⟩ => ⟨r, h.symm⟩, fun ⟨r, h⟩ => ⟨r, h.symm⟩⟩
theorem occ_drop (k l : List UInt8) (i j : Nat) : occ k (l.drop i) j = occ k l (i + j) := by
  unfold occ; rw [List.drop_drop]
theorem occ_len {k l : List UInt8} {j : Nat} (h : occ k l j = true) (hk : 1 ≤ k.length) : j + k.length ≤ l.length := by
  obtain ⟨r, h⟩ := (occ_iff k l j).1 h
  have h2 := congrArg List.length h
  simp at h2
  omega
theorem occ_short {k l : List UInt8} {j : Nat} (hk : 1 ≤ k.length) (h : l.length < j + k.length) : occ k l j = false := by
  cases ho : occ k l j with
  | false => rfl
  | true => have := occ_len ho hk; omega
/-- The key stands at j: byte by byte. -/
theorem occ_bytes (k l : List UInt8) (j : Nat) (hl : j + k.length ≤ l.length) : occ k l j = true ↔ ∀ t, t < k.length → l.getD (j + t) 0 = k.getD t 0 := by
  rw [occ_iff]
  constructor
  · rintro ⟨r, h⟩ t ht
    have h2 : (l.drop j)[t]? = (k ++ r)[t]? := by rw [h]
    rw [List.getElem?_drop, List.getElem?_append_left ht] at h2
    rw [List.getD_eq_getElem?_getD, List.getD_eq_getElem?_getD, h2]
  · intro h
    refine ⟨(l.drop j).drop k.length, ?_⟩
    have h2 : (l.drop j).take k.length = k := by
      apply List.ext_getElem?
      intro t
      by_cases ht : t < k.length
      · rw [List.getElem?_take_of_lt ht, List.getElem?_drop]
        have h3 := h t ht
        rw [List.getD_eq_getElem?_getD, List.getD_eq_getElem?_getD, List.getElem?_eq_getElem (by omega), List.getElem?_eq_getElem ht] at h3
        rw [List.getElem?_eq_getElem (by omega), List.getElem?_eq_getElem ht]
        exact congrArg some h3
      · rw [List.getElem?_eq_none (by simp; omega), List.getElem?_eq_none (by omega)]
    rw [← h2, List.length_take]
    have e : min k.length (l.drop j).length = k.length := by simp; omega
    rw [e, List.take_append_drop]

/-- Every occurrence of the key, from the left, becomes fill bytes (with fuel). -/
def maskF (k : List UInt8) (f : UInt8) : Nat → List UInt8 → List UInt8
  | 0, l => l
  | _ + 1, [] => []
  | n + 1, c :: t => if k.isPrefixOf (c :: t) then List.replicate k.length f ++ maskF k f n ((c :: t).drop k.length) else c :: maskF k f n t
def maskA (k : List UInt8) (f : UInt8) (l : List UInt8) : List UInt8 := maskF k f l.length l

theorem maskF_fuel (k : List UInt8) (f : UInt8) (hk : 1 ≤ k.length) : ∀ n m l, l.length ≤ n → l.length ≤ m → maskF k f n l = maskF k f m l
  | 0, 0, _, _, _ => rfl
  | 0, m + 1, l, h1, _ => by
    have : l = [] := List.eq_nil_of_length_eq_zero (by omega)
    subst this; rfl
  | n + 1, 0, l, _, h2 => by
    have : l = [] := List.eq_nil_of_length_eq_zero (by omega)
    subst this; rfl
  | n + 1, m + 1, [], _, _ => rfl
  | n + 1, m + 1, c :: t, h1, h2 => by
    simp only [List.length_cons] at h1 h2
    unfold maskF
    rw [maskF_fuel k f hk n m _ (by simp; omega) (by simp; omega), maskF_fuel k f hk n m t (by omega) (by omega)]
theorem maskA_nil (k : List UInt8) (f : UInt8) : maskA k f [] = [] := rfl
theorem maskA_cons (k : List UInt8) (f : UInt8) (hk : 1 ≤ k.length) (c : UInt8) (t : List UInt8) :
    maskA k f (c :: t) = if k.isPrefixOf (c :: t) then List.replicate k.length f ++ maskA k f ((c :: t).drop k.length) else c :: maskA k f t := by
  have e : maskA k f (c :: t) = if k.isPrefixOf (c :: t) then List.replicate k.length f ++ maskF k f t.length ((c :: t).drop k.length) else c :: maskF k f t.length t := rfl
  rw [e, maskF_fuel k f hk t.length ((c :: t).drop k.length).length ((c :: t).drop k.length) (by simp; omega) (Nat.le_refl _)]
  rfl

theorem maskA_hit (k : List UInt8) (f : UInt8) (hk : 1 ≤ k.length) (l : List UInt8) (h : occ k l 0 = true) : maskA k f l = List.replicate k.length f ++ maskA k f (l.drop k.length) := by
  cases l with
  | nil => have h2 := occ_len h hk; simp only [List.length_nil] at h2; omega
  | cons c t =>
    rw [maskA_cons k f hk]
    rw [if_pos (by simpa [occ] using h)]
theorem maskA_miss (k : List UInt8) (f : UInt8) (hk : 1 ≤ k.length) (c : UInt8) (t : List UInt8) (h : occ k (c :: t) 0 = false) : maskA k f (c :: t) = c :: maskA k f t := by
  rw [maskA_cons k f hk]
  have h2 : ¬ k.isPrefixOf (c :: t) = true := by
    intro h3; unfold occ at h; rw [List.drop_zero, h3] at h; cases h
  rw [if_neg h2]

/-- The first j places miss. -/
theorem maskA_skip (k : List UInt8) (f : UInt8) (hk : 1 ≤ k.length) : ∀ (j : Nat) (l : List UInt8), j ≤ l.length → (∀ i, i < j → occ k l i = false) → maskA k f l = l.take j ++ maskA k f (l.drop j)
  | 0, l, _, _ => by simp
  | j + 1, [], h, _ => by simp at h
  | j + 1, c :: t, h, hm => by
    rw [maskA_miss k f hk c t (hm 0 (by omega))]
    rw [maskA_skip k f hk j t (by simpa using h) (fun i hi => by have := hm (i + 1) (by omega); simpa [occ] using this)]
    simp
theorem maskA_none (k : List UInt8) (f : UInt8) (hk : 1 ≤ k.length) (l : List UInt8) (h : ∀ i, occ k l i = false) : maskA k f l = l := by
  rw [maskA_skip k f hk l.length l (Nat.le_refl _) (fun i _ => h i)]
  simp [maskA_nil]
theorem maskA_first (k : List UInt8) (f : UInt8) (hk : 1 ≤ k.length) (l : List UInt8) (j : Nat) (h : ∀ i, i < j → occ k l i = false) (ho : occ k l j = true) :
    maskA k f l = l.take j ++ (List.replicate k.length f ++ maskA k f (l.drop (j + k.length))) := by
  have hl := occ_len ho hk
  rw [maskA_skip k f hk j l (by omega) h, maskA_hit k f hk (l.drop j) (by rw [occ_drop]; simpa using ho), List.drop_drop]
theorem maskA_len (k : List UInt8) (f : UInt8) (hk : 1 ≤ k.length) : ∀ (n : Nat) (l : List UInt8), l.length ≤ n → (maskA k f l).length = l.length
  | 0, l, h => by
    have : l = [] := List.eq_nil_of_length_eq_zero (by omega)
    subst this; rfl
  | n + 1, [], _ => rfl
  | n + 1, c :: t, h => by
    simp only [List.length_cons] at h
    cases ho : occ k (c :: t) 0 with
    | true =>
      have hl := occ_len ho hk
      rw [maskA_hit k f hk _ ho, List.length_append, List.length_replicate, maskA_len k f hk n _ (by simp; omega)]
      simp at hl ⊢
      omega
    | false =>
      rw [maskA_miss k f hk c t ho, List.length_cons, List.length_cons, maskA_len k f hk n t (by omega)]

/-! ### Once masked, no key is left -/
theorem take_same (k : List UInt8) (f : UInt8) (hk : 1 ≤ k.length) : ∀ (m : Nat) (t : List UInt8), f ∉ (maskA k f t).take m → (maskA k f t).take m = t.take m
  | 0, _, _ => rfl
  | m + 1, [], _ => rfl
  | m + 1, c :: t, h => by
    cases ho : occ k (c :: t) 0 with
    | true =>
      exfalso
      rw [maskA_hit k f hk _ ho] at h
      apply h
      obtain ⟨n, hn⟩ : ∃ n, k.length = n + 1 := ⟨k.length - 1, by omega⟩
      rw [hn, List.replicate_succ]
      simp
    | false =>
      rw [maskA_miss k f hk c t ho] at h ⊢
      simp only [List.take_succ_cons] at h ⊢
      rw [take_same k f hk m t (fun h2 => h (List.mem_cons_of_mem _ h2))]
theorem no_occ (k : List UInt8) (f : UInt8) (hk : 1 ≤ k.length) (hf : f ∉ k) : ∀ (n : Nat) (l : List UInt8), l.length ≤ n → ∀ j, occ k (maskA k f l) j = false
  | 0, l, h, j => by
    have : l = [] := List.eq_nil_of_length_eq_zero (by omega)
    subst this
    exact occ_short hk (by simp [maskA_nil]; omega)
  | n + 1, [], _, j => occ_short hk (by simp [maskA_nil]; omega)
  | n + 1, c :: t, h, j => by
    simp only [List.length_cons] at h
    cases ho : occ k (c :: t) 0 with
    | true =>
      rw [maskA_hit k f hk _ ho]
      by_cases hj : j < k.length
      · cases hq : occ k (List.replicate k.length f ++ maskA k f ((c :: t).drop k.length)) j with
        | false => rfl
        | true =>
          exfalso
          have hl := occ_len hq hk
          have h2 := (occ_bytes k _ j hl).1 hq 0 (by omega)
          rw [Nat.add_zero, List.getD_eq_getElem?_getD, List.getElem?_append_left (by simpa using hj), List.getElem?_replicate, if_pos hj] at h2
          apply hf
          rw [List.getD_eq_getElem?_getD, List.getElem?_eq_getElem (by omega)] at h2
          simp at h2
          rw [h2]
          exact List.getElem_mem _
      · have e : (List.replicate k.length f ++ maskA k f ((c :: t).drop k.length)).drop j = (maskA k f ((c :: t).drop k.length)).drop (j - k.length) := by
          rw [List.drop_append]
          simp
          omega
        have h3 := no_occ k f hk hf n ((c :: t).drop k.length) (by simp; omega) (j - k.length)
        unfold occ at h3 ⊢
        rw [e]; exact h3
    | false =>
      rw [maskA_miss k f hk c t ho]
      cases j with
      | succ j =>
        have h3 := no_occ k f hk hf n t (by omega) j
        unfold occ at h3 ⊢
        simpa using h3
      | zero =>
        cases hq : occ k (c :: maskA k f t) 0 with
        | false => rfl
        | true =>
          exfalso
          obtain ⟨r, hr⟩ := (occ_iff k _ 0).1 hq
          cases k with
          | nil => simp at hk
          | cons k0 ks =>
            simp at hr
            obtain ⟨h0, hr⟩ := hr
            have e : (maskA (k0 :: ks) f t).take ks.length = ks := by rw [hr]; simp
            have hn : f ∉ (maskA (k0 :: ks) f t).take ks.length := by
              rw [e]; exact fun h => hf (List.mem_cons_of_mem _ h)
            have h4 := take_same (k0 :: ks) f hk ks.length t hn
            rw [e] at h4
            have h5 : occ (k0 :: ks) (c :: t) 0 = true := by
              rw [occ_iff]
              refine ⟨t.drop ks.length, ?_⟩
              simp only [List.drop_zero, List.cons_append]
              rw [h0]
              congr 1
              conv => lhs; rw [← List.take_append_drop ks.length t, ← h4]
            rw [ho] at h5
            cases h5
end Go.Proofs.Qxb6604104a.Mask
