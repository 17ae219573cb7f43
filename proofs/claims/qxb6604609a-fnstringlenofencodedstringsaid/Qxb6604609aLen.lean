/- THE WALKS of stringLen, ZZStringLen, stringLenModel. -/
import Derived.Test.Qxb6604609aRowB
namespace Go.Proofs.Qxb6604609a
open Go.RowKit Scan
set_option linter.unusedSimpArgs false
set_option linter.unusedVariables false

theorem bytesOf_nums (l : List UInt8) : Lib.bytesOf (l.map (fun c => (c.toNat : Int))) = l := by
  unfold Lib.bytesOf
  rw [List.map_map]
  conv => rhs; rw [← List.map_id l]
  apply List.map_congr_left
  intro c _
  simp
theorem nums_getD (l : List UInt8) (i : Nat) (h : i < l.length) : (l.map (fun c => (c.toNat : Int))).getD i 0 = ((l.getD i 0).toNat : Int) := by
  simp [h]
theorem getD_drop (l : List UInt8) (i j : Nat) : (l.drop i).getD j 0 = l.getD (i + j) 0 := by
  rw [List.getD_eq_getElem?_getD, List.getElem?_drop, ← List.getD_eq_getElem?_getD]
theorem idx_none {l : List UInt8} {c : UInt8} (h : Lib.indexByte l c < 0) : ∀ j, j < l.length → l.getD j 0 ≠ c := by
  induction l with
  | nil => intro j hj; simp at hj
  | cons b l ih =>
    unfold Lib.indexByte at h
    have hg := Lib.indexByte_ge l c
    by_cases hb : (b == c) = true
    · rw [if_pos hb] at h; omega
    · rw [if_neg hb] at h
      have h2 : Lib.indexByte l c < 0 := by
        split at h
        · rename_i h3; have := beq_iff_eq.1 h3; omega
        · rename_i h3; have := beq_eq_false_iff_ne.1 (Bool.eq_false_iff.2 h3); omega
      intro j hj
      cases j with
      | zero => simpa using hb
      | succ j => simpa using ih h2 j (by simpa using hj)
theorem idx_some {l : List UInt8} {c : UInt8} (h : 0 ≤ Lib.indexByte l c) : (Lib.indexByte l c).toNat < l.length ∧ l.getD (Lib.indexByte l c).toNat 0 = c ∧ ∀ j, j < (Lib.indexByte l c).toNat → l.getD j 0 ≠ c := by
  induction l with
  | nil => simp [Lib.indexByte] at h
  | cons b l ih =>
    unfold Lib.indexByte at h ⊢
    have hg := Lib.indexByte_ge l c
    by_cases hb : (b == c) = true
    · rw [if_pos hb]
      exact ⟨by simp, by simpa using hb, fun j hj => by simp at hj⟩
    · rw [if_neg hb] at h ⊢
      by_cases h3 : (Lib.indexByte l c == -1) = true
      · rw [if_pos h3] at h; omega
      · rw [if_neg h3] at h ⊢
        have h4 := beq_eq_false_iff_ne.1 (Bool.eq_false_iff.2 h3)
        obtain ⟨i1, i2, i3⟩ := ih (by omega)
        have e : (Lib.indexByte l c + 1).toNat = (Lib.indexByte l c).toNat + 1 := by omega
        rw [e]
        refine ⟨by simp; omega, by simpa using i2, fun j hj => ?_⟩
        cases j with
        | zero => simpa using hb
        | succ j => simpa using i3 j (by omega)

theorem ret_int {k : IntKind} {a b : Int} (h : a = b) : Ending.returned (.int k a) = .returned (.int k b) := by rw [h]
def LenEnd (l : List UInt8) (e : Ending) : Prop := ∃ r : Nat, e = .returned (.int .i64 (r : Int)) ∧ LenIs l r

set_option maxRecDepth 20000 in
set_option maxHeartbeats 400000 in
theorem len_zero (a : Option Addr) (c : Nat) (w : World) : Calls Try.prog 11 #[.slice a 0 c] w fun e w' => LenEnd [] e ∧ w' = w := by
  go_enter Try.func11, Try.ntmps11
  go_wp2
  refine wp_loop_rounds 1 ?_
  rw [rounds_succ]
  go_wp2
  go_ret
  exact ⟨⟨0, rfl, .inr ⟨fun j h1 h2 => by simp at h2, rfl⟩⟩, rfl⟩

set_option maxRecDepth 20000 in
set_option maxHeartbeats 400000 in
theorem len_any (b : Nat) (l : List UInt8) (w : World) (hl : l.length ≤ 4194304) (hl1 : 1 ≤ l.length) (h1 : HasRow w b l) :
    Calls Try.prog 11 #[.slice (some ⟨b, 0, none⟩) l.length l.length] w fun e w' => LenEnd l e ∧ w' = w := by
  go_enter Try.func11, Try.ntmps11
  go_wp2
  go_loop [3, 4, 5] (fun x _ _ => ∃ i : Nat, i < l.length ∧ x = .int .i64 i ∧ Hid (∀ j, 1 ≤ j → j ≤ i → closes l j = false)) (fun x _ _ => l.length - (intOf x).toNat)
  case atStart => exact ⟨0, by omega, rfl, fun j h2 h3 => by omega⟩
  case round =>
    obtain ⟨i, hi, rfl, HN⟩ := hrel
    by_cases hlast : l.length = i + 1
    · have HH : Hid (LenIs l l.length) := .inr ⟨fun j h2 h3 => HN.out j h2 (by omega), rfl⟩
      have CI : Hid (Calls Try.prog 12 #[.slice (some ⟨b, 0, none⟩) 0 0, .int .u8 34] w fun e w' => e = .returned (.int .i64 (-1)) ∧ w' = w) := by
        have h := Try.bytes_IndexByte b 0 0 0 [] 34 w rfl (fun t ht => by omega)
        exact h
      go_wp2_with (go_at_call 12; refine CI.out.mono ?_; rintro e w' ⟨rfl, hw'⟩; have hw2 := hw'.symm; clear hw'; subst hw2)
      go_ret
      exact ⟨⟨l.length, ret_int (by omega), HH.out⟩, rfl⟩
    · have CI : Hid (Calls Try.prog 12 #[.slice (some ⟨b, i + 1, none⟩) (l.length - (i + 1)) (l.length - (i + 1)), .int .u8 34] w fun e w' => e = .returned (.int .i64 (Lib.indexByte (l.drop (i + 1)) 34)) ∧ w' = w) := by
        have h := Try.bytes_IndexByte b (i + 1) (l.length - (i + 1)) (l.length - (i + 1)) ((l.drop (i + 1)).map (fun c => (c.toNat : Int))) 34 w (by simp) (fun t ht => by
          rw [nums_getD _ _ (by simp; omega), getD_drop]
          exact h1.cell (i + 1 + t) (by omega))
        rw [bytesOf_nums] at h
        exact h
      have hIN : Hid (Lib.indexByte (l.drop (i + 1)) 34 < 0 → ∀ t, t < (l.drop (i + 1)).length → (l.drop (i + 1)).getD t 0 ≠ 34) := fun h => idx_none h
      have hIS : Hid (0 ≤ Lib.indexByte (l.drop (i + 1)) 34 → (Lib.indexByte (l.drop (i + 1)) 34).toNat < (l.drop (i + 1)).length ∧ (l.drop (i + 1)).getD (Lib.indexByte (l.drop (i + 1)) 34).toNat 0 = 34 ∧ ∀ t, t < (Lib.indexByte (l.drop (i + 1)) 34).toNat → (l.drop (i + 1)).getD t 0 ≠ 34) := fun h => idx_some h
      generalize Lib.indexByte (l.drop (i + 1)) 34 = r at *
      by_cases hr0 : r < 0
      · have HH : Hid (LenIs l l.length) := .inr ⟨fun j h2 h3 => by
          by_cases h4 : j ≤ i
          · exact HN.out j h2 h4
          · have h5 := hIN.out hr0 (j - (i + 1)) (by simp; omega)
            rw [getD_drop, show i + 1 + (j - (i + 1)) = j from by omega] at h5
            exact closes_other h5, rfl⟩
        clear hIN hIS
        go_wp2_with (go_at_call 12; refine CI.out.mono ?_; rintro e w' ⟨rfl, hw'⟩; have hw2 := hw'.symm; clear hw'; subst hw2)
        go_ret
        exact ⟨⟨l.length, rfl, HH.out⟩, rfl⟩
      · obtain ⟨j, hj⟩ := Int.eq_ofNat_of_zero_le (show 0 ≤ r by omega)
        subst hj
        obtain ⟨hj1, hj2, hj3⟩ := hIS.out (by omega)
        rw [Int.toNat_natCast] at hj1 hj2 hj3
        obtain ⟨p, hp⟩ : ∃ p : Nat, p = i + 1 + j := ⟨_, rfl⟩
        have hpl : p < l.length := by simp at hj1; omega
        have hip : i < p := by omega
        have HQ : Hid (l.getD p 0 = 34) := by show _ = _; rw [getD_drop] at hj2; rw [hp]; exact hj2
        have HB : Hid (∀ q, 1 ≤ q → q < p → closes l q = false) := fun q h2 h3 => by
          by_cases h4 : q ≤ i
          · exact HN.out q h2 h4
          · have h5 := hj3 (q - (i + 1)) (by omega)
            rw [getD_drop, show i + 1 + (q - (i + 1)) = q from by omega] at h5
            exact closes_other h5
        have hpi : (i : Int) + (1 + (j : Int)) = (p : Int) := by omega
        clear hIN hIS HN hj1 hj2 hj3 hp
        go_wp2_with (go_at_call 12; refine CI.out.mono ?_; rintro e w' ⟨rfl, hw'⟩; have hw2 := hw'.symm; clear hw'; subst hw2)
        go_loop [5] (fun x => ∃ n : Nat, n ≤ p ∧ x = .int .i64 n ∧ Hid (∀ t, t < n → l.getD (p - 1 - t) 0 = 92)) (fun x => p - (intOf x).toNat)
        case atStart => exact ⟨0, by omega, rfl, fun t ht => by omega⟩
        case round =>
          obtain ⟨n, hn, rfl, HR⟩ := hrel
          by_cases hnp : n < p
          · have d1 := h1.cell (p - 1 - n) (by omega)
            have hv8 : (l.getD (p - 1 - n) 0).toNat < 256 := UInt8.toNat_lt _
            cases hc : (((l.getD (p - 1 - n) 0).toNat : Int) == 92) with
            | true =>
              have HE : Hid (l.getD (p - 1 - n) 0 = 92) := by
                have h7 := beq_iff_eq.1 hc
                exact UInt8.toNat_inj.1 (by show _ = 92; omega)
              generalize (l.getD (p - 1 - n) 0).toNat = v at *
              go_wp2
              go_round
              case rel => exact ⟨n + 1, by omega, by go_num, fun t ht => by
                by_cases e : t = n
                · subst e; exact HE.out
                · exact HR.out t (by omega)⟩
              case measure => simp [intOf]; omega
            | false =>
              have BS : bsN l p = n := bsN_run hn HR.out (.inr (fun e => by rw [e] at hc; simp at hc))
              generalize (l.getD (p - 1 - n) 0).toNat = v at *
              have hbs : Hid (bsN l p = n) := BS
              clear BS
              by_cases hpar : n % 2 = 0
              · have hpz : ((n : Int) % 2 == 0) = true := beq_iff_eq.2 (by omega)
                have HH : Hid (LenIs l (p + 1)) := .inl ⟨p, by omega, hpl, closes_even (by rw [hbs.out]; exact hpar) HQ.out, HB.out, rfl⟩
                go_wp2
                go_ret
                exact ⟨⟨p + 1, ret_int (by omega), HH.out⟩, rfl⟩
              · have hpz : ((n : Int) % 2 == 0) = false := beq_eq_false_iff_ne.2 (by omega)
                have HP : Hid (closes l p = false) := closes_odd (by rw [hbs.out]; omega)
                go_wp2
                go_round
                case rel => exact ⟨p, hpl, rfl, fun q h2 h3 => by
                  by_cases e : q = p
                  · subst e; exact HP.out
                  · exact HB.out q h2 (by omega)⟩
                case measure => simp [intOf]; omega
          · have hnp2 : n = p := by omega
            have BS : bsN l p = n := bsN_run hn HR.out (.inl hnp2)
            have hbs : Hid (bsN l p = n) := BS
            clear BS hnp2
            by_cases hpar : n % 2 = 0
            · have hpz : ((n : Int) % 2 == 0) = true := beq_iff_eq.2 (by omega)
              have HH : Hid (LenIs l (p + 1)) := .inl ⟨p, by omega, hpl, closes_even (by rw [hbs.out]; exact hpar) HQ.out, HB.out, rfl⟩
              go_wp2
              go_ret
              exact ⟨⟨p + 1, ret_int (by omega), HH.out⟩, rfl⟩
            · have hpz : ((n : Int) % 2 == 0) = false := beq_eq_false_iff_ne.2 (by omega)
              have HP : Hid (closes l p = false) := closes_odd (by rw [hbs.out]; omega)
              go_wp2
              go_round
              case rel => exact ⟨p, hpl, rfl, fun q h2 h3 => by
                by_cases e : q = p
                · subst e; exact HP.out
                · exact HB.out q h2 (by omega)⟩
              case measure => simp [intOf]; omega
end Go.Proofs.Qxb6604609a
