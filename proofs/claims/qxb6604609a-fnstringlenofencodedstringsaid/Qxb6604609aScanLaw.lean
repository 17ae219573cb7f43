/- THE WALKS of ZZStringLen, stringLenModel and of the law FnStringLenAgainstEscapeScanner. -/
import Derived.Test.Qxb6604609aLen
namespace Go.Proofs.Qxb6604609a
open Go.RowKit Scan
set_option linter.unusedSimpArgs false
set_option linter.unusedVariables false

set_option maxRecDepth 20000 in
set_option maxHeartbeats 400000 in
theorem zzlen_zero (a : Option Addr) (c : Nat) (w : World) : Calls Try.prog 7 #[.slice a 0 c] w fun e w' => LenEnd [] e ∧ w' = w := by
  go_enter Try.func7, Try.ntmps7
  go_wp2_with fail
  refine (len_zero a c _).mono ?_
  rintro e w1 ⟨⟨r, rfl, hr⟩, rfl⟩
  go_wp2
  go_ret
  exact ⟨⟨r, rfl, hr⟩, rfl⟩
set_option maxRecDepth 20000 in
set_option maxHeartbeats 400000 in
theorem zzlen_any (b : Nat) (l : List UInt8) (w : World) (hl : l.length ≤ 4194304) (hl1 : 1 ≤ l.length) (h1 : HasRow w b l) :
    Calls Try.prog 7 #[.slice (some ⟨b, 0, none⟩) l.length l.length] w fun e w' => LenEnd l e ∧ w' = w := by
  go_enter Try.func7, Try.ntmps7
  go_wp2_with fail
  refine (len_any b l _ hl hl1 h1).mono ?_
  rintro e w1 ⟨⟨r, rfl, hr⟩, rfl⟩
  go_wp2
  go_ret
  exact ⟨⟨r, rfl, hr⟩, rfl⟩

def escB (l : List UInt8) (i : Nat) : Bool := bsN l i % 2 == 1
theorem escB_step (l : List UInt8) (i : Nat) : escB l (i + 1) = ((l.getD i 0 == 92) && !escB l i) := by
  unfold escB
  have e : bsN l (i + 1) = if l.getD i 0 = 92 then bsN l i + 1 else 0 := rfl
  rw [e]
  by_cases h : l.getD i 0 = 92
  · rw [if_pos h]
    have h2 : (l.getD i 0 == 92) = true := beq_iff_eq.2 h
    rw [h2, Bool.true_and]
    by_cases h3 : bsN l i % 2 = 1
    · rw [beq_iff_eq.2 h3, beq_eq_false_iff_ne.2 (by omega)]; rfl
    · rw [beq_eq_false_iff_ne.2 h3, beq_iff_eq.2 (by omega)]; rfl
  · rw [if_neg h]
    have h2 : (l.getD i 0 == 92) = false := beq_eq_false_iff_ne.2 h
    rw [h2]; rfl
theorem esc_closes {l : List UInt8} {i : Nat} (h : escB l i = true) : closes l i = false := by
  refine closes_odd ?_
  unfold escB at h
  exact beq_iff_eq.1 h
theorem unesc_even {l : List UInt8} {i : Nat} (h : escB l i = false) : bsN l i % 2 = 0 := by
  unfold escB at h
  have := beq_eq_false_iff_ne.1 h
  omega

set_option maxRecDepth 20000 in
set_option maxHeartbeats 400000 in
theorem model_zero (a : Option Addr) (c : Nat) (w : World) : Calls Try.prog 8 #[.slice a 0 c] w fun e w' => LenEnd [] e ∧ w' = w := by
  go_enter Try.func8, Try.ntmps8
  go_wp2
  refine wp_loop_rounds 1 ?_
  rw [rounds_succ]
  go_wp2
  go_ret
  exact ⟨⟨0, rfl, .inr ⟨fun j h1 h2 => by simp at h2, rfl⟩⟩, rfl⟩

set_option maxRecDepth 20000 in
set_option maxHeartbeats 400000 in
theorem model_any (b : Nat) (l : List UInt8) (w : World) (hl : l.length ≤ 4194304) (h1 : HasRow w b l) :
    Calls Try.prog 8 #[.slice (some ⟨b, 0, none⟩) l.length l.length] w fun e w' => LenEnd l e ∧ w' = w := by
  go_enter Try.func8, Try.ntmps8
  go_wp2
  go_loop [3, 4, 5] (fun y x _ => ∃ i : Nat, i ≤ l.length ∧ x = .int .i64 i ∧ y = .bool (escB l i) ∧ Hid (∀ j, 1 ≤ j → j < i → closes l j = false)) (fun _ x _ => l.length - (intOf x).toNat)
  case atStart => exact ⟨0, by omega, rfl, rfl, fun j h2 h3 => by omega⟩
  case round =>
    obtain ⟨i, hi, rfl, rfl, HN⟩ := hrel
    by_cases hil : i < l.length
    · have d1 := h1.cell i hil
      have hv8 : (l.getD i 0).toNat < 256 := UInt8.toNat_lt _
      have HS : Hid (escB l (i + 1) = ((l.getD i 0 == 92) && !escB l i)) := escB_step l i
      have hb92 : Hid ((l.getD i 0 == 92) = ((((l.getD i 0).toNat : Int)) == 92)) := by
        show _ = _
        rw [Bool.eq_iff_iff, beq_iff_eq, beq_iff_eq]
        constructor
        · intro e; rw [e]; rfl
        · intro e; exact UInt8.toNat_inj.1 (by show _ = 92; omega)
      have H34 : Hid (((l.getD i 0).toNat : Int) = 34 → l.getD i 0 = 34) := fun e => UInt8.toNat_inj.1 (by show _ = 34; omega)
      have H34n : Hid (((l.getD i 0).toNat : Int) ≠ 34 → l.getD i 0 ≠ 34) := fun h e => h (by rw [e]; rfl)
      by_cases hi0 : i = 0
      · subst hi0
        have hz : Hid (escB l 1 = ((((l.getD 0 0).toNat : Int)) == 92)) := by
          show _ = _
          rw [HS.out, hb92.out]
          have : escB l 0 = false := rfl
          rw [this]; simp
        generalize (l.getD 0 0).toNat = v at *
        go_wp2
        go_round
        case rel => exact ⟨1, by omega, rfl, by rw [hz.out], fun j h2 h3 => by omega⟩
        case measure => simp [intOf]; omega
      · have hiz : ((i : Int) == 0) = false := beq_eq_false_iff_ne.2 (by omega)
        cases he : escB l i with
        | true =>
          have HE : Hid (escB l (i + 1) = false) := by show _ = _; rw [HS.out, he]; simp
          have HC : Hid (closes l i = false) := esc_closes he
          clear he
          generalize (l.getD i 0).toNat = v at *
          go_wp2
          go_round
          case rel => exact ⟨i + 1, by omega, by go_num, by rw [HE.out], fun j h2 h3 => by
            by_cases e : j = i
            · subst e; exact HC.out
            · exact HN.out j h2 (by omega)⟩
          case measure => simp [intOf]; omega
        | false =>
          have HU : Hid (bsN l i % 2 = 0) := unesc_even he
          cases h92 : (((l.getD i 0).toNat : Int) == 92) with
          | true =>
            have HE : Hid (escB l (i + 1) = true) := by show _ = _; rw [HS.out, he, hb92.out, h92]; rfl
            have HC : Hid (closes l i = false) := closes_other (H34n.out (by have := beq_iff_eq.1 h92; omega))
            clear he
            generalize (l.getD i 0).toNat = v at *
            go_wp2
            go_round
            case rel => exact ⟨i + 1, by omega, by go_num, by rw [HE.out], fun j h2 h3 => by
              by_cases e : j = i
              · subst e; exact HC.out
              · exact HN.out j h2 (by omega)⟩
            case measure => simp [intOf]; omega
          | false =>
            have HE : Hid (escB l (i + 1) = false) := by show _ = _; rw [HS.out, he, hb92.out, h92]; rfl
            clear he
            cases h34 : (((l.getD i 0).toNat : Int) == 34) with
            | true =>
              have HH : Hid (LenIs l (i + 1)) := .inl ⟨i, by omega, hil, closes_even HU.out (H34.out (beq_iff_eq.1 h34)), HN.out, rfl⟩
              generalize (l.getD i 0).toNat = v at *
              go_wp2
              go_ret
              exact ⟨⟨i + 1, ret_int (by omega), HH.out⟩, rfl⟩
            | false =>
              have HC : Hid (closes l i = false) := closes_other (H34n.out (beq_eq_false_iff_ne.1 h34))
              generalize (l.getD i 0).toNat = v at *
              go_wp2
              go_round
              case rel => exact ⟨i + 1, by omega, by go_num, by rw [HE.out], fun j h2 h3 => by
                by_cases e : j = i
                · subst e; exact HC.out
                · exact HN.out j h2 (by omega)⟩
              case measure => simp [intOf]; omega
    · have HH : Hid (LenIs l l.length) := .inr ⟨fun j h2 h3 => HN.out j h2 (by omega), rfl⟩
      go_wp2
      go_ret
      exact ⟨⟨l.length, rfl, HH.out⟩, rfl⟩

/-! ### The law -/
set_option maxHeartbeats 400000 in
theorem zz5_yes (a : Option Addr) (m c : Nat) (w : World) (h : (m : Int) ≤ 1048576) :
    Calls Try.prog 5 #[.slice a m c] w fun e w' => e = .returned (.bool true) ∧ w' = w := by
  go_enter Try.func5, Try.ntmps5
  go_wp2
  go_ret
  exact ⟨rfl, rfl⟩
set_option maxHeartbeats 400000 in
theorem zz5_no (a : Option Addr) (m c : Nat) (w : World) (h : ¬ (m : Int) ≤ 1048576) :
    Calls Try.prog 5 #[.slice a m c] w fun e w' => e = .returned (.bool false) ∧ w' = w := by
  go_enter Try.func5, Try.ntmps5
  go_wp2
  go_ret
  exact ⟨rfl, rfl⟩

set_option maxRecDepth 20000 in
set_option maxHeartbeats 400000 in
theorem scan_zero (a : Option Addr) (c : Nat) (w : World) (ha : a = none → c = 0) :
    Calls Try.prog 3 #[.slice a 0 c] w fun e w' => e = .returned (.bool true) ∧ Below w.heap.size w w' := by
  go_enter Try.func3, Try.ntmps3
  go_wp2_with (go_at_call 5; refine (zz5_yes a 0 c _ (by omega)).mono ?_; rintro e w' ⟨rfl, hw'⟩; have hw2 := hw'.symm; clear hw'; subst hw2)
  refine (clone_zero a c _ ha).mono ?_
  rintro e w2 ⟨⟨a2, rfl⟩, hb2⟩
  go_wp2_with fail
  refine (zzlen_zero a2 0 _).mono ?_
  rintro e w3 ⟨⟨r3, rfl, hr3⟩, hw3⟩
  have hw3' := hw3.symm
  clear hw3
  subst hw3'
  go_wp2_with fail
  refine (model_zero a2 0 _).mono ?_
  rintro e w4 ⟨⟨r4, rfl, hr4⟩, hw4⟩
  have hw4' := hw4.symm
  clear hw4
  subst hw4'
  have he : r3 = r4 := LenIs.one hr3 hr4
  subst he
  clear hr3 hr4
  go_wp2
  go_ret
  exact ⟨by simp, hb2⟩

set_option maxRecDepth 20000 in
set_option maxHeartbeats 400000 in
theorem scan_row (x : Addr) (l : List UInt8) (c : Nat) (w : World) (hx : ∀ i, i < l.length → w.cell? (x.add i) = some (.int .u8 ((l.getD i 0).toNat : Int))) (hl1 : 1 ≤ l.length) (hl : l.length ≤ 1048576) :
    Calls Try.prog 3 #[.slice (some x) l.length c] w fun e w' => e = .returned (.bool true) ∧ Below w.heap.size w w' := by
  have HX : Hid (∀ i, i < l.length → w.cell? (x.add i) = some (.int .u8 ((l.getD i 0).toNat : Int))) := hx
  clear hx
  go_enter Try.func3, Try.ntmps3
  go_wp2_with (go_at_call 5; refine (zz5_yes (some x) l.length c _ (by omega)).mono ?_; rintro e w' ⟨rfl, hw'⟩; have hw2 := hw'.symm; clear hw'; subst hw2)
  refine (clone_some x l c _ (by omega) HX.out).mono ?_
  rintro e w2 ⟨b, rfl, hbb, hr2, hb2⟩
  go_wp2_with fail
  refine (zzlen_any b l _ (by omega) hl1 hr2).mono ?_
  rintro e w3 ⟨⟨r3, rfl, hr3⟩, hw3⟩
  have hw3' := hw3.symm
  clear hw3
  subst hw3'
  go_wp2_with fail
  refine (model_any b l _ (by omega) hr2).mono ?_
  rintro e w4 ⟨⟨r4, rfl, hr4⟩, hw4⟩
  have hw4' := hw4.symm
  clear hw4
  subst hw4'
  have he : r3 = r4 := LenIs.one hr3 hr4
  subst he
  clear hr3 hr4
  go_wp2
  go_ret
  exact ⟨by simp, hb2⟩

set_option maxRecDepth 20000 in
set_option maxHeartbeats 400000 in
theorem scan_law (a : Option Addr) (len cap : Nat) (zs : List Int) (w : World) (h : SliceIn w a len cap zs) :
    Calls Try.prog 3 #[.slice a len cap] w fun e w' => e = .returned (.bool true) ∧ Below w.heap.size w w' := by
  by_cases h1 : (len : Int) ≤ 1048576
  · by_cases h0 : len = 0
    · subst h0
      exact scan_zero a cap w h.nil_cap
    · obtain ⟨x, l, rfl, rfl, hx⟩ := h.row (by omega)
      exact scan_row x l cap w hx (by omega) (by omega)
  · clear h
    go_enter Try.func3, Try.ntmps3
    go_wp2_with (go_at_call 5; refine (zz5_no a len cap _ h1).mono ?_; rintro e w' ⟨rfl, hw'⟩; have hw2 := hw'.symm; clear hw'; subst hw2)
    go_ret
    exact ⟨rfl, Below.refl _ _⟩
end Go.Proofs.Qxb6604609a
