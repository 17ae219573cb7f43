/- THE WALKS of zzIndexByte, isFileName, ZZisFileName. -/
import Derived.Test.Qxb6608581aRows
import Derived.Test.Qxb6608581aShelf
import Derived.WalkKit
import Derived.WalkSpells
import Derived.WalkLawsBesides
namespace Go.Proofs.Qxb6608581a
open Go.RowKit
set_option linter.unusedSimpArgs false
set_option linter.unusedVariables false

/-! ### Plain laws -/
theorem idx_lt (l : List UInt8) (c : UInt8) : Lib.indexByte l c < (l.length : Int) ∨ Lib.indexByte l c = -1 := by
  induction l with
  | nil => right; rfl
  | cons b l ih =>
    unfold Lib.indexByte
    have h := Lib.indexByte_ge l c
    split
    · left; simp
    · split
      · right; rfl
      · rename_i h2
        simp at h2
        left; simp; omega
theorem idx_at : ∀ (l : List UInt8) (c : UInt8) (k : Nat), k < l.length → l.getD k 0 = c → (∀ j, j < k → l.getD j 0 ≠ c) → Lib.indexByte l c = k
  | [], _, k, h, _, _ => by simp at h
  | b :: l, c, 0, _, h, _ => by
    unfold Lib.indexByte
    have hb : (b == c) = true := by simpa using h
    rw [if_pos hb]; rfl
  | b :: l, c, k + 1, h, h1, h2 => by
    have hb : ¬ (b == c) = true := by simpa using h2 0 (by omega)
    have ih := idx_at l c k (by simpa using h) (by simpa using h1) (fun j hj => by simpa using h2 (j + 1) (by omega))
    unfold Lib.indexByte
    rw [if_neg hb, ih, if_neg (by simp)]
    rfl
theorem idx_neg : ∀ (l : List UInt8) (c : UInt8), (∀ j, j < l.length → l.getD j 0 ≠ c) → Lib.indexByte l c = -1
  | [], _, _ => rfl
  | b :: l, c, h => by
    have hb : ¬ (b == c) = true := by simpa using h 0 (by simp)
    have ih := idx_neg l c (fun j hj => by simpa using h (j + 1) (by simpa using hj))
    unfold Lib.indexByte
    rw [if_neg hb, ih]; rfl
theorem idx_none {l : List UInt8} {c : UInt8} (h : Lib.indexByte l c < 0) : ∀ j, j < l.length → l.getD j 0 ≠ c := by
  induction l with
  | nil => intro j hj; simp at hj
  | cons b l ih =>
    unfold Lib.indexByte at h
    have hg := Lib.indexByte_ge l c
    by_cases hb : (b == c) = true
    · rw [if_pos hb] at h; omega
    · rw [if_neg hb] at h
      have h2 : Lib.indexByte l c < 0 := by
        split at h
        · rename_i h3; have := beq_iff_eq.1 h3; omega
        · rename_i h3; have := beq_eq_false_iff_ne.1 (Bool.eq_false_iff.2 h3); omega
      intro j hj
      cases j with
      | zero => simpa using hb
      | succ j => simpa using ih h2 j (by simpa using hj)
theorem idx_some {l : List UInt8} {c : UInt8} (h : 0 ≤ Lib.indexByte l c) : (Lib.indexByte l c).toNat < l.length ∧ l.getD (Lib.indexByte l c).toNat 0 = c ∧ ∀ j, j < (Lib.indexByte l c).toNat → l.getD j 0 ≠ c := by
  induction l with
  | nil => simp [Lib.indexByte] at h
  | cons b l ih =>
    unfold Lib.indexByte at h ⊢
    have hg := Lib.indexByte_ge l c
    by_cases hb : (b == c) = true
    · rw [if_pos hb]
      exact ⟨by simp, by simpa using hb, fun j hj => by simp at hj⟩
    · rw [if_neg hb] at h ⊢
      by_cases h3 : (Lib.indexByte l c == -1) = true
      · rw [if_pos h3] at h; omega
      · rw [if_neg h3] at h ⊢
        have h4 := beq_eq_false_iff_ne.1 (Bool.eq_false_iff.2 h3)
        obtain ⟨i1, i2, i3⟩ := ih (by omega)
        have e : (Lib.indexByte l c + 1).toNat = (Lib.indexByte l c).toNat + 1 := by omega
        rw [e]
        refine ⟨by simp; omega, by simpa using i2, fun j hj => ?_⟩
        cases j with
        | zero => simpa using hb
        | succ j => simpa using i3 j (by omega)
theorem getD_at (s : ByteArray) (k : Nat) (h : k < s.size) : s.data.toList.getD k 0 = s[k] := by
  have h2 : k < s.data.toList.length := h
  rw [List.getD_eq_getElem?_getD, List.getElem?_eq_getElem h2]; rfl

/-- A file name: not special, no slash, at most 255 bytes. -/
def specB (s : ByteArray) : Bool := s.toList.isEmpty || s.toList == [46] || s.toList == [46, 46]
def slashB (s : ByteArray) : Bool := decide (0 ≤ Lib.indexByte s.data.toList 47)
def fileB (s : ByteArray) : Bool := !specB s && !slashB s && decide ((s.size : Int) ≤ 255)

set_option maxHeartbeats 400000 in
theorem index_any (s : ByteArray) (w : World) (hs : s.size ≤ 1048576) :
    Calls Try.prog 5 #[.string s, .int .u8 47] w fun e w' => e = .returned (.int .i64 (Lib.indexByte s.data.toList 47)) ∧ w' = w := by
  go_enter Try.func5, Try.ntmps5
  go_wp2
  go_loop [5] (fun x => ∃ k : Nat, k ≤ s.size ∧ x = .int .i64 k ∧ Hid (∀ j, j < k → s.data.toList.getD j 0 ≠ 47)) (fun x => s.size - (intOf x).toNat)
  case atStart => exact ⟨0, by omega, rfl, fun j hj => by omega⟩
  case round =>
    obtain ⟨k, hk, rfl, HN⟩ := hrel
    by_cases hlt : k < s.size
    · have hb8 : s[k].toNat < 256 := UInt8.toNat_lt _
      cases hc : ((s[k].toNat : Int) == 47) with
      | true =>
        have HE : Hid (Lib.indexByte s.data.toList 47 = k) := idx_at s.data.toList 47 k hlt (by rw [getD_at s k hlt]; have := beq_iff_eq.1 hc; exact UInt8.toNat_inj.1 (by show _ = 47; omega)) HN.out
        go_wp2
        go_ret
        exact ⟨by rw [HE.out]; rfl, rfl⟩
      | false =>
        have HE : Hid (s.data.toList.getD k 0 ≠ 47) := by
          show _ ≠ _
          rw [getD_at s k hlt]
          intro e
          rw [e] at hc
          simp at hc
        go_wp2
        go_round
        case rel => exact ⟨k + 1, by omega, by go_num, fun j hj => by
          by_cases e : j = k
          · subst e; exact HE.out
          · exact HN.out j (by omega)⟩
        case measure => simp [intOf]; omega
    · have HE : Hid (Lib.indexByte s.data.toList 47 = -1) := idx_neg s.data.toList 47 (fun j hj => HN.out j (by have : j < s.size := hj; omega))
      go_wp2
      go_ret
      exact ⟨by rw [HE.out]; rfl, rfl⟩

set_option maxHeartbeats 400000 in
theorem file_any (s : ByteArray) (w : World) :
    Calls Try.prog 7 #[.string s] w fun e w' => e = .returned (.bool (fileB s)) ∧ w' = w := by
  cases h0 : s.toList.isEmpty with
  | true =>
    have HF : Hid (fileB s = false) := by show _ = _; unfold fileB specB; rw [h0]; rfl
    go_enter Try.func7, Try.ntmps7
    go_wp2
    go_ret
    exact ⟨by rw [HF.out]; rfl, rfl⟩
  | false =>
    cases h1 : (s.toList == [46]) with
    | true =>
      have HF : Hid (fileB s = false) := by show _ = _; unfold fileB specB; rw [h0, h1]; rfl
      go_enter Try.func7, Try.ntmps7
      go_wp2
      go_ret
      exact ⟨by rw [HF.out]; rfl, rfl⟩
    | false =>
      cases h2 : (s.toList == [46, 46]) with
      | true =>
        have HF : Hid (fileB s = false) := by show _ = _; unfold fileB specB; rw [h0, h1, h2]; rfl
        go_enter Try.func7, Try.ntmps7
        go_wp2
        go_ret
        exact ⟨by rw [HF.out]; rfl, rfl⟩
      | false =>
        have CS : Hid (Calls Try.prog 8 #[.string s, .string ⟨#[47]⟩] w fun e w' => e = .returned (.bool (slashB s)) ∧ w' = w) := Try.strings_Contains_one s 47 w
        cases h3 : slashB s with
        | true =>
          rw [h3] at CS
          have HF : Hid (fileB s = false) := by show _ = _; unfold fileB; rw [h3]; simp
          clear h3
          go_enter Try.func7, Try.ntmps7
          go_wp2_with (go_at_call 8; refine CS.out.mono ?_; rintro e w' ⟨rfl, hw'⟩; have hw2 := hw'.symm; clear hw'; subst hw2)
          go_ret
          exact ⟨by rw [HF.out]; rfl, rfl⟩
        | false =>
          rw [h3] at CS
          have HF : Hid (fileB s = decide ((s.size : Int) ≤ 255)) := by show _ = _; unfold fileB specB; rw [h0, h1, h2, h3]; rfl
          clear h3
          go_enter Try.func7, Try.ntmps7
          go_wp2_with (go_at_call 8; refine CS.out.mono ?_; rintro e w' ⟨rfl, hw'⟩; have hw2 := hw'.symm; clear hw'; subst hw2)
          go_ret
          exact ⟨by rw [HF.out]; rfl, rfl⟩

set_option maxHeartbeats 400000 in
theorem zzfile_any (s : ByteArray) (w : World) :
    Calls Try.prog 6 #[.string s] w fun e w' => e = .returned (.bool (fileB s)) ∧ w' = w := by
  go_enter Try.func6, Try.ntmps6
  go_wp2_with fail
  refine (file_any s _).mono ?_
  rintro e w' ⟨rfl, hw'⟩
  have hw2 := hw'.symm
  clear hw'
  subst hw2
  go_wp2
  go_ret
  exact ⟨rfl, rfl⟩
end Go.Proofs.Qxb6608581a
