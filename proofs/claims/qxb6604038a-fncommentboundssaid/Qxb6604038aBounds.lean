/- THE WALKS on the road of FnCommentBounds: isDigit, comment, ZZComment, zzBytes. -/
import Derived.Test.Qxb6604038aRows
import Derived.Test.Qxb6604038aShelf
import Derived.WalkKit
import Derived.WalkSpells
import Derived.WalkLawsBesides
import Derived.Lib.Strings
import Derived.Lib.Index
namespace Go.Proofs.Qxb6604038a.Bounds
open Go.RowKit
set_option linter.unusedSimpArgs false
set_option linter.unusedVariables false

/-! ### Plain laws -/
theorem idx_ge (l : List UInt8) (c : UInt8) : -1 ≤ Lib.indexByte l c := Lib.indexByte_ge l c
theorem idx_lt (l : List UInt8) (c : UInt8) : Lib.indexByte l c < (l.length : Int) ∨ Lib.indexByte l c = -1 := by
  induction l with
  | nil => right; rfl
  | cons b l ih =>
    unfold Lib.indexByte
    have h := Lib.indexByte_ge l c
    split
    · left; simp
    · split
      · right; rfl
      · rename_i h2
        simp at h2
        left; simp; omega
theorem index_lt (s sub : List UInt8) : Lib.index s sub + sub.length ≤ (s.length : Int) ∨ Lib.index s sub = -1 := by
  induction s with
  | nil =>
    unfold Lib.index
    cases sub <;> simp
  | cons b l ih =>
    unfold Lib.index
    split
    · rename_i h
      left
      have h2 := (List.isPrefixOf_iff_prefix.1 h).length_le
      omega
    · split
      · right; rfl
      · rename_i h2
        simp at h2
        left
        have h3 := ih.resolve_right h2
        simp at h3 ⊢; omega

/-- What the law says of an answer (n, ex). -/
def Fits (s : ByteArray) (n : Int) (ex : Bool) : Prop :=
  0 ≤ n ∧ n ≤ (s.size : Int) ∧ (n = 0 ↔ s.size = 0) ∧ (ex = true → 3 ≤ n ∧ s.data.toList[0]? = some 47 ∧ s.data.toList[1]? = some 42)

theorem idx33a (r : List UInt8) : Lib.indexByte ([47, 42, 33] ++ r) 33 = 2 := by simp [Lib.indexByte]
theorem idx33b (r : List UInt8) : Lib.indexByte ([47, 42, 77, 33] ++ r) 33 = 3 := by simp [Lib.indexByte]

theorem pre_split {s p : List UInt8} (h : Lib.hasPrefix s p = true) : ∃ r, s = p ++ r := by
  obtain ⟨r, hr⟩ := List.isPrefixOf_iff_prefix.1 h
  exact ⟨r, hr.symm⟩

def digB (c : Int) : Bool := decide (48 ≤ c ∧ c ≤ 57)

set_option maxHeartbeats 400000 in
theorem isDigit_any (c : Int) (w : World) :
    Calls Try.prog 16 #[.int .u8 c] w fun e w' => e = .returned (.bool (digB c)) ∧ w' = w := by
  by_cases h1 : 48 ≤ c
  · go_enter Try.func16, Try.ntmps16
    go_wp2
    go_ret
    exact ⟨by simp [digB, h1], rfl⟩
  · go_enter Try.func16, Try.ntmps16
    go_wp2
    go_ret
    exact ⟨by simp [digB]; omega, rfl⟩

set_option maxHeartbeats 400000 in
theorem zzBytes_yes (s : ByteArray) (w : World) (h1 : (s.size : Int) ≤ 1048576) :
    Calls Try.prog 5 #[.string s] w fun e w' => e = .returned (.bool true) ∧ w' = w := by
  go_enter Try.func5, Try.ntmps5
  go_wp2
  go_ret
  exact ⟨rfl, rfl⟩
set_option maxHeartbeats 400000 in
theorem zzBytes_no (s : ByteArray) (w : World) (h1 : ¬ (s.size : Int) ≤ 1048576) :
    Calls Try.prog 5 #[.string s] w fun e w' => e = .returned (.bool false) ∧ w' = w := by
  go_enter Try.func5, Try.ntmps5
  go_wp2
  go_ret
  exact ⟨rfl, rfl⟩

/-- The loop over the digits, behind the sign of an executable comment at place k0. -/
theorem exec_fits {s : ByteArray} (p r : List UInt8) (h : s.data.toList = 47 :: 42 :: p ++ r) (k : Nat) (h3 : 3 ≤ k) (hk : k ≤ s.size) : Fits s k true := by
  refine ⟨by omega, by omega, by omega, fun _ => ⟨by omega, ?_, ?_⟩⟩
  · rw [h]; rfl
  · rw [h]; rfl

def CommentEnd (s : ByteArray) (e : Ending) : Prop := ∃ n ex, e = .returned (.tuple #[.int .i64 n, .bool ex]) ∧ Fits s n ex

set_option maxHeartbeats 400000 in
theorem comment_a (s : ByteArray) (w : World) (hs : s.size ≤ 65536) (h1 : Lib.hasPrefix s.data.toList [47, 42, 33] = true) :
    Calls Try.prog 12 #[.string s] w fun e w' => CommentEnd s e ∧ w' = w := by
  obtain ⟨r, hr⟩ := pre_split h1
  have hsz : 3 ≤ s.size := by
    have h2 : s.data.toList.length = s.size := rfl
    rw [← h2, hr]; simp
  have hix : Lib.indexByte s.data.toList 33 = 2 := by rw [hr]; exact idx33a r
  have Hr : Hid (s.data.toList = [47, 42, 33] ++ r) := hr
  clear hr
  go_enter Try.func12, Try.ntmps12
  go_wp2_with (first | (go_at_call 14; refine (Try.strings_HasPrefix _ _ _).mono ?_; rintro e w' ⟨rfl, rfl⟩) | (go_at_call 15; refine (Try.strings_IndexByte _ _ _).mono ?_; rintro e w' ⟨rfl, rfl⟩))
  go_loop [4] (fun v => ∃ k : Nat, 3 ≤ k ∧ k ≤ s.size ∧ v = .int .i64 k) (fun v => s.size - (intOf v).toNat)
  case atStart => exact ⟨3, by omega, by omega, rfl⟩
  case round =>
    obtain ⟨k, hk3, hk, rfl⟩ := hrel
    by_cases hlt : k < s.size
    · go_wp2_with (go_at_call 16; refine (isDigit_any _ _).mono ?_; rintro e w' ⟨rfl, rfl⟩)
      · go_round
        case rel => exact ⟨k + 1, by omega, by omega, by go_num⟩
        case measure => simp [intOf]; omega
      · go_ret2
        exact ⟨⟨_, _, rfl, exec_fits [33] r Hr.out k hk3 hk⟩, rfl⟩
    · go_wp2
      go_ret2
      exact ⟨⟨_, _, rfl, exec_fits [33] r Hr.out k hk3 hk⟩, rfl⟩

set_option maxHeartbeats 400000 in
theorem comment_b (s : ByteArray) (w : World) (hs : s.size ≤ 65536) (h0 : Lib.hasPrefix s.data.toList [47, 42, 33] = false) (h1 : Lib.hasPrefix s.data.toList [47, 42, 77, 33] = true) :
    Calls Try.prog 12 #[.string s] w fun e w' => CommentEnd s e ∧ w' = w := by
  obtain ⟨r, hr⟩ := pre_split h1
  have hsz : 4 ≤ s.size := by
    have h2 : s.data.toList.length = s.size := rfl
    rw [← h2, hr]; simp
  have hix : Lib.indexByte s.data.toList 33 = 3 := by rw [hr]; exact idx33b r
  have Hr : Hid (s.data.toList = [47, 42, 77, 33] ++ r) := hr
  clear hr
  go_enter Try.func12, Try.ntmps12
  go_wp2_with (first | (go_at_call 14; refine (Try.strings_HasPrefix _ _ _).mono ?_; rintro e w' ⟨rfl, rfl⟩) | (go_at_call 15; refine (Try.strings_IndexByte _ _ _).mono ?_; rintro e w' ⟨rfl, rfl⟩))
  go_loop [4] (fun v => ∃ k : Nat, 3 ≤ k ∧ k ≤ s.size ∧ v = .int .i64 k) (fun v => s.size - (intOf v).toNat)
  case atStart => exact ⟨4, by omega, by omega, rfl⟩
  case round =>
    obtain ⟨k, hk3, hk, rfl⟩ := hrel
    by_cases hlt : k < s.size
    · go_wp2_with (go_at_call 16; refine (isDigit_any _ _).mono ?_; rintro e w' ⟨rfl, rfl⟩)
      · go_round
        case rel => exact ⟨k + 1, by omega, by omega, by go_num⟩
        case measure => simp [intOf]; omega
      · go_ret2
        exact ⟨⟨_, _, rfl, exec_fits [77, 33] r Hr.out k hk3 hk⟩, rfl⟩
    · go_wp2
      go_ret2
      exact ⟨⟨_, _, rfl, exec_fits [77, 33] r Hr.out k hk3 hk⟩, rfl⟩

theorem plain_fits {s : ByteArray} {n : Int} (h0 : 0 ≤ n) (h1 : n ≤ (s.size : Int)) (h2 : n = 0 ↔ s.size = 0) : Fits s n false :=
  ⟨h0, h1, h2, fun h => by cases h⟩

set_option maxHeartbeats 400000 in
theorem comment_c (s : ByteArray) (w : World) (m : Int) (hm : w.cell? ⟨0, 0, none⟩ = some (.int .i64 m)) (hs : s.size ≤ 65536) (h0 : Lib.hasPrefix s.data.toList [47, 42, 33] = false)
    (h1 : Lib.hasPrefix s.data.toList [47, 42, 77, 33] = false) (h2 : Lib.hasPrefix s.data.toList [47, 42] = true) :
    Calls Try.prog 12 #[.string s] w fun e w' => CommentEnd s e ∧ w' = w := by
  obtain ⟨r, hr⟩ := pre_split h2
  have hsz : 2 ≤ s.size := by
    have h2 : s.data.toList.length = s.size := rfl
    rw [← h2, hr]; simp
  clear hr r
  have hx : (s.extract 2 s.size).data.toList.length = s.size - 2 := by simp
  have hix := index_lt (s.extract 2 s.size).data.toList [42, 47]
  have hig := Lib.index_ge (s.extract 2 s.size).data.toList [42, 47]
  generalize hix0 : Lib.index (s.extract 2 s.size).data.toList [42, 47] = ix at hix hig
  rw [hx] at hix
  simp only [List.length_cons, List.length_nil] at hix
  have Hix : Hid (Lib.index (s.extract 2 s.size).data.toList [42, 47] = ix) := hix0
  clear hix0 hx
  by_cases hneg : ix < 0
  · clear hix
    go_enter Try.func12, Try.ntmps12
    go_wp2_with (first | (go_at_call 14; refine (Try.strings_HasPrefix _ _ _).mono ?_; rintro e w' ⟨rfl, rfl⟩) | (go_at_call 17; refine (Try.strings_Index _ _ m _ ?_ hm).mono ?_; (simp; omega); rintro e w' ⟨rfl, rfl⟩; simp only [Hix.out]))
    go_ret2
    exact ⟨⟨_, _, rfl, plain_fits (by omega) (by omega) (by omega)⟩, rfl⟩
  · have hix4 : ix + 4 ≤ (s.size : Int) := by omega
    clear hix
    go_enter Try.func12, Try.ntmps12
    go_wp2_with (first | (go_at_call 14; refine (Try.strings_HasPrefix _ _ _).mono ?_; rintro e w' ⟨rfl, rfl⟩) | (go_at_call 17; refine (Try.strings_Index _ _ m _ ?_ hm).mono ?_; (simp; omega); rintro e w' ⟨rfl, rfl⟩; simp only [Hix.out]))
    go_ret2
    exact ⟨⟨_, _, rfl, plain_fits (by omega) (by omega) (by omega)⟩, rfl⟩

set_option maxHeartbeats 400000 in
theorem comment_d (s : ByteArray) (w : World) (hs : s.size ≤ 65536) (h0 : Lib.hasPrefix s.data.toList [47, 42, 33] = false)
    (h1 : Lib.hasPrefix s.data.toList [47, 42, 77, 33] = false) (h2 : Lib.hasPrefix s.data.toList [47, 42] = false) :
    Calls Try.prog 12 #[.string s] w fun e w' => CommentEnd s e ∧ w' = w := by
  have hx : s.data.toList.length = s.size := rfl
  have hix := idx_lt s.data.toList 10
  have hig := idx_ge s.data.toList 10
  generalize hix0 : Lib.indexByte s.data.toList 10 = ix at hix hig
  rw [hx] at hix
  have Hix : Hid (Lib.indexByte s.data.toList 10 = ix) := hix0
  clear hix0 hx
  by_cases hneg : ix < 0
  · clear hix
    go_enter Try.func12, Try.ntmps12
    go_wp2_with (first | (go_at_call 14; refine (Try.strings_HasPrefix _ _ _).mono ?_; rintro e w' ⟨rfl, rfl⟩) | (go_at_call 15; refine (Try.strings_IndexByte _ _ _).mono ?_; rintro e w' ⟨rfl, rfl⟩; simp only [show (Int.toNat 10).toUInt8 = 10 from rfl, Hix.out]))
    go_ret2
    exact ⟨⟨_, _, rfl, plain_fits (by omega) (by omega) (by omega)⟩, rfl⟩
  · have hix4 : ix + 1 ≤ (s.size : Int) := by omega
    clear hix
    go_enter Try.func12, Try.ntmps12
    go_wp2_with (first | (go_at_call 14; refine (Try.strings_HasPrefix _ _ _).mono ?_; rintro e w' ⟨rfl, rfl⟩) | (go_at_call 15; refine (Try.strings_IndexByte _ _ _).mono ?_; rintro e w' ⟨rfl, rfl⟩; simp only [show (Int.toNat 10).toUInt8 = 10 from rfl, Hix.out]))
    go_ret2
    exact ⟨⟨_, _, rfl, plain_fits (by omega) (by omega) (by omega)⟩, rfl⟩

theorem comment_any (s : ByteArray) (w : World) (m : Int) (hm : w.cell? ⟨0, 0, none⟩ = some (.int .i64 m)) (hs : s.size ≤ 65536) :
    Calls Try.prog 12 #[.string s] w fun e w' => CommentEnd s e ∧ w' = w := by
  cases h0 : Lib.hasPrefix s.data.toList [47, 42, 33] with
  | true => exact comment_a s w hs h0
  | false =>
    cases h1 : Lib.hasPrefix s.data.toList [47, 42, 77, 33] with
    | true => exact comment_b s w hs h0 h1
    | false =>
      cases h2 : Lib.hasPrefix s.data.toList [47, 42] with
      | true => exact comment_c s w m hm hs h0 h1 h2
      | false => exact comment_d s w hs h0 h1 h2

set_option maxHeartbeats 400000 in
theorem zzComment_any (s : ByteArray) (w : World) (m : Int) (hm : w.cell? ⟨0, 0, none⟩ = some (.int .i64 m)) (hs : s.size ≤ 65536) :
    Calls Try.prog 6 #[.string s] w fun e w' => CommentEnd s e ∧ w' = w := by
  go_enter Try.func6, Try.ntmps6
  go_wp2_with fail
  refine (comment_any s _ m hm hs).mono ?_
  rintro e w' ⟨⟨n, ex, rfl, hf⟩, rfl⟩
  go_wp2
  go_ret2
  exact ⟨⟨_, _, rfl, hf⟩, rfl⟩

theorem byte0 {s : ByteArray} {i : Nat} {c : UInt8} (h : s.data.toList[i]? = some c) : ∀ hi : i < s.size, s[i] = c := by
  intro hi
  have h2 : s.data.toList[i]? = some s[i] := by
    have : i < s.data.toList.length := hi
    rw [List.getElem?_eq_getElem this]; rfl
  rw [h] at h2
  exact (Option.some.inj h2).symm

set_option maxHeartbeats 400000 in
theorem law_empty (s : ByteArray) (w : World) (m : Int) (hm : w.cell? ⟨0, 0, none⟩ = some (.int .i64 m)) (hc : (s.size : Int) ≤ 65536) (hz : ((s.size : Int) == 0) = true) :
    Calls Try.prog 3 #[.string s] w fun e w' => e = .returned (.bool true) ∧ w' = w := by
  go_enter Try.func3, Try.ntmps3
  go_wp2_with (go_at_call 5; refine (zzBytes_yes s _ (by omega)).mono ?_; rintro e w' ⟨rfl, rfl⟩)
  refine (zzComment_any s _ m hm (by omega)).mono ?_
  rintro e w' ⟨⟨n, ex, rfl, h1, h2, h3, h4⟩, rfl⟩
  have hn : n = 0 := by have hq := beq_iff_eq.1 hz; omega
  subst hn
  have hex : ex = false := by cases ex; rfl; exact absurd (h4 rfl).1 (by omega)
  subst hex
  clear h1 h2 h3 h4
  go_wp2
  go_ret
  exact ⟨rfl, rfl⟩

set_option maxHeartbeats 400000 in
theorem law_more (s : ByteArray) (w : World) (m : Int) (hm : w.cell? ⟨0, 0, none⟩ = some (.int .i64 m)) (hc : (s.size : Int) ≤ 65536) (hz : ((s.size : Int) == 0) = false) :
    Calls Try.prog 3 #[.string s] w fun e w' => e = .returned (.bool true) ∧ w' = w := by
  go_enter Try.func3, Try.ntmps3
  go_wp2_with (go_at_call 5; refine (zzBytes_yes s _ (by omega)).mono ?_; rintro e w' ⟨rfl, rfl⟩)
  refine (zzComment_any s _ m hm (by omega)).mono ?_
  rintro e w' ⟨⟨n, ex, rfl, h1, h2, h3, h4⟩, rfl⟩
  have hn : (n == 0) = false := by have hq := beq_eq_false_iff_ne.1 hz; exact beq_eq_false_iff_ne.2 (by omega)
  cases ex with
  | false =>
    clear h3 h4
    go_wp2
    go_ret
    exact ⟨rfl, rfl⟩
  | true =>
    obtain ⟨h5, h6, h7⟩ := h4 rfl
    have e0 := byte0 h6 (by omega)
    have e1 := byte0 h7 (by omega)
    clear h3 h4 h6 h7
    go_wp2
    go_ret
    exact ⟨rfl, rfl⟩

set_option maxHeartbeats 400000 in
theorem law_walk (s : ByteArray) (w0 : s.size ≤ maxLen) (w : World) (m : Int) (hm : w.cell? ⟨0, 0, none⟩ = some (.int .i64 m)) :
    Calls Try.prog 3 #[.string s] w fun e w' => e = .returned (.bool true) ∧ w' = w := by
  by_cases hb : (s.size : Int) ≤ 1048576
  · by_cases hc : (s.size : Int) ≤ 65536
    · cases hz : ((s.size : Int) == 0) with
      | true => exact law_empty s w m hm hc hz
      | false => exact law_more s w m hm hc hz
    · go_enter Try.func3, Try.ntmps3
      go_wp2_with (go_at_call 5; refine (zzBytes_yes s _ (by omega)).mono ?_; rintro e w' ⟨rfl, rfl⟩)
      go_ret
      exact ⟨rfl, rfl⟩
  · go_enter Try.func3, Try.ntmps3
    go_wp2_with (go_at_call 5; refine (zzBytes_no s _ hb).mono ?_; rintro e w' ⟨rfl, rfl⟩)
    go_ret
    exact ⟨rfl, rfl⟩
end Go.Proofs.Qxb6604038a.Bounds
