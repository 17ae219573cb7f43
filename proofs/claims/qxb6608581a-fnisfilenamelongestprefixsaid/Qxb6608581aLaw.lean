/- THE WALK of the law FnIsFileNameLongestPrefix. -/
import Derived.Test.Qxb6608581aFile
import Derived.Lib.Strings
namespace Go.Proofs.Qxb6608581a
open Go.RowKit
set_option linter.unusedSimpArgs false
set_option linter.unusedVariables false

set_option maxHeartbeats 400000 in
theorem zz4_yes (s : ByteArray) (w : World) (h1 : (s.size : Int) ≤ 1048576) :
    Calls Try.prog 4 #[.string s] w fun e w' => e = .returned (.bool true) ∧ w' = w := by
  go_enter Try.func4, Try.ntmps4
  go_wp2
  go_ret
  exact ⟨rfl, rfl⟩
set_option maxHeartbeats 400000 in
theorem zz4_no (s : ByteArray) (w : World) (h1 : ¬ (s.size : Int) ≤ 1048576) :
    Calls Try.prog 4 #[.string s] w fun e w' => e = .returned (.bool false) ∧ w' = w := by
  go_enter Try.func4, Try.ntmps4
  go_wp2
  go_ret
  exact ⟨rfl, rfl⟩

theorem upto_list (s : ByteArray) (k : Nat) : (s.extract 0 k).data.toList = s.data.toList.take k := by
  rw [Lib.extract_data]; simp
theorem upto_size (s : ByteArray) (k : Nat) (h : k ≤ s.size) : (s.extract 0 k).size = k := by
  simp; omega
theorem getD_take (l : List UInt8) (i k : Nat) (h : i < k) : (l.take k).getD i 0 = l.getD i 0 := by
  rw [List.getD_eq_getElem?_getD, List.getElem?_take_of_lt h, ← List.getD_eq_getElem?_getD]
/-- A prefix without a slash, at most 255 bytes long. -/
theorem pre_file (s : ByteArray) (m : Nat) (hm : m ≤ s.size) (h255 : m ≤ 255) (hno : ∀ j, j < m → s.data.toList.getD j 0 ≠ 47) : fileB (s.extract 0 m) = !specB (s.extract 0 m) := by
  unfold fileB slashB
  have h1 : Lib.indexByte (s.extract 0 m).data.toList 47 = -1 := by
    rw [upto_list]
    refine idx_neg _ _ (fun j hj => ?_)
    have hj2 : j < m := by simp at hj; omega
    rw [getD_take _ _ _ hj2]; exact hno j hj2
  rw [h1, upto_size s m hm]
  have h2 : ((m : Int) ≤ 255) := by omega
  simp [h2]
theorem slash_file (s : ByteArray) (j : Nat) (hj : j < s.size) (h : s.data.toList.getD j 0 = 47) : fileB s = false := by
  unfold fileB
  have h1 : slashB s = true := by
    unfold slashB
    refine decide_eq_true ?_
    by_cases hn : Lib.indexByte s.data.toList 47 < 0
    · exact absurd h (idx_none hn j hj)
    · omega
  rw [h1]; simp
theorem long_file (s : ByteArray) (h : 255 < s.size) : fileB s = false := by
  unfold fileB
  have h1 : ¬ ((s.size : Int) ≤ 255) := by omega
  simp [h1]

/-- The four ways of the test for special names. -/
theorem spec_ways (s : ByteArray) : (s.toList.isEmpty = true ∧ specB s = true) ∨ (s.toList.isEmpty = false ∧ (s.toList == [46]) = true ∧ specB s = true) ∨ (s.toList.isEmpty = false ∧ (s.toList == [46]) = false ∧ (s.toList == [46, 46]) = true ∧ specB s = true) ∨
    (s.toList.isEmpty = false ∧ (s.toList == [46]) = false ∧ (s.toList == [46, 46]) = false ∧ specB s = false) := by
  unfold specB
  cases s.toList.isEmpty <;> cases (s.toList == [46]) <;> cases (s.toList == [46, 46]) <;> simp

set_option maxRecDepth 20000 in
set_option maxHeartbeats 400000 in
theorem law_whole (s : ByteArray) (w : World) (hN : s.size ≤ 255) (hr : Lib.indexByte s.data.toList 47 < 0) :
    Calls Try.prog 3 #[.string s] w fun e w' => e = .returned (.bool true) ∧ w' = w := by
  have hno := idx_none hr
  have F0 := pre_file s s.size (Nat.le_refl _) hN (fun j hj => hno j hj)
  have F1 : Hid (fileB s = !specB s) := by
    have e : s.extract 0 s.size = s := by simp
    rw [e] at F0
    exact F0
  clear hno F0
  generalize hix : Lib.indexByte s.data.toList 47 = r at *
  have HX : Hid (Lib.indexByte s.data.toList 47 = r) := hix
  clear hix
  rcases spec_ways s with ⟨h0, hsp⟩ | ⟨h0, h1, hsp⟩ | ⟨h0, h1, h2, hsp⟩ | ⟨h0, h1, h2, hsp⟩
  all_goals
    have HF := F1.out
    rw [hsp] at HF
    have HF : Hid (_ = _) := HF
    clear F1 hsp
    go_enter Try.func3, Try.ntmps3
    go_wp2_with (first
      | (go_at_call 4; refine (zz4_yes s _ (by omega)).mono ?_; rintro e w' ⟨rfl, hw'⟩; have hw2 := hw'.symm; clear hw'; subst hw2)
      | (go_at_call 5; refine (index_any s _ (by omega)).mono ?_; rw [HX.out]; rintro e w' ⟨rfl, hw'⟩; have hw2 := hw'.symm; clear hw'; subst hw2)
      | (go_at_call_of 6 (Value.string s); refine (zzfile_any s _).mono ?_; rw [HF.out]; rintro e w' ⟨rfl, hw'⟩; have hw2 := hw'.symm; clear hw'; subst hw2))
    go_ret
    exact ⟨rfl, rfl⟩

set_option maxRecDepth 20000 in
set_option maxHeartbeats 400000 in
theorem law_slash (s : ByteArray) (j : Nat) (w : World) (hN : s.size ≤ 1048576) (hj : j < s.size) (hj2 : j ≤ 255) (HX : Hid (Lib.indexByte s.data.toList 47 = (j : Int))) :
    Calls Try.prog 3 #[.string s] w fun e w' => e = .returned (.bool true) ∧ w' = w := by
  have hsome := idx_some (l := s.data.toList) (c := 47) (by rw [HX.out]; omega)
  rw [HX.out, Int.toNat_natCast] at hsome
  have F1 : Hid (fileB (s.extract 0 j) = !specB (s.extract 0 j)) := pre_file s j (by omega) hj2 (fun i hi => hsome.2.2 i hi)
  have F2 : Hid (fileB (s.extract 0 (j + 1)) = false) := slash_file (s.extract 0 (j + 1)) j (by rw [upto_size s (j + 1) (by omega)]; omega) (by rw [upto_list, getD_take _ _ _ (by omega)]; exact hsome.2.1)
  have F3 : Hid (fileB s = false) := slash_file s j hj hsome.2.1
  clear hsome
  have hne : ((j : Int) == (s.size : Int)) = false := beq_eq_false_iff_ne.2 (by omega)
  rcases spec_ways (s.extract 0 j) with ⟨h0, hsp⟩ | ⟨h0, h1, hsp⟩ | ⟨h0, h1, h2, hsp⟩ | ⟨h0, h1, h2, hsp⟩
  all_goals
    have HF := F1.out
    rw [hsp] at HF
    have HF : Hid (_ = _) := HF
    clear F1 hsp
    go_enter Try.func3, Try.ntmps3
    go_wp2_with (first
      | (go_at_call 4; refine (zz4_yes s _ (by omega)).mono ?_; rintro e w' ⟨rfl, hw'⟩; have hw2 := hw'.symm; clear hw'; subst hw2)
      | (go_at_call 5; refine (index_any s _ (by omega)).mono ?_; rw [HX.out]; rintro e w' ⟨rfl, hw'⟩; have hw2 := hw'.symm; clear hw'; subst hw2)
      | (go_at_call_of 6 (Value.string (s.extract 0 j)); refine (zzfile_any (s.extract 0 j) _).mono ?_; rw [HF.out]; rintro e w' ⟨rfl, hw'⟩; have hw2 := hw'.symm; clear hw'; subst hw2)
      | (go_at_call_of 6 (Value.string s); refine (zzfile_any s _).mono ?_; rw [F3.out]; rintro e w' ⟨rfl, hw'⟩; have hw2 := hw'.symm; clear hw'; subst hw2))
    refine (zzfile_any (s.extract 0 (j + 1)) _).mono ?_
    rw [F2.out]
    rintro e w' ⟨rfl, hw'⟩
    have hw2 := hw'.symm
    clear hw'
    subst hw2
    go_wp2_with (go_at_call_of 6 (Value.string s); refine (zzfile_any s _).mono ?_; rw [F3.out]; rintro e w' ⟨rfl, hw'⟩; have hw2 := hw'.symm; clear hw'; subst hw2)
    go_ret
    exact ⟨rfl, rfl⟩

set_option maxRecDepth 20000 in
set_option maxHeartbeats 400000 in
theorem law_long (s : ByteArray) (r : Int) (w : World) (hN : s.size ≤ 1048576) (hl : 255 < s.size) (hr : r < 0 ∨ 255 < r) (HX : Hid (Lib.indexByte s.data.toList 47 = r)) :
    Calls Try.prog 3 #[.string s] w fun e w' => e = .returned (.bool true) ∧ w' = w := by
  have hno : ∀ i, i < 255 → s.data.toList.getD i 0 ≠ 47 := by
    intro i hi
    rcases hr with h | h
    · exact idx_none (by rw [HX.out]; exact h) i (by show i < s.size; omega)
    · have hsome := idx_some (l := s.data.toList) (c := 47) (by rw [HX.out]; omega)
      rw [HX.out] at hsome
      exact hsome.2.2 i (by omega)
  have F1 : Hid (fileB (s.extract 0 255) = !specB (s.extract 0 255)) := pre_file s 255 (by omega) (Nat.le_refl _) hno
  have F2 : Hid (fileB (s.extract 0 (256)) = false) := long_file (s.extract 0 256) (by rw [upto_size s 256 (by omega)]; omega)
  have F3 : Hid (fileB s = false) := long_file s hl
  clear hno
  have hne : ((255 : Int) == (s.size : Int)) = false := beq_eq_false_iff_ne.2 (by omega)
  rcases hr with hr | hr
  all_goals
    rcases spec_ways (s.extract 0 255) with ⟨h0, hsp⟩ | ⟨h0, h1, hsp⟩ | ⟨h0, h1, h2, hsp⟩ | ⟨h0, h1, h2, hsp⟩
  all_goals
    have HF := F1.out
    rw [hsp] at HF
    have HF : Hid (_ = _) := HF
    clear F1 hsp
    go_enter Try.func3, Try.ntmps3
    go_wp2_with (first
      | (go_at_call 4; refine (zz4_yes s _ (by omega)).mono ?_; rintro e w' ⟨rfl, hw'⟩; have hw2 := hw'.symm; clear hw'; subst hw2)
      | (go_at_call 5; refine (index_any s _ (by omega)).mono ?_; rw [HX.out]; rintro e w' ⟨rfl, hw'⟩; have hw2 := hw'.symm; clear hw'; subst hw2)
      | (go_at_call_of 6 (Value.string (s.extract 0 255)); refine (zzfile_any (s.extract 0 255) _).mono ?_; rw [HF.out]; rintro e w' ⟨rfl, hw'⟩; have hw2 := hw'.symm; clear hw'; subst hw2)
      | (go_at_call_of 6 (Value.string (s.extract 0 (256))); refine (zzfile_any (s.extract 0 (256)) _).mono ?_; rw [F2.out]; rintro e w' ⟨rfl, hw'⟩; have hw2 := hw'.symm; clear hw'; subst hw2)
      | (go_at_call_of 6 (Value.string s); refine (zzfile_any s _).mono ?_; rw [F3.out]; rintro e w' ⟨rfl, hw'⟩; have hw2 := hw'.symm; clear hw'; subst hw2))
    go_ret
    exact ⟨rfl, rfl⟩

set_option maxRecDepth 20000 in
set_option maxHeartbeats 400000 in
theorem the_law (s : ByteArray) (w : World) :
    Calls Try.prog 3 #[.string s] w fun e w' => e = .returned (.bool true) ∧ w' = w := by
  by_cases hz : (s.size : Int) ≤ 1048576
  · have hg := Lib.indexByte_ge s.data.toList 47
    have hlt := idx_lt s.data.toList 47
    have hlen : s.data.toList.length = s.size := rfl
    rw [hlen] at hlt
    by_cases hr : Lib.indexByte s.data.toList 47 < 0
    · by_cases hl : 255 < s.size
      · exact law_long s _ w (by omega) hl (.inl hr) rfl
      · exact law_whole s w (by omega) hr
    · by_cases hr2 : 255 < Lib.indexByte s.data.toList 47
      · exact law_long s _ w (by omega) (by omega) (.inr hr2) rfl
      · obtain ⟨j, hj⟩ := Int.eq_ofNat_of_zero_le (show 0 ≤ Lib.indexByte s.data.toList 47 by omega)
        exact law_slash s j w (by omega) (by omega) (by omega) hj
  · go_enter Try.func3, Try.ntmps3
    go_wp2_with (go_at_call 4; refine (zz4_no s _ hz).mono ?_; rintro e w' ⟨rfl, hw'⟩; have hw2 := hw'.symm; clear hw'; subst hw2)
    go_ret
    exact ⟨rfl, rfl⟩
end Go.Proofs.Qxb6608581a
