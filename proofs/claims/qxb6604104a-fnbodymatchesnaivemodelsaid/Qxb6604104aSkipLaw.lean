/- THE WALK of the law FnNewMaskerSkipNeverJumpsAnOccurrence. -/
import Derived.Test.Qxb6604104aParts
namespace Go.Proofs.Qxb6604104a
open Go.RowKit
set_option linter.unusedSimpArgs false
set_option linter.unusedVariables false

/-! ### Plain laws on the skip and on the fill -/
theorem skN_bd (l : List UInt8) (j : Nat) : ∀ k, k + 1 ≤ l.length → 1 ≤ skN l k j ∧ skN l k j ≤ l.length ∧ skN l k j ≤ 255 ∧ ∀ i, i < k → (l.getD i 0).toNat = j → skN l k j ≤ (l.length : Int) - 1 - i
  | 0, h => by
    unfold skN
    refine ⟨by omega, by omega, by omega, fun i hi => by omega⟩
  | k + 1, h => by
    have ih := skN_bd l j k (by omega)
    unfold skN
    split
    · refine ⟨by omega, by omega, by omega, fun i hi _ => by omega⟩
    · rename_i hne
      refine ⟨ih.1, ih.2.1, ih.2.2.1, fun i hi he => ?_⟩
      by_cases e : i = k
      · subst e; exact absurd he hne
      · exact ih.2.2.2 i (by omega) he

theorem fill_lacks {l : List UInt8} (h : lacksB l = true) : seenB l (fillN l) = false := by
  unfold fillN
  split
  · rename_i d hd
    have := List.find?_some hd
    simpa using this
  · rename_i hn
    rw [List.find?_eq_none] at hn
    exfalso
    unfold lacksB at h
    rw [List.any_eq_true] at h
    obtain ⟨j, hj, hj2⟩ := h
    have hj' : j < 256 := by simpa using hj
    have h3 := hn ((j + 214) % 256) (by simp; omega)
    have e : (42 + (j + 214) % 256) % 256 = j := by omega
    rw [e] at h3
    exact h3 hj2
theorem seen_at {s : ByteArray} {j : Nat} (h : seenB s.data.toList j = false) (i : Nat) (hi : i < s.size) : s[i].toNat ≠ j := by
  intro e
  unfold seenB at h
  rw [List.any_eq_false] at h
  refine h s[i] ?_ (by simp [e])
  have h2 : i < s.data.toList.length := hi
  exact List.getElem_mem h2

set_option maxHeartbeats 400000 in
theorem zz12_yes (s : ByteArray) (w : World) (h1 : (s.size : Int) ≤ 1048576) :
    Calls Try.prog 12 #[.string s] w fun e w' => e = .returned (.bool true) ∧ w' = w := by
  go_enter Try.func12, Try.ntmps12
  go_wp2
  go_ret
  exact ⟨rfl, rfl⟩
set_option maxHeartbeats 400000 in
theorem zz12_no (s : ByteArray) (w : World) (h1 : ¬ (s.size : Int) ≤ 1048576) :
    Calls Try.prog 12 #[.string s] w fun e w' => e = .returned (.bool false) ∧ w' = w := by
  go_enter Try.func12, Try.ntmps12
  go_wp2
  go_ret
  exact ⟨rfl, rfl⟩

set_option maxRecDepth 20000 in
set_option maxHeartbeats 400000 in
theorem skip_walk (s : ByteArray) (w : World) (hs : s.toList.isEmpty = false) (hsz : s.size ≤ 4096) (h1 : 1 ≤ s.size) :
    Calls Try.prog 4 #[.string s] w fun e w' => e = .returned (.bool true) ∧ Below w.heap.size w w' := by
  have z24 := (zero_of_info Try.zero24).1
  go_enter Try.func4, Try.ntmps4
  go_wp2_with (go_at_call 12; refine (zz12_yes s _ (by omega)).mono ?_; rintro e w' ⟨rfl, hw'⟩; have hw2 := hw'.symm; clear hw'; subst hw2)
  refine (parts_more s _ hs hsz h1).mono ?_
  rintro e w1 ⟨kb, cap, rfl, hkb, hk, hcap, hb⟩
  unfold partsV
  have ht0 := HasTab.new w1 24 (fun _ => .int .u8 0)
  have HT : Hid (HasTab (w1.alloc (.cells (tabV fun _ => .int .u8 0) 24)) w1.heap.size 24 (fun _ => .int .u8 0)) := ht0
  have Hi : Hid ((Try.prog.info? 24).map (·.size) = some 256) := (zero_of_info Try.zero24).2
  clear ht0 hk
  go_wp2_with (refine wpList_store_tab rfl 24 _ _ rfl w1.heap.size 24 (fun _ => .int .u8 0) (skipF s.data.toList (s.size - 1)) ?_ ?_ HT.out Hi.out (fun _ _ => rfl) ?_; (go_simp); (go_simp); intro w2 hT hb2)
  have Hb : Below w.heap.size w w2 := hb.trans (((Below.refl w.heap.size w1).alloc hb.size _).trans (hb2.mono hb.size))
  clear HT Hi z24 hb hb2
  go_loop [9, 10, 11] (fun i _ _ => ∃ k : Nat, k ≤ 256 ∧ i = .int .i64 k) (fun i _ _ => 256 - (intOf i).toNat)
  case atStart => exact ⟨0, by omega, rfl⟩
  case round =>
    obtain ⟨k, hk, rfl⟩ := hrel
    by_cases hlt : k < 256
    · have hc := hT.cell k hlt
      have hbd := skN_bd s.data.toList k (s.size - 1) (by show s.size - 1 + 1 ≤ s.size; omega)
      unfold skipF at hc
      generalize skN s.data.toList (s.size - 1) k = v at hc hbd
      obtain ⟨v1, v2, v3, v4⟩ := hbd
      have v2' : v ≤ (s.size : Int) := v2
      have V4 : Hid (∀ i, i < s.size - 1 → (s.data.toList.getD i 0).toNat = k → v ≤ (s.size : Int) - 1 - i) := v4
      clear v2 v4
      go_wp2
      go_loop [11] (fun x => ∃ d : Nat, 1 ≤ d ∧ (d : Int) ≤ v ∧ x = .int .i64 d) (fun x => (v - intOf x).toNat)
      case atStart => exact ⟨1, by omega, by omega, rfl⟩
      case round =>
        obtain ⟨d, hd1, hd2, rfl⟩ := hrel
        by_cases hdl : (d : Int) < v
        · have hdx : s.size - 1 - d < s.size := by omega
          have hds : d < s.size := by omega
          have hne : ((s[s.size - 1 - d].toNat : Int) == (k : Int)) = false := by
            rw [beq_eq_false_iff_ne]
            intro e
            have := V4.out (s.size - 1 - d) (by omega) (by rw [getD_at s _ hdx]; omega)
            omega
          have hb8 : s[s.size - 1 - d].toNat < 256 := UInt8.toNat_lt _
          go_wp2
          go_round
          case rel => exact ⟨d + 1, by omega, by omega, by go_num⟩
          case measure => simp [intOf]; omega
        · go_wp2
          go_round
          case rel => exact ⟨k + 1, by omega, by go_num⟩
          case measure => simp [intOf]; omega
    · cases hl : lacksB s.data.toList with
      | false =>
        go_wp2_with (go_at_call 10; refine (fwbLacks_any s _ (by omega)).mono ?_; rw [hl]; rintro e w3 ⟨rfl, hb3⟩)
        go_ret
        exact ⟨rfl, Hb.trans (hb3.mono Hb.size)⟩
      | true =>
        have hfl := fill_lacks hl
        go_wp2_with (go_at_call 10; refine (fwbLacks_any s _ (by omega)).mono ?_; rw [hl]; rintro e w3 ⟨rfl, hb3⟩)
        have Hb3 : Below w.heap.size w w3 := Hb.trans (hb3.mono Hb.size)
        have HF : Hid (seenB s.data.toList (fillN s.data.toList) = false) := hfl
        clear hfl hl hb3 hT Hb
        go_loop [12] (fun x => ∃ i : Nat, i ≤ s.size ∧ x = .int .i64 i) (fun x => s.size - (intOf x).toNat)
        case atStart => exact ⟨0, by omega, rfl⟩
        case round =>
          obtain ⟨i, hi, rfl⟩ := hrel
          by_cases hil : i < s.size
          · have hne : ((s[i].toNat : Int) == ((fillN s.data.toList : Nat) : Int)) = false := by
              rw [beq_eq_false_iff_ne]
              intro e
              exact seen_at HF.out i hil (by omega)
            go_wp2
            go_round
            case rel => exact ⟨i + 1, by omega, by go_num⟩
            case measure => simp [intOf]; omega
          · go_wp2
            go_ret
            exact ⟨rfl, Hb3⟩

theorem nonempty_size {s : ByteArray} (h : s.toList.isEmpty = false) : 1 ≤ s.size := by
  have h2 : s.data.toList.length = s.size := rfl
  have h3 : s.data.toList = s.toList := (ByteArray.toList_eq s).symm
  rw [← h2, h3]
  cases hl : s.toList with
  | nil => rw [hl] at h; simp at h
  | cons a b => simp

set_option maxRecDepth 20000 in
set_option maxHeartbeats 400000 in
theorem skip_law (s : ByteArray) (w : World) :
    Calls Try.prog 4 #[.string s] w fun e w' => e = .returned (.bool true) ∧ Below w.heap.size w w' := by
  by_cases hb : (s.size : Int) ≤ 1048576
  · by_cases hc : (s.size : Int) ≤ 4096
    · cases hz : s.toList.isEmpty with
      | false => exact skip_walk s w hz (by omega) (nonempty_size hz)
      | true =>
        go_enter Try.func4, Try.ntmps4
        go_wp2_with (go_at_call 12; refine (zz12_yes s _ (by omega)).mono ?_; rintro e w' ⟨rfl, hw'⟩; have hw2 := hw'.symm; clear hw'; subst hw2)
        go_ret
        exact ⟨rfl, Below.refl _ _⟩
    · go_enter Try.func4, Try.ntmps4
      go_wp2_with (go_at_call 12; refine (zz12_yes s _ (by omega)).mono ?_; rintro e w' ⟨rfl, hw'⟩; have hw2 := hw'.symm; clear hw'; subst hw2)
      go_ret
      exact ⟨rfl, Below.refl _ _⟩
  · go_enter Try.func4, Try.ntmps4
    go_wp2_with (go_at_call 12; refine (zz12_no s _ hb).mono ?_; rintro e w' ⟨rfl, hw'⟩; have hw2 := hw'.symm; clear hw'; subst hw2)
    go_ret
    exact ⟨rfl, Below.refl _ _⟩
end Go.Proofs.Qxb6604104a
