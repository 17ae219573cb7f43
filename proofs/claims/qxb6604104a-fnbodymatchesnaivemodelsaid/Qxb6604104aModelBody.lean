/- THE WALK of fwbModelBody. -/
import Derived.Test.Qxb6604104aModel
namespace Go.Proofs.Qxb6604104a
open Go.RowKit
set_option linter.unusedSimpArgs false
set_option linter.unusedVariables false

theorem inv_miss {key cur M : List UInt8} {f : UInt8} {i : Nat} (hk : 1 ≤ key.length) (hi : i < cur.length) (h : cur.take i ++ Mask.maskA key f (cur.drop i) = M) (ho : Mask.occ key cur i = false) :
    cur.take (i + 1) ++ Mask.maskA key f (cur.drop (i + 1)) = M := by
  have e : cur.drop i = cur[i] :: cur.drop (i + 1) := List.drop_eq_getElem_cons hi
  have ho2 : Mask.occ key (cur[i] :: cur.drop (i + 1)) 0 = false := by
    rw [← e, Mask.occ_drop]; simpa using ho
  rw [e, Mask.maskA_miss key f hk _ _ ho2] at h
  rw [List.take_succ_eq_append_getElem hi, List.append_assoc]
  exact h

set_option maxRecDepth 20000 in
set_option maxHeartbeats 400000 in
theorem model_nokey (en : Bool) (s : ByteArray) (a : Option Addr) (n c : Nat) (w : World) (hs : ((s.size : Int) == 0) = true) :
    Calls Try.prog 15 #[.string s, .slice a n c, .bool en] w fun e w' => e = .returned (.int .i64 0) ∧ w' = w := by
  go_enter Try.func15, Try.ntmps15
  go_wp2
  go_ret
  exact ⟨rfl, rfl⟩

set_option maxRecDepth 20000 in
set_option maxHeartbeats 400000 in
theorem model_zero (en : Bool) (s : ByteArray) (a : Option Addr) (w : World) (hs : s.toList.isEmpty = false) (hsz : s.size ≤ 4096) (hs1 : 1 ≤ s.size) :
    Calls Try.prog 15 #[.string s, .slice a 0 0, .bool en] w fun e w' => e = .returned (.int .i64 0) ∧ Below w.heap.size w w' := by
  have hse : ¬ s = ByteArray.empty := fun e => by rw [e] at hs1; simp at hs1
  have hn0 : ((s.size : Int) == 0) = false := beq_eq_false_iff_ne.2 (by omega)
  go_enter Try.func15, Try.ntmps15
  go_wp2_with fail
  refine (fwbFill_any s _ hs hsz hs1).mono ?_
  rintro e w1 ⟨rfl, hb1⟩
  go_wp2
  refine wp_loop_rounds 1 ?_
  rw [rounds_succ]
  cases en with
  | true =>
    go_wp2
    go_ret
    exact ⟨rfl, hb1⟩
  | false =>
    by_cases h2 : (0 : Int) < (s.size : Int) - 1
    · go_wp2
      refine wp_loop_rounds 1 ?_
      rw [rounds_succ]
      go_wp2
      go_ret
      exact ⟨rfl, hb1⟩
    · go_wp2
      refine wp_loop_rounds 1 ?_
      rw [rounds_succ]
      go_wp2
      go_ret
      exact ⟨rfl, hb1⟩

set_option maxRecDepth 20000 in
set_option maxHeartbeats 400000 in
theorem model_any (en : Bool) (s : ByteArray) (pb : Nat) (l : List UInt8) (w : World) (hs : s.toList.isEmpty = false) (hsz : s.size ≤ 4096) (hs1 : 1 ≤ s.size) (hl : l.length ≤ 65536) (hl1 : 1 ≤ l.length) (h1 : HasRow w pb l) :
    Calls Try.prog 15 #[.string s, .slice (some ⟨pb, 0, none⟩) l.length l.length, .bool en] w fun e w' => BodyEnd en s l pb w e w' := by
  have hse : ¬ s = ByteArray.empty := fun e => by rw [e] at hs1; simp at hs1
  have hn0 : ((s.size : Int) == 0) = false := beq_eq_false_iff_ne.2 (by omega)
  have hfu : Hid ((fillU s.data.toList).toNat = fillN s.data.toList) := fillU_nat s.data.toList
  go_enter Try.func15, Try.ntmps15
  go_wp2_with fail
  refine (fwbFill_any s _ hs hsz hs1).mono ?_
  rintro e w1 ⟨rfl, hb1⟩
  have g0 : HasRow w1 pb l := h1.below hb1 h1.lt
  have g2 : But pb w w1 := But.of_below hb1
  clear h1 hb1
  go_wp2
  go_loopw [9, 10] (fun x _ wr => ∃ (i : Nat) (cur : List UInt8), i ≤ l.length ∧ x = .int .i64 i ∧ Hid (cur.length = l.length) ∧
      Hid (cur.take i ++ Mask.maskA s.data.toList (fillU s.data.toList) (cur.drop i) = Mask.maskA s.data.toList (fillU s.data.toList) l) ∧ HasRow wr pb cur ∧ But pb w wr)
    (fun x _ _ => l.length - (intOf x).toNat)
  case atStart => exact ⟨0, l, by omega, rfl, rfl, by simp [Hid], g0, g2⟩
  case round =>
    clear g0 g2
    obtain ⟨i, cur, hi, rfl, hcl, HI, g0, g2⟩ := hrel
    by_cases hil : i + s.size ≤ l.length
    · have CM : Hid (Calls Try.prog 19 #[.slice (some ⟨pb, 0, none⟩) l.length l.length, .int .i64 (i : Int), .string s] wr fun e w' => e = .returned (.bool (Mask.occ s.data.toList cur i)) ∧ Below wr.heap.size wr w') := by
        have h := match_any pb l.length i cur s wr (by rw [hcl.out]; omega) (by rw [hcl.out]; omega) g0
        rw [hcl.out] at h
        exact h
      cases ho : Mask.occ s.data.toList cur i with
      | true =>
        rw [ho] at CM
        have HO : Hid (Mask.occ s.data.toList cur i = true) := ho
        clear ho
        go_wp2_with (go_at_call 19; refine CM.out.mono ?_; rintro e w4 ⟨rfl, hb4⟩)
        have k0 : HasRow w4 pb (fillAt cur i 0 (fillU s.data.toList)) := by rw [fillAt_zero]; exact g0.below hb4 g0.lt
        have k2 : But pb w w4 := g2.trans (But.of_below hb4)
        have HI2 : Hid ((fillAt cur i s.size (fillU s.data.toList)).take (i + s.size) ++ Mask.maskA s.data.toList (fillU s.data.toList) ((fillAt cur i s.size (fillU s.data.toList)).drop (i + s.size)) = Mask.maskA s.data.toList (fillU s.data.toList) l) := by
          have h := inv_hit (j := 0) hs1 HI.out (by simpa using HO.out) (fun t ht => by omega)
          show _ = _
          simpa using h
        have hl2 : Hid ((fillAt cur i s.size (fillU s.data.toList)).length = l.length) := (fillAt_len cur i s.size (fillU s.data.toList) (by rw [hcl.out]; exact hil)).trans hcl.out
        clear HI HO CM g0 g2 hb4
        go_loopw [10] (fun x wr => ∃ k : Nat, k ≤ s.size ∧ x = .int .i64 k ∧ HasRow wr pb (fillAt cur i k (fillU s.data.toList)) ∧ But pb w wr) (fun x _ => s.size - (intOf x).toNat)
        case atStart => exact ⟨0, by omega, rfl, k0, k2⟩
        case round =>
          clear k0 k2
          obtain ⟨k, hk, rfl, k0, k2⟩ := hrel
          by_cases hks : k < s.size
          · have hlen := fillAt_len cur i k (fillU s.data.toList) (by rw [hcl.out]; omega)
            have d1 := k0.cell (i + k) (by rw [hlen, hcl.out]; omega)
            have d2 := k0.frozen (i + k)
            have R1 := k0.set (i + k) (fillU s.data.toList)
            rw [fillAt_succ cur i k _ (by rw [hcl.out]; omega), hfu.out] at R1
            have R3 := k2.set (i + k) (.int .u8 (fillN s.data.toList : Nat))
            clear k0 k2 hlen
            generalize ((fillAt cur i k (fillU s.data.toList)).getD (i + k) 0).toNat = v at *
            go_wp2
            go_roundw
            case rel => exact ⟨k + 1, by omega, by go_num, R1, R3⟩
            case measure => simp [intOf]; omega
          · have hkn : k = s.size := by omega
            subst hkn
            go_wp2
            go_roundw
            case rel => exact ⟨i + s.size, fillAt cur i s.size (fillU s.data.toList), hil, by go_num, hl2, HI2, k0, k2⟩
            case measure => simp [intOf]; omega
      | false =>
        rw [ho] at CM
        have HI2 : Hid (cur.take (i + 1) ++ Mask.maskA s.data.toList (fillU s.data.toList) (cur.drop (i + 1)) = Mask.maskA s.data.toList (fillU s.data.toList) l) := inv_miss hs1 (by rw [hcl.out]; omega) HI.out ho
        clear ho
        go_wp2_with (go_at_call 19; refine CM.out.mono ?_; rintro e w4 ⟨rfl, hb4⟩)
        go_roundw
        case rel => exact ⟨i + 1, cur, by omega, by go_num, hcl, HI2, g0.below hb4 g0.lt, g2.trans (But.of_below hb4)⟩
        case measure => simp [intOf]; omega
    · have hM : cur = Mask.maskA s.data.toList (fillU s.data.toList) l := inv_done hs1 HI.out (fun j hj => Mask.occ_short hs1 (by rw [hcl.out]; show l.length < j + s.size; omega))
      obtain ⟨M, HM⟩ : ∃ M, Hid (Mask.maskA s.data.toList (fillU s.data.toList) l = M) := ⟨_, rfl⟩
      have hML : Hid (M.length = l.length) := by show _ = _; rw [← HM.out]; exact Mask.maskA_len _ _ hs1 _ l (Nat.le_refl _)
      rw [hM, HM.out] at g0
      clear hM HI hcl
      cases en with
      | true =>
        go_wp2
        go_ret
        exact ⟨0, rfl, rfl, by rw [HM.out]; exact g0, g2⟩
      | false =>
        by_cases hlt : (l.length : Int) < (s.size : Int) - 1
        · go_wp2
          go_loopw [11] (fun x wr => ∃ k : Nat, k ≤ min (s.size - 1) l.length ∧ x = .int .i64 k ∧ HasRow wr pb M ∧ But pb w wr ∧ Hid (∀ k', k < k' → k' ≤ min (s.size - 1) l.length → endB s.data.toList M k' = false)) (fun x _ => (intOf x).toNat)
          case atStart => exact ⟨min (s.size - 1) l.length, Nat.le_refl _, by go_num, g0, g2, fun k' h3 h4 => by omega⟩
          case round =>
            clear g0 g2
            obtain ⟨k, hk, rfl, g0, g2, HN⟩ := hrel
            by_cases hk1 : 1 ≤ k
            · have CE : Hid (Calls Try.prog 22 #[.slice (some ⟨pb, 0, none⟩) l.length l.length, .int .i64 (k : Int), .string s] wr fun e w' => e = .returned (.bool (endB s.data.toList M k)) ∧ Below wr.heap.size wr w') := by
                have h := ends_any pb l.length k M s wr (by rw [hML.out]; omega) (by rw [hML.out]; omega) (by omega) g0
                rw [hML.out] at h
                exact h
              cases he : endB s.data.toList M k with
              | true =>
                rw [he] at CE
                have HH : Hid (HeldIs s.data.toList M k) := ⟨by rw [hML.out]; exact hk, fun _ => he, fun k' h3 h4 => HN.out k' h3 (by rw [hML.out] at h4; exact h4)⟩
                clear he
                go_wp2_with (go_at_call 22; refine CE.out.mono ?_; rintro e w5 ⟨rfl, hb5⟩)
                go_ret
                exact ⟨k, rfl, (by rw [HM.out]; exact HH.out), by rw [HM.out]; exact g0.below hb5 g0.lt, g2.trans (But.of_below hb5)⟩
              | false =>
                rw [he] at CE
                have HE : Hid (endB s.data.toList M k = false) := he
                clear he
                go_wp2_with (go_at_call 22; refine CE.out.mono ?_; rintro e w5 ⟨rfl, hb5⟩)
                go_roundw
                case rel => exact ⟨k - 1, by omega, by go_num, g0.below hb5 g0.lt, g2.trans (But.of_below hb5), fun k' h3 h4 => by
                  by_cases e : k' = k
                  · subst e; exact HE.out
                  · exact HN.out k' (by omega) h4⟩
                case measure => simp [intOf]; omega
            · have hk0 : k = 0 := by omega
              subst hk0
              have HH : Hid (HeldIs s.data.toList M 0) := ⟨by omega, fun h => by omega, fun k' h3 h4 => HN.out k' h3 (by rw [hML.out] at h4; exact h4)⟩
              go_wp2
              go_ret
              exact ⟨0, rfl, (by rw [HM.out]; exact HH.out), by rw [HM.out]; exact g0, g2⟩
        · go_wp2
          go_loopw [11] (fun x wr => ∃ k : Nat, k ≤ min (s.size - 1) l.length ∧ x = .int .i64 k ∧ HasRow wr pb M ∧ But pb w wr ∧ Hid (∀ k', k < k' → k' ≤ min (s.size - 1) l.length → endB s.data.toList M k' = false)) (fun x _ => (intOf x).toNat)
          case atStart => exact ⟨min (s.size - 1) l.length, Nat.le_refl _, by go_num, g0, g2, fun k' h3 h4 => by omega⟩
          case round =>
            clear g0 g2
            obtain ⟨k, hk, rfl, g0, g2, HN⟩ := hrel
            by_cases hk1 : 1 ≤ k
            · have CE : Hid (Calls Try.prog 22 #[.slice (some ⟨pb, 0, none⟩) l.length l.length, .int .i64 (k : Int), .string s] wr fun e w' => e = .returned (.bool (endB s.data.toList M k)) ∧ Below wr.heap.size wr w') := by
                have h := ends_any pb l.length k M s wr (by rw [hML.out]; omega) (by rw [hML.out]; omega) (by omega) g0
                rw [hML.out] at h
                exact h
              cases he : endB s.data.toList M k with
              | true =>
                rw [he] at CE
                have HH : Hid (HeldIs s.data.toList M k) := ⟨by rw [hML.out]; exact hk, fun _ => he, fun k' h3 h4 => HN.out k' h3 (by rw [hML.out] at h4; exact h4)⟩
                clear he
                go_wp2_with (go_at_call 22; refine CE.out.mono ?_; rintro e w5 ⟨rfl, hb5⟩)
                go_ret
                exact ⟨k, rfl, (by rw [HM.out]; exact HH.out), by rw [HM.out]; exact g0.below hb5 g0.lt, g2.trans (But.of_below hb5)⟩
              | false =>
                rw [he] at CE
                have HE : Hid (endB s.data.toList M k = false) := he
                clear he
                go_wp2_with (go_at_call 22; refine CE.out.mono ?_; rintro e w5 ⟨rfl, hb5⟩)
                go_roundw
                case rel => exact ⟨k - 1, by omega, by go_num, g0.below hb5 g0.lt, g2.trans (But.of_below hb5), fun k' h3 h4 => by
                  by_cases e : k' = k
                  · subst e; exact HE.out
                  · exact HN.out k' (by omega) h4⟩
                case measure => simp [intOf]; omega
            · have hk0 : k = 0 := by omega
              subst hk0
              have HH : Hid (HeldIs s.data.toList M 0) := ⟨by omega, fun h => by omega, fun k' h3 h4 => HN.out k' h3 (by rw [hML.out] at h4; exact h4)⟩
              go_wp2
              go_ret
              exact ⟨0, rfl, (by rw [HM.out]; exact HH.out), by rw [HM.out]; exact g0, g2⟩
end Go.Proofs.Qxb6604104a
