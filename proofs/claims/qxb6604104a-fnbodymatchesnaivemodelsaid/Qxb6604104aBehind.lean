/- THE WALK of the law FnBodyLeavesNoKeyBehind. -/
import Derived.Test.Qxb6604104aMBody
import Derived.OpenShut
namespace Go.Proofs.Qxb6604104a
open Go.RowKit
set_option linter.unusedSimpArgs false
set_option linter.unusedVariables false

set_option maxHeartbeats 400000 in
theorem zz18_yes (s : ByteArray) (a : Option Addr) (m c : Nat) (w : World) (h : (s.size : Int) + (m : Int) ≤ 1048576) :
    Calls Try.prog 18 #[.string s, .slice a m c] w fun e w' => e = .returned (.bool true) ∧ w' = w := by
  go_enter Try.func18, Try.ntmps18
  go_wp2
  go_ret
  exact ⟨rfl, rfl⟩
set_option maxHeartbeats 400000 in
theorem zz18_no (s : ByteArray) (a : Option Addr) (m c : Nat) (w : World) (h : ¬ (s.size : Int) + (m : Int) ≤ 1048576) :
    Calls Try.prog 18 #[.string s, .slice a m c] w fun e w' => e = .returned (.bool false) ∧ w' = w := by
  by_cases h1 : (s.size : Int) ≤ 1048576
  · by_cases h2 : (m : Int) ≤ 1048576
    · go_enter Try.func18, Try.ntmps18
      go_wp2
      go_ret
      exact ⟨rfl, rfl⟩
    · go_enter Try.func18, Try.ntmps18
      go_wp2
      go_ret
      exact ⟨rfl, rfl⟩
  · go_enter Try.func18, Try.ntmps18
    go_wp2
    go_ret
    exact ⟨rfl, rfl⟩

/-- What the masker makes of l, whatever the key. -/
def mk (s : ByteArray) (l : List UInt8) : List UInt8 := if s.toList.isEmpty = true then l else Mask.maskA s.data.toList (fillU s.data.toList) l
theorem mk_len (s : ByteArray) (l : List UInt8) : (mk s l).length = l.length := by
  unfold mk
  cases h : s.toList.isEmpty with
  | true => rfl
  | false =>
    rw [if_neg (by simp)]
    exact Mask.maskA_len _ _ (nonempty_size h) _ l (Nat.le_refl _)
theorem fillU_not_mem {l : List UInt8} (h : lacksB l = true) : fillU l ∉ l := by
  intro hm
  have h2 := fill_lacks h
  unfold seenB at h2
  rw [List.any_eq_false] at h2
  exact h2 _ hm (by rw [fillU_nat]; simp)
theorem mk_no {s : ByteArray} (hl : lacksB s.data.toList = true) (hs : s.toList.isEmpty = false) (l : List UInt8) (j : Nat) : Mask.occ s.data.toList (mk s l) j = false := by
  unfold mk
  rw [if_neg (by simp [hs])]
  exact Mask.no_occ _ _ (nonempty_size hs) (fillU_not_mem hl) _ l (Nat.le_refl _) j
theorem mk_mk {s : ByteArray} (hl : lacksB s.data.toList = true) (l : List UInt8) : mk s (mk s l) = mk s l := by
  cases hs : s.toList.isEmpty with
  | true => unfold mk; simp [hs]
  | false =>
    have h := mk_no hl hs l
    conv => lhs; unfold mk
    rw [if_neg (by simp [hs])]
    exact Mask.maskA_none _ _ (nonempty_size hs) _ h

/-- ZZMaskerBody of an ended body. -/
theorem mb_true (s : ByteArray) (pb : Nat) (l : List UInt8) (w : World) (hsz : s.size ≤ 4096) (hl : l.length ≤ 65536) (hl1 : 1 ≤ l.length) (h1 : HasRow w pb l) :
    Calls Try.prog 16 #[.string s, .slice (some ⟨pb, 0, none⟩) l.length l.length, .bool true] w fun e w' => e = .returned (.int .i64 0) ∧ HasRow w' pb (mk s l) ∧ But pb w w' := by
  cases hs : s.toList.isEmpty with
  | true =>
    refine (mbody_nokey true s _ _ _ w hs).mono ?_
    rintro e w' ⟨rfl, hb⟩
    refine ⟨rfl, ?_, But.of_below hb⟩
    unfold mk
    rw [if_pos hs]
    exact h1.below hb h1.lt
  | false =>
    refine (mbody_any true s pb l w hs hsz (nonempty_size hs) hl hl1 h1).mono ?_
    rintro e w' ⟨h, rfl, hh, hr, hb⟩
    have h0 : h = 0 := hh
    subst h0
    refine ⟨rfl, ?_, hb⟩
    unfold mk
    rw [if_neg (by simp [hs])]
    exact hr
theorem mb_zero (en : Bool) (s : ByteArray) (a : Option Addr) (w : World) (hsz : s.size ≤ 4096) :
    Calls Try.prog 16 #[.string s, .slice a 0 0, .bool en] w fun e w' => e = .returned (.int .i64 0) ∧ Below w.heap.size w w' := by
  cases hs : s.toList.isEmpty with
  | true => exact mbody_nokey en s a 0 0 w hs
  | false => exact mbody_zero en s a w hs hsz (nonempty_size hs)
/-- fwbCloneBytes of a slice of no byte. -/
theorem clone_zero (a : Option Addr) (c : Nat) (w : World) (ha : a = none → c = 0) : Calls Try.prog 14 #[.slice a 0 c] w fun e w' => (∃ a', e = .returned (.slice a' 0 0)) ∧ Below w.heap.size w w' := by
  cases a with
  | none =>
    rw [ha rfl]
    refine (clone_nil w).mono ?_
    rintro e w' ⟨rfl, rfl⟩
    exact ⟨⟨_, rfl⟩, Below.refl _ _⟩
  | some x =>
    refine (clone_some x [] c w (by simp) (fun i hi => by simp at hi)).mono ?_
    rintro e w' ⟨b, rfl, _, _, hb⟩
    exact ⟨⟨_, rfl⟩, hb⟩

set_option maxRecDepth 20000 in
set_option maxHeartbeats 400000 in
theorem behind_zero (s : ByteArray) (a : Option Addr) (c : Nat) (w : World) (ha : a = none → c = 0) (hsz : s.size ≤ 4096) (hlk : lacksB s.data.toList = true) :
    Calls Try.prog 6 #[.string s, .slice a 0 c] w fun e w' => e = .returned (.bool true) ∧ Below w.heap.size w w' := by
  have HL : Hid (lacksB s.data.toList = true) := hlk
  clear hlk
  go_enter Try.func6, Try.ntmps6
  go_wp2_with (go_at_call 18; refine (zz18_yes s a 0 c _ (by omega)).mono ?_; rintro e w' ⟨rfl, hw'⟩; have hw2 := hw'.symm; clear hw'; subst hw2)
  refine (fwbLacks_any s _ (by omega)).mono ?_
  rw [HL.out]
  rintro e w1 ⟨rfl, hb1⟩
  go_wp2_with fail
  refine (clone_zero a c _ ha).mono ?_
  rintro e w2 ⟨⟨a2, rfl⟩, hb2⟩
  go_wp2_with fail
  refine (mb_zero true s a2 _ hsz).mono ?_
  rintro e w3 ⟨rfl, hb3⟩
  have B3 : Below w.heap.size w w3 := hb1.trans ((hb2.mono hb1.size).trans (hb3.mono (Nat.le_trans hb1.size hb2.size)))
  clear hb1 hb2 hb3
  cases hs : s.toList.isEmpty with
  | true =>
    go_wp2_with fail
    refine (clone_zero a2 0 _ (fun _ => rfl)).mono ?_
    rintro e w4 ⟨⟨a4, rfl⟩, hb4⟩
    go_wp2_with fail
    refine (mb_zero true s a2 _ hsz).mono ?_
    rintro e w5 ⟨rfl, hb5⟩
    go_wp2_with fail
    refine (equal_empty a2 a4 0 0 _).mono ?_
    rintro e w6 ⟨rfl, hb6⟩
    go_wp2
    go_ret
    have s3 := B3.size
    have s4 := hb4.size
    have s5 := hb5.size
    exact ⟨rfl, B3.trans ((hb4.mono (by omega)).trans ((hb5.mono (by omega)).trans (hb6.mono (by omega))))⟩
  | false =>
    have hs1 := nonempty_size hs
    have hse : ¬ s = ByteArray.empty := fun e => by rw [e] at hs1; simp at hs1
    go_wp2_with fail
    refine wp_loop_rounds 1 ?_
    rw [rounds_succ]
    go_wp2_with fail
    refine (clone_zero a2 0 _ (fun _ => rfl)).mono ?_
    rintro e w4 ⟨⟨a4, rfl⟩, hb4⟩
    go_wp2_with fail
    refine (mb_zero true s a2 _ hsz).mono ?_
    rintro e w5 ⟨rfl, hb5⟩
    go_wp2_with fail
    refine (equal_empty a2 a4 0 0 _).mono ?_
    rintro e w6 ⟨rfl, hb6⟩
    go_wp2
    go_ret
    have s3 := B3.size
    have s4 := hb4.size
    have s5 := hb5.size
    exact ⟨rfl, B3.trans ((hb4.mono (by omega)).trans ((hb5.mono (by omega)).trans (hb6.mono (by omega))))⟩

set_option maxRecDepth 20000 in
set_option maxHeartbeats 400000 in
theorem behind_row (s : ByteArray) (x : Addr) (l : List UInt8) (c : Nat) (w : World) (hx : ∀ i, i < l.length → w.cell? (x.add i) = some (.int .u8 ((l.getD i 0).toNat : Int))) (hl1 : 1 ≤ l.length) (hl : l.length ≤ 65536)
    (hsz : s.size ≤ 4096) (hlk : lacksB s.data.toList = true) :
    Calls Try.prog 6 #[.string s, .slice (some x) l.length c] w fun e w' => e = .returned (.bool true) ∧ Below w.heap.size w w' := by
  have HL : Hid (lacksB s.data.toList = true) := hlk
  have HX : Hid (∀ i, i < l.length → w.cell? (x.add i) = some (.int .u8 ((l.getD i 0).toNat : Int))) := hx
  clear hlk hx
  go_enter Try.func6, Try.ntmps6
  go_wp2_with (go_at_call 18; refine (zz18_yes s (some x) l.length c _ (by omega)).mono ?_; rintro e w' ⟨rfl, hw'⟩; have hw2 := hw'.symm; clear hw'; subst hw2)
  refine (fwbLacks_any s _ (by omega)).mono ?_
  rw [HL.out]
  rintro e w1 ⟨rfl, hb1⟩
  go_wp2_with fail
  refine (clone_some x l c _ (by omega) (fun i hi => by rw [hb1.cell (block_lt_of_cell (HX.out i hi))]; exact HX.out i hi)).mono ?_
  rintro e w2 ⟨b, rfl, hbb, hr2, hb2⟩
  go_wp2_with fail
  refine (mb_true s b l _ hsz hl hl1 hr2).mono ?_
  rintro e w3 ⟨rfl, hr3, hb3⟩
  have s1 := hb1.size
  have s2 := hb2.size
  have B3 : Below w.heap.size w w3 := But.below (hb1.trans (hb2.mono s1)) hb3 (by omega) (by omega)
  have hML := mk_len s l
  have HM : Hid ((mk s l).length = l.length) := hML
  have CM : Hid (∀ W i, HasRow W b (mk s l) → i + s.size ≤ l.length → s.toList.isEmpty = false → Calls Try.prog 19 #[.slice (some ⟨b, 0, none⟩) l.length l.length, .int .i64 (i : Int), .string s] W fun e w' => e = .returned (.bool false) ∧ Below W.heap.size W w') := by
    intro W i hW hi hs
    have h := match_any b l.length i (mk s l) s W (by omega) (by omega) hW
    rw [hML, mk_no HL.out hs] at h
    exact h
  have CC : Hid (∀ W, HasRow W b (mk s l) → Calls Try.prog 14 #[.slice (some ⟨b, 0, none⟩) l.length l.length] W fun e w' => Cloned W (mk s l) e w') := by
    intro W hW
    have h := clone_some ⟨b, 0, none⟩ (mk s l) l.length W (by omega) (fun i hi => by rw [Addr.add_mid, Nat.zero_add]; exact hW.cell i hi)
    rw [hML] at h
    exact h
  have CB : Hid (∀ W, HasRow W b (mk s l) → Calls Try.prog 16 #[.string s, .slice (some ⟨b, 0, none⟩) l.length l.length, .bool true] W fun e w' => e = .returned (.int .i64 0) ∧ HasRow w' b (mk s l) ∧ But b W w') := by
    intro W hW
    have h := mb_true s b (mk s l) W hsz (by omega) (by omega) hW
    rw [hML, mk_mk HL.out] at h
    exact h
  have CE : Hid (∀ W b2, HasRow W b (mk s l) → HasRow W b2 (mk s l) → Calls Try.prog 17 #[.slice (some ⟨b, 0, none⟩) l.length l.length, .slice (some ⟨b2, 0, none⟩) l.length l.length] W fun e w' => e = .returned (.bool true) ∧ Below W.heap.size W w') := by
    intro W b2 h4 h5
    have h := equal_same b b2 l.length l.length (mk s l) W (by omega) h4 h5
    rw [hML] at h
    exact h
  clear hML hb1 hb2 hb3 hr2
  cases hs : s.toList.isEmpty with
  | true =>
    go_wp2_with fail
    refine (CC.out _ hr3).mono ?_
    rintro e w4 ⟨b2, rfl, hb2, hr4, hb4⟩
    rw [HM.out]
    go_wp2_with fail
    refine (CB.out _ (hr3.below hb4 hr3.lt)).mono ?_
    rintro e w5 ⟨rfl, hr5, hb5⟩
    have hn : b2 ≠ b := by have := hr3.lt; omega
    go_wp2_with fail
    refine (CE.out _ b2 hr5 (hr4.but hb5 hn)).mono ?_
    rintro e w6 ⟨rfl, hb6⟩
    go_wp2
    go_ret
    have t3 := B3.size
    have t4 := hb4.size
    have t5 := hb5.size
    exact ⟨rfl, (But.below (B3.trans (hb4.mono (by omega))) hb5 (by omega) (by omega)).trans (hb6.mono (by omega))⟩
  | false =>
    have hs1 := nonempty_size hs
    have hse : ¬ s = ByteArray.empty := fun e => by rw [e] at hs1; simp at hs1
    go_wp2_with fail
    go_loopw [5] (fun v wr => ∃ i : Nat, i ≤ l.length ∧ v = .int .i64 i ∧ HasRow wr b (mk s l) ∧ Below w.heap.size w wr) (fun v _ => l.length + 1 - (intOf v).toNat)
    case atStart => exact ⟨0, by omega, rfl, hr3, B3⟩
    case round =>
      clear hr3 B3
      obtain ⟨i, hi, rfl, hr3, B3⟩ := hrel
      have t3 := B3.size
      by_cases hil : i + s.size ≤ l.length
      · go_wp2_with (go_at_call 19; refine (CM.out _ i hr3 hil hs).mono ?_; rintro e w4 ⟨rfl, hb4⟩)
        go_roundw
        case rel => exact ⟨i + 1, by omega, by go_num, hr3.below hb4 hr3.lt, B3.trans (hb4.mono (by omega))⟩
        case measure => simp [intOf]; omega
      · go_wp2_with fail
        refine (CC.out _ hr3).mono ?_
        rintro e w4 ⟨b2, rfl, hb2, hr4, hb4⟩
        rw [HM.out]
        go_wp2_with fail
        refine (CB.out _ (hr3.below hb4 hr3.lt)).mono ?_
        rintro e w5 ⟨rfl, hr5, hb5⟩
        have hn : b2 ≠ b := by have := hr3.lt; omega
        go_wp2_with fail
        refine (CE.out _ b2 hr5 (hr4.but hb5 hn)).mono ?_
        rintro e w6 ⟨rfl, hb6⟩
        go_wp2
        go_ret
        have t3 := B3.size
        have t4 := hb4.size
        have t5 := hb5.size
        exact ⟨rfl, (But.below (B3.trans (hb4.mono (by omega))) hb5 (by omega) (by omega)).trans (hb6.mono (by omega))⟩

/-! ### A slice of bytes that came in, as a list of bytes -/
def SliceIn (w : World) (a : Option Addr) (len cap : Nat) (zs : List Int) : Prop :=
  (a = none ∧ len = 0 ∧ cap = 0 ∧ zs = []) ∨
  ∃ x, a = some x ∧ len ≤ cap ∧ cap ≤ maxLen ∧ zs.length = cap ∧ (∀ i, i < zs.length → w.cell? (x.add i) = some (.int .u8 (zs.getD i 0))) ∧ ∀ n ∈ zs, (Lit.int .u8 n).wf = true
theorem SliceIn.row {w : World} {a : Option Addr} {len cap : Nat} {zs : List Int} (h : SliceIn w a len cap zs) (hl : 1 ≤ len) :
    ∃ x l, a = some x ∧ List.length l = len ∧ ∀ i, i < len → w.cell? (x.add i) = some (.int .u8 ((l.getD i (0 : UInt8)).toNat : Int)) := by
  rcases h with ⟨_, h2, _⟩ | ⟨x, rfl, h1, h2, h3, h4, h5⟩
  · omega
  · refine ⟨x, (zs.take len).map (fun z => z.toNat.toUInt8), rfl, by simp; omega, fun i hi => ?_⟩
    rw [h4 i (by omega)]
    have hz : zs.getD i 0 ∈ zs := by
      rw [List.getD_eq_getElem?_getD, List.getElem?_eq_getElem (by omega)]
      exact List.getElem_mem _
    have hb := bounds_u8 (h5 _ hz)
    have e : ((zs.take len).map (fun z => z.toNat.toUInt8)).getD i 0 = (zs.getD i 0).toNat.toUInt8 := by
      rw [List.getD_eq_getElem?_getD, List.getD_eq_getElem?_getD, List.getElem?_map, List.getElem?_take_of_lt hi, List.getElem?_eq_getElem (by omega)]
      rfl
    rw [e]
    congr 2
    generalize zs.getD i 0 = z at *
    have e2 : z.toNat.toUInt8.toNat = z.toNat := by
      simp [Nat.toUInt8]
      omega
    rw [e2]
    omega
theorem SliceIn.nil_cap {w : World} {a : Option Addr} {len cap : Nat} {zs : List Int} (h : SliceIn w a len cap zs) : a = none → cap = 0 := by
  intro e
  rcases h with ⟨_, _, h3, _⟩ | ⟨x, h1, _⟩
  · exact h3
  · rw [e] at h1; cases h1

set_option maxRecDepth 20000 in
set_option maxHeartbeats 400000 in
theorem behind_law (s : ByteArray) (a : Option Addr) (len cap : Nat) (zs : List Int) (w : World) (h : SliceIn w a len cap zs) :
    Calls Try.prog 6 #[.string s, .slice a len cap] w fun e w' => e = .returned (.bool true) ∧ Below w.heap.size w w' := by
  by_cases h1 : (s.size : Int) + (len : Int) ≤ 1048576
  · by_cases h2 : (s.size : Int) ≤ 4096
    · by_cases h3 : (len : Int) ≤ 65536
      · cases hl : lacksB s.data.toList with
        | true =>
          by_cases h0 : len = 0
          · subst h0
            exact behind_zero s a cap w h.nil_cap (by omega) hl
          · obtain ⟨x, l, rfl, rfl, hx⟩ := h.row (by omega)
            exact behind_row s x l cap w hx (by omega) (by omega) (by omega) hl
        | false =>
          have HL : Hid (lacksB s.data.toList = false) := hl
          clear hl h
          go_enter Try.func6, Try.ntmps6
          go_wp2_with (go_at_call 18; refine (zz18_yes s a len cap _ h1).mono ?_; rintro e w' ⟨rfl, hw'⟩; have hw2 := hw'.symm; clear hw'; subst hw2)
          refine (fwbLacks_any s _ (by omega)).mono ?_
          rw [HL.out]
          rintro e w1 ⟨rfl, hb1⟩
          go_wp2
          go_ret
          exact ⟨rfl, hb1⟩
      · clear h
        go_enter Try.func6, Try.ntmps6
        go_wp2_with (go_at_call 18; refine (zz18_yes s a len cap _ h1).mono ?_; rintro e w' ⟨rfl, hw'⟩; have hw2 := hw'.symm; clear hw'; subst hw2)
        go_ret
        exact ⟨rfl, Below.refl _ _⟩
    · clear h
      go_enter Try.func6, Try.ntmps6
      go_wp2_with (go_at_call 18; refine (zz18_yes s a len cap _ h1).mono ?_; rintro e w' ⟨rfl, hw'⟩; have hw2 := hw'.symm; clear hw'; subst hw2)
      go_ret
      exact ⟨rfl, Below.refl _ _⟩
  · clear h
    go_enter Try.func6, Try.ntmps6
    go_wp2_with (go_at_call 18; refine (zz18_no s a len cap _ h1).mono ?_; rintro e w' ⟨rfl, hw'⟩; have hw2 := hw'.symm; clear hw'; subst hw2)
    go_ret
    exact ⟨rfl, Below.refl _ _⟩
end Go.Proofs.Qxb6604104a
