/- THE WALK of the law FnBodyMatchesNaiveModel. -/
import Derived.Test.Qxb6604104aModelBody
namespace Go.Proofs.Qxb6604104a
open Go.RowKit
set_option linter.unusedSimpArgs false
set_option linter.unusedVariables false

set_option maxHeartbeats 400000 in
theorem zz13_yes (s : ByteArray) (a : Option Addr) (m c : Nat) (en : Bool) (w : World) (h : (s.size : Int) + (m : Int) ≤ 1048576) :
    Calls Try.prog 13 #[.string s, .slice a m c, .bool en] w fun e w' => e = .returned (.bool true) ∧ w' = w := by
  go_enter Try.func13, Try.ntmps13
  go_wp2
  go_ret
  exact ⟨rfl, rfl⟩
set_option maxHeartbeats 400000 in
theorem zz13_no (s : ByteArray) (a : Option Addr) (m c : Nat) (en : Bool) (w : World) (h : ¬ (s.size : Int) + (m : Int) ≤ 1048576) :
    Calls Try.prog 13 #[.string s, .slice a m c, .bool en] w fun e w' => e = .returned (.bool false) ∧ w' = w := by
  by_cases h1 : (s.size : Int) ≤ 1048576
  · by_cases h2 : (m : Int) ≤ 1048576
    · go_enter Try.func13, Try.ntmps13
      go_wp2
      go_ret
      exact ⟨rfl, rfl⟩
    · go_enter Try.func13, Try.ntmps13
      go_wp2
      go_ret
      exact ⟨rfl, rfl⟩
  · go_enter Try.func13, Try.ntmps13
    go_wp2
    go_ret
    exact ⟨rfl, rfl⟩

/-- What both sides answer: the held count and the bytes. -/
def heldK (en : Bool) (s : ByteArray) (l : List UInt8) (h : Nat) : Prop := if s.toList.isEmpty = true then h = 0 else HeldOk en s.data.toList (Mask.maskA s.data.toList (fillU s.data.toList) l) h
theorem heldK.one {en : Bool} {s : ByteArray} {l : List UInt8} {a b : Nat} (ha : heldK en s l a) (hb : heldK en s l b) : a = b := by
  unfold heldK at ha hb
  cases hs : s.toList.isEmpty with
  | true => rw [if_pos hs] at ha hb; omega
  | false =>
    rw [if_neg (by simp [hs])] at ha hb
    cases en with
    | true =>
      have h1 : a = 0 := ha
      have h2 : b = 0 := hb
      omega
    | false => exact HeldIs.one ha hb
def SideEnd (en : Bool) (s : ByteArray) (l : List UInt8) (pb : Nat) (w : World) (e : Ending) (w' : World) : Prop :=
  ∃ h : Nat, e = .returned (.int .i64 (h : Int)) ∧ heldK en s l h ∧ HasRow w' pb (mk s l) ∧ But pb w w'
theorem side_of_body {en : Bool} {s : ByteArray} {l : List UInt8} {pb : Nat} {w : World} {e : Ending} {w' : World} (hs : s.toList.isEmpty = false) (h : BodyEnd en s l pb w e w') : SideEnd en s l pb w e w' := by
  obtain ⟨h, he, hh, hr, hb⟩ := h
  refine ⟨h, he, ?_, ?_, hb⟩
  · unfold heldK; rw [if_neg (by simp [hs])]; exact hh
  · unfold mk; rw [if_neg (by simp [hs])]; exact hr
theorem side_of_nokey {en : Bool} {s : ByteArray} {l : List UInt8} {pb : Nat} {w w' : World} (hs : s.toList.isEmpty = true) (hr : HasRow w pb l) (hb : Below w.heap.size w w') : SideEnd en s l pb w (.returned (.int .i64 0)) w' := by
  refine ⟨0, rfl, ?_, ?_, But.of_below hb⟩
  · unfold heldK; rw [if_pos hs]
  · unfold mk; rw [if_pos hs]; exact hr.below hb hr.lt

theorem size_zero {s : ByteArray} (h : s.toList.isEmpty = true) : ((s.size : Int) == 0) = true := by
  have h2 : s.data.toList.length = s.size := rfl
  rw [← ByteArray.toList_eq] at h2
  rw [List.isEmpty_iff] at h
  rw [h] at h2
  rw [← h2]; rfl
theorem body_side (en : Bool) (s : ByteArray) (pb : Nat) (l : List UInt8) (w : World) (hsz : s.size ≤ 4096) (hl : l.length ≤ 65536) (hl1 : 1 ≤ l.length) (h1 : HasRow w pb l) :
    Calls Try.prog 16 #[.string s, .slice (some ⟨pb, 0, none⟩) l.length l.length, .bool en] w fun e w' => SideEnd en s l pb w e w' := by
  cases hs : s.toList.isEmpty with
  | true =>
    refine (mbody_nokey en s _ _ _ w hs).mono ?_
    rintro e w' ⟨rfl, hb⟩
    exact side_of_nokey hs h1 hb
  | false => exact (mbody_any en s pb l w hs hsz (nonempty_size hs) hl hl1 h1).mono (fun e w' h => side_of_body hs h)
theorem model_side (en : Bool) (s : ByteArray) (pb : Nat) (l : List UInt8) (w : World) (hsz : s.size ≤ 4096) (hl : l.length ≤ 65536) (hl1 : 1 ≤ l.length) (h1 : HasRow w pb l) :
    Calls Try.prog 15 #[.string s, .slice (some ⟨pb, 0, none⟩) l.length l.length, .bool en] w fun e w' => SideEnd en s l pb w e w' := by
  cases hs : s.toList.isEmpty with
  | true =>
    refine (model_nokey en s _ _ _ w (size_zero hs)).mono ?_
    rintro e w' ⟨rfl, rfl⟩
    exact side_of_nokey hs h1 (Below.refl _ _)
  | false => exact (model_any en s pb l w hs hsz (nonempty_size hs) hl hl1 h1).mono (fun e w' h => side_of_body hs h)
theorem model_none (en : Bool) (s : ByteArray) (a : Option Addr) (w : World) (hsz : s.size ≤ 4096) :
    Calls Try.prog 15 #[.string s, .slice a 0 0, .bool en] w fun e w' => e = .returned (.int .i64 0) ∧ Below w.heap.size w w' := by
  cases hs : s.toList.isEmpty with
  | true =>
    refine (model_nokey en s _ _ _ w (size_zero hs)).mono ?_
    rintro e w' ⟨rfl, rfl⟩
    exact ⟨rfl, Below.refl _ _⟩
  | false => exact model_zero en s a w hs hsz (nonempty_size hs)

set_option maxRecDepth 20000 in
set_option maxHeartbeats 400000 in
theorem naive_zero (s : ByteArray) (a : Option Addr) (c : Nat) (en : Bool) (w : World) (ha : a = none → c = 0) (hsz : s.size ≤ 4096) :
    Calls Try.prog 5 #[.string s, .slice a 0 c, .bool en] w fun e w' => e = .returned (.bool true) ∧ Below w.heap.size w w' := by
  go_enter Try.func5, Try.ntmps5
  go_wp2_with (go_at_call 13; refine (zz13_yes s a 0 c en _ (by omega)).mono ?_; rintro e w' ⟨rfl, hw'⟩; have hw2 := hw'.symm; clear hw'; subst hw2)
  refine (clone_zero a c _ ha).mono ?_
  rintro e w2 ⟨⟨a2, rfl⟩, hb2⟩
  go_wp2_with fail
  refine (clone_zero a2 0 _ (fun _ => rfl)).mono ?_
  rintro e w3 ⟨⟨a3, rfl⟩, hb3⟩
  go_wp2_with fail
  refine (model_none en s a3 _ hsz).mono ?_
  rintro e w4 ⟨rfl, hb4⟩
  go_wp2_with fail
  refine (mb_zero en s a2 _ hsz).mono ?_
  rintro e w5 ⟨rfl, hb5⟩
  go_wp2_with fail
  refine (equal_empty a2 a3 0 0 _).mono ?_
  rintro e w6 ⟨rfl, hb6⟩
  go_wp2
  go_ret
  have s2 := hb2.size
  have s3 := hb3.size
  have s4 := hb4.size
  have s5 := hb5.size
  exact ⟨rfl, hb2.trans ((hb3.mono (by omega)).trans ((hb4.mono (by omega)).trans ((hb5.mono (by omega)).trans (hb6.mono (by omega)))))⟩

set_option maxRecDepth 20000 in
set_option maxHeartbeats 400000 in
theorem naive_row (s : ByteArray) (x : Addr) (l : List UInt8) (c : Nat) (en : Bool) (w : World) (hx : ∀ i, i < l.length → w.cell? (x.add i) = some (.int .u8 ((l.getD i 0).toNat : Int))) (hl1 : 1 ≤ l.length) (hl : l.length ≤ 65536)
    (hsz : s.size ≤ 4096) :
    Calls Try.prog 5 #[.string s, .slice (some x) l.length c, .bool en] w fun e w' => e = .returned (.bool true) ∧ Below w.heap.size w w' := by
  have HX : Hid (∀ i, i < l.length → w.cell? (x.add i) = some (.int .u8 ((l.getD i 0).toNat : Int))) := hx
  clear hx
  go_enter Try.func5, Try.ntmps5
  go_wp2_with (go_at_call 13; refine (zz13_yes s (some x) l.length c en _ (by omega)).mono ?_; rintro e w' ⟨rfl, hw'⟩; have hw2 := hw'.symm; clear hw'; subst hw2)
  refine (clone_some x l c _ (by omega) HX.out).mono ?_
  rintro e w2 ⟨b, rfl, hbb, hr2, hb2⟩
  go_wp2_with fail
  refine (clone_some ⟨b, 0, none⟩ l l.length _ (by omega) (fun i hi => by rw [Addr.add_mid, Nat.zero_add]; exact hr2.cell i hi)).mono ?_
  rintro e w3 ⟨b3, rfl, hbb3, hr3, hb3⟩
  have hlt2 := hr2.lt
  have hlt3 := hr3.lt
  have p3 : HasRow w3 b l := hr2.below hb3 hlt2
  go_wp2_with fail
  refine (model_side en s b3 l _ hsz hl hl1 hr3).mono ?_
  rintro e w4 ⟨h4, rfl, hh4, hr4, hb4⟩
  have p4 : HasRow w4 b l := p3.but hb4 (by omega)
  go_wp2_with fail
  refine (body_side en s b l _ hsz hl hl1 p4).mono ?_
  rintro e w5 ⟨h5, rfl, hh5, hr5, hb5⟩
  have q5 : HasRow w5 b3 (mk s l) := hr4.but hb5 (by omega)
  have heq : h5 = h4 := heldK.one hh5 hh4
  subst heq
  have hML := mk_len s l
  have CE : Hid (Calls Try.prog 17 #[.slice (some ⟨b, 0, none⟩) l.length l.length, .slice (some ⟨b3, 0, none⟩) l.length l.length] w5 fun e w' => e = .returned (.bool true) ∧ Below w5.heap.size w5 w') := by
    have h := equal_same b b3 l.length l.length (mk s l) w5 (by omega) hr5 q5
    rw [hML] at h
    exact h
  have s2 := hb2.size
  have s3 := hb3.size
  have s4 := hb4.size
  have s5 := hb5.size
  have B5 : Below w.heap.size w w5 := But.below (But.below (hb2.trans (hb3.mono s2)) hb4 (by omega) (by omega)) hb5 (by omega) (by omega)
  clear hML hh4 hh5
  go_wp2_with fail
  refine CE.out.mono ?_
  rintro e w6 ⟨rfl, hb6⟩
  go_wp2
  go_ret
  exact ⟨rfl, B5.trans (hb6.mono (by omega))⟩

set_option maxRecDepth 20000 in
set_option maxHeartbeats 400000 in
theorem naive_law (s : ByteArray) (a : Option Addr) (len cap : Nat) (zs : List Int) (en : Bool) (w : World) (h : SliceIn w a len cap zs) :
    Calls Try.prog 5 #[.string s, .slice a len cap, .bool en] w fun e w' => e = .returned (.bool true) ∧ Below w.heap.size w w' := by
  by_cases h1 : (s.size : Int) + (len : Int) ≤ 1048576
  · by_cases h2 : (s.size : Int) ≤ 4096
    · by_cases h3 : (len : Int) ≤ 65536
      · by_cases h0 : len = 0
        · subst h0
          exact naive_zero s a cap en w h.nil_cap (by omega)
        · obtain ⟨x, l, rfl, rfl, hx⟩ := h.row (by omega)
          exact naive_row s x l cap en w hx (by omega) (by omega) (by omega)
      · clear h
        go_enter Try.func5, Try.ntmps5
        go_wp2_with (go_at_call 13; refine (zz13_yes s a len cap en _ h1).mono ?_; rintro e w' ⟨rfl, hw'⟩; have hw2 := hw'.symm; clear hw'; subst hw2)
        go_ret
        exact ⟨rfl, Below.refl _ _⟩
    · clear h
      go_enter Try.func5, Try.ntmps5
      go_wp2_with (go_at_call 13; refine (zz13_yes s a len cap en _ h1).mono ?_; rintro e w' ⟨rfl, hw'⟩; have hw2 := hw'.symm; clear hw'; subst hw2)
      go_ret
      exact ⟨rfl, Below.refl _ _⟩
  · clear h
    go_enter Try.func5, Try.ntmps5
    go_wp2_with (go_at_call 13; refine (zz13_no s a len cap en _ h1).mono ?_; rintro e w' ⟨rfl, hw'⟩; have hw2 := hw'.symm; clear hw'; subst hw2)
    go_ret
    exact ⟨rfl, Below.refl _ _⟩
end Go.Proofs.Qxb6604104a
