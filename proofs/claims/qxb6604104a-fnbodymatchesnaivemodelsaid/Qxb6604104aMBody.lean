/- THE WALK of ZZMaskerBody. -/
import Derived.Test.Qxb6604104aBody
namespace Go.Proofs.Qxb6604104a
open Go.RowKit
set_option linter.unusedSimpArgs false
set_option linter.unusedVariables false

set_option maxRecDepth 20000 in
set_option maxHeartbeats 400000 in
theorem body_inactive (en : Bool) (a : Option Addr) (n c : Nat) (w : World) :
    Calls Try.prog 23 #[.agg #[.string ByteArray.empty, .slice none 0 0, .int .u8 0, .pointer none], .slice a n c, .bool en] w fun e w' => e = .returned (.int .i64 0) ∧ Below w.heap.size w w' := by
  go_enter Try.func23, Try.ntmps23
  go_wp2_with fail
  refine (active_empty _).mono ?_
  rintro e w1 ⟨rfl, hb1⟩
  go_wp2
  go_ret
  refine ⟨rfl, ?_⟩
  simp only [World.size_alloc] at hb1
  exact ((Below.refl w.heap.size w).alloc (Nat.le_refl _) _).trans (hb1.mono (by omega))

set_option maxRecDepth 20000 in
set_option maxHeartbeats 400000 in
theorem body_zero (en : Bool) (s : ByteArray) (kb cap tb : Nat) (a : Option Addr) (w : World) (hs : s.toList.isEmpty = false) (hsz : s.size ≤ 4096) (hs1 : 1 ≤ s.size) (hm : Masker w s kb cap tb) :
    Calls Try.prog 23 #[maskV s kb cap tb, .slice a 0 0, .bool en] w fun e w' => e = .returned (.int .i64 0) ∧ Below w.heap.size w w' := by
  have hkl := hm.key.lt
  have htl := hm.tab.lt
  have EV : Hid (Value.agg #[.string s, .slice (some ⟨kb, 0, none⟩) s.size cap, .int .u8 (fillN s.data.toList : Nat), .pointer (some ⟨tb, 0, none⟩)] = maskV s kb cap tb) := rfl
  unfold maskV
  go_enter Try.func23, Try.ntmps23
  go_wp2_with fail
  rw [EV.out]
  refine (active_more s kb cap tb _ hs).mono ?_
  rintro e w1 ⟨rfl, hb1⟩
  have g1 : HasBox w1 w.heap.size s kb cap tb := (HasBox.new w s kb cap tb).but (But.of_below (pb := w.heap.size + 1) hb1) (by omega)
  simp only [World.size_alloc] at hb1
  have g2 : Below w.heap.size w w1 := ((Below.refl w.heap.size w).alloc (Nat.le_refl _) _).trans (hb1.mono (by omega))
  have g3 : Masker w1 s kb cap tb := ⟨hm.tab.below g2 htl, hm.key.below g2 hkl, hm.cap1, hm.cap2⟩
  clear hb1 hm
  have CI : Hid (∀ a0, Calls Try.prog 26 #[Value.agg #[.string s, .slice (some ⟨kb, 0, none⟩) s.size cap, .int .u8 (fillN s.data.toList : Nat), .pointer (some ⟨tb, 0, none⟩)], .slice a0 0 0] w1.drew fun e w' => e = .returned (.int .i64 (-1)) ∧ Below w1.drew.heap.size w1.drew w') :=
    fun a0 => index_short s kb cap tb 0 0 a0 w1.drew hsz hs1 (by omega) ⟨g3.tab, g3.key, g3.cap1, g3.cap2⟩
  have d0 := g1.c0
  have d1 := g1.c1
  have d2 := g1.c2
  have d3 := g1.c3
  go_wp2
  refine wp_loop_rounds 1 ?_
  rw [rounds_succ]
  go_wp2
  go_region_with (go_at_call 26; refine (CI.out _).mono ?_; rintro e w2 ⟨rfl, hb2⟩)
  have G2 : Below w.heap.size w w2 := g2.drew.trans (hb2.mono g2.size)
  have G1 : HasBox w2 w.heap.size s kb cap tb := HasBox.but (w := w1.drew) (pb := w1.heap.size) g1 (But.of_below hb2) (by have := g1.lt; omega)
  have f1 := G1.c1
  clear d0 d1 d2 d3 CI g1 g2 g3 hb2
  cases en with
  | true =>
    go_wp2
    go_ret
    exact ⟨rfl, G2⟩
  | false =>
    have hmn : min (0 : Int) ((s.size : Int) - 1) = 0 := by omega
    go_wp2
    refine wp_loop_rounds 1 ?_
    rw [rounds_succ]
    go_wp2
    go_ret
    exact ⟨rfl, G2⟩

/-! ### ZZMaskerBody -/
set_option maxRecDepth 20000 in
set_option maxHeartbeats 400000 in
theorem mbody_nokey (en : Bool) (s : ByteArray) (a : Option Addr) (n c : Nat) (w : World) (hs : s.toList.isEmpty = true) :
    Calls Try.prog 16 #[.string s, .slice a n c, .bool en] w fun e w' => e = .returned (.int .i64 0) ∧ Below w.heap.size w w' := by
  go_enter Try.func16, Try.ntmps16
  go_wp2_with fail
  refine (newMasker_empty s _ hs).mono ?_
  rintro e w1 ⟨rfl, hb1⟩
  go_wp2_with fail
  refine (body_inactive en a n c _).mono ?_
  rintro e w2 ⟨rfl, hb2⟩
  go_wp2
  go_ret
  exact ⟨rfl, hb1.trans (hb2.mono hb1.size)⟩

set_option maxRecDepth 20000 in
set_option maxHeartbeats 400000 in
theorem mbody_zero (en : Bool) (s : ByteArray) (a : Option Addr) (w : World) (hs : s.toList.isEmpty = false) (hsz : s.size ≤ 4096) (hs1 : 1 ≤ s.size) :
    Calls Try.prog 16 #[.string s, .slice a 0 0, .bool en] w fun e w' => e = .returned (.int .i64 0) ∧ Below w.heap.size w w' := by
  go_enter Try.func16, Try.ntmps16
  go_wp2_with fail
  refine (newMasker_more s _ hs hsz hs1).mono ?_
  rintro e w1 ⟨kb, cap, tb, rfl, hkb, htb, hm, hb1⟩
  go_wp2_with fail
  refine (body_zero en s kb cap tb a _ hs hsz hs1 hm).mono ?_
  rintro e w2 ⟨rfl, hb2⟩
  go_wp2
  go_ret
  exact ⟨rfl, hb1.trans (hb2.mono hb1.size)⟩

set_option maxRecDepth 20000 in
set_option maxHeartbeats 400000 in
theorem mbody_any (en : Bool) (s : ByteArray) (pb : Nat) (l : List UInt8) (w : World) (hs : s.toList.isEmpty = false) (hsz : s.size ≤ 4096) (hs1 : 1 ≤ s.size) (hl : l.length ≤ 65536) (hl1 : 1 ≤ l.length) (h1 : HasRow w pb l) :
    Calls Try.prog 16 #[.string s, .slice (some ⟨pb, 0, none⟩) l.length l.length, .bool en] w fun e w' => BodyEnd en s l pb w e w' := by
  have hpl := h1.lt
  go_enter Try.func16, Try.ntmps16
  go_wp2_with fail
  refine (newMasker_more s _ hs hsz hs1).mono ?_
  rintro e w1 ⟨kb, cap, tb, rfl, hkb, htb, hm, hb1⟩
  go_wp2_with fail
  refine (body_any en s kb cap tb pb l _ hs hsz hs1 hl hl1 hm (h1.below hb1 hpl) (by omega) (by omega)).mono ?_
  rintro e w2 ⟨h, rfl, hh, hr, hb2⟩
  go_wp2
  go_ret
  exact ⟨h, rfl, hh, hr, (But.of_below hb1).trans hb2⟩
end Go.Proofs.Qxb6604104a
