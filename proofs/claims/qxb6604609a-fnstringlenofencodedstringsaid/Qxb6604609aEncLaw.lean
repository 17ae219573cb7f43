/- THE WALK of the law FnStringLenOfEncodedString. -/
import Derived.Test.Qxb6604609aEnc
namespace Go.Proofs.Qxb6604609a
open Go.RowKit Scan
set_option linter.unusedSimpArgs false
set_option linter.unusedVariables false

/-- A slice of the call's own, nil or not: no byte, or a block with its bytes. -/
def OptRow (w : World) (a : Option Addr) (l : List UInt8) : Prop := l = [] ∨ ∃ b, a = some ⟨b, 0, none⟩ ∧ HasRow w b l
theorem OptRow.below {w w' : World} {a : Option Addr} {l : List UInt8} (h : OptRow w a l) (hb : Below w.heap.size w w') : OptRow w' a l := by
  rcases h with h | ⟨b, h1, h2⟩
  · exact .inl h
  · exact .inr ⟨b, h1, h2.below hb h2.lt⟩
theorem OptRow.grown {w w' : World} {a : Option Addr} {l : List UInt8} (h : OptRow w a l) {row : Option Nat} (hg : w.grownBy w' row) (hr : ∀ k, row = some k → w.heap.size ≤ k) : OptRow w' a l := by
  rcases h with h | ⟨b, h1, h2⟩
  · exact .inl h
  · refine .inr ⟨b, h1, h2.grown hg (fun e => ?_)⟩
    have := hr b e.symm
    have := h2.lt
    omega
theorem OptRow.grown2 {w3 w4 w5 : World} {a : Option Addr} {l : List UInt8} (h : OptRow w3 a l) (h4 : w3.grownBy w4 none) (h5 : w4.grownBy w5 (some w3.heap.size)) : OptRow w5 a l := by
  rcases h with h | ⟨b, h1, h2⟩
  · exact .inl h
  · refine .inr ⟨b, h1, (h2.grown h4 (by simp)).grown h5 (fun e => ?_)⟩
    have h6 := h2.lt
    have h7 : b = w3.heap.size := Option.some.inj e
    omega
def CloneEnd (w : World) (len : Nat) (e : Ending) (w' : World) : Prop := ∃ a l, e = .returned (.slice a len len) ∧ List.length l = len ∧ OptRow w' a l ∧ Below w.heap.size w w'
theorem clone_any (a : Option Addr) (len cap : Nat) (zs : List Int) (w : World) (hl : len ≤ 1048576) (h : SliceIn w a len cap zs) : Calls Try.prog 6 #[.slice a len cap] w fun e w' => CloneEnd w len e w' := by
  by_cases h0 : len = 0
  · subst h0
    refine (clone_zero a cap w h.nil_cap).mono ?_
    rintro e w' ⟨⟨a', rfl⟩, hb⟩
    exact ⟨a', [], rfl, rfl, .inl rfl, hb⟩
  · obtain ⟨x, l, rfl, rfl, hx⟩ := h.row (by omega)
    refine (clone_some x l cap w hl hx).mono ?_
    rintro e w' ⟨b, rfl, hbb, hr, hb⟩
    exact ⟨_, l, rfl, rfl, .inr ⟨b, rfl, hr⟩, hb⟩
theorem SliceIn.below {w w' : World} {a : Option Addr} {len cap : Nat} {zs : List Int} (h : SliceIn w a len cap zs) (hb : Below w.heap.size w w') : SliceIn w' a len cap zs := by
  rcases h with h | ⟨x, h1, h2, h3, h4, h5, h6⟩
  · exact .inl h
  · exact .inr ⟨x, h1, h2, h3, h4, fun i hi => by rw [hb.cell (block_lt_of_cell (h5 i hi))]; exact h5 i hi, h6⟩

set_option maxRecDepth 20000 in
set_option maxHeartbeats 400000 in
theorem enc_zero (a : Option Addr) (w : World) : Calls Try.prog 10 #[.slice a 0 0] w fun e w' => EncEnd w [] e w' := by
  obtain ⟨i0, hi, hz0, hz1, hz2⟩ := info_parts Try.info5
  have Hinfo : Hid (Try.prog.info? 5 = some i0) := hi
  have Hz0 : Hid (i0.zero = some (.int .u8 0)) := hz0
  have Hz1 : Hid (i0.size = 1) := hz1
  have Hz2 : Hid (i0.bytes = 1) := hz2
  clear hi hz0 hz1 hz2
  go_enter Try.func10, Try.ntmps10
  go_wp2_with (first
    | (at_make; refine wpList_make_own _ rfl _ _ 22 rfl w.heap.size 5 i0 (.int .u8 0) 1 Try.underlying22 Hinfo.out Hz0.out Hz1.out .i64 .i64 2 2 (by go_simp) (by go_simp) rfl (by rw [Hz2.out]; omega) (by unfold maxLen; omega) (Nat.le_refl _) ?_; intro w1 hown1 hgr1)
    | (at_builtin; refine wpList_append_fits _ rfl (.tmp 10) (.tmp 11) 22 rfl w.heap.size 5 i0 1 Try.underlying22 Hinfo.out Hz1.out w.heap.size 0 2 [] rfl (hown1.alloc _) ⟨w1.heap.size, 0, none⟩ 1 1 [.int .u8 34] rfl rfl (cell_one_new _ _ _) (by intro u hu; simp at hu; subst hu; rfl) (by omega) ?_; intro w2 hown2 hgr2))
  refine wp_loop_rounds 1 ?_
  rw [rounds_succ]
  go_wp2_with (at_builtin; refine wpList_append_fits _ rfl (.tmp 41) (.tmp 42) 22 rfl w.heap.size 5 i0 1 Try.underlying22 Hinfo.out Hz1.out w.heap.size 1 2 [.int .u8 34] rfl (hown2.alloc _) ⟨w2.heap.size, 0, none⟩ 1 1 [.int .u8 34] rfl rfl (cell_one_new _ _ _) (by intro u hu; simp at hu; subst hu; rfl) (by omega) ?_; intro w3 hown3 hgr3)
  have s1 := hgr1.size
  have g1 : Below w.heap.size w w2 := (((Below.refl w.heap.size w).grown hgr1 (Nat.le_refl _) (fun k hk => by cases hk)).alloc s1 _).grown hgr2 (by simp; omega) (fun k hk => by cases hk; exact Nat.le_refl _)
  have s2 := g1.size
  have g3 : Below w.heap.size w w3 := (g1.alloc s2 _).grown hgr3 (by simp; omega) (fun k hk => by cases hk; exact Nat.le_refl _)
  go_ret
  exact ⟨w.heap.size, 2, rfl, Nat.le_refl _, hown3, g3⟩

theorem enc_any (a : Option Addr) (l : List UInt8) (w : World) (hl : l.length ≤ 1048576) (h : OptRow w a l) : Calls Try.prog 10 #[.slice a l.length l.length] w fun e w' => EncEnd w l e w' := by
  rcases h with rfl | ⟨b, rfl, h⟩
  · exact enc_zero a w
  · exact enc_row b l.length l w hl h

theorem owns_full {w : World} {base g : Nat} {l : List UInt8} {N : Nat} (h : w.ownsRow base 5 1 (.slice (some ⟨g, 0, none⟩) N N) N (l.map byteV)) : HasRow w g l := by
  have hl := h.1
  rcases h.2 with ⟨h', _⟩ | ⟨g', cap', cur, h', _, hg, _, _, hcs, htake⟩
  · cases h'
  · simp only [Value.slice.injEq, Option.some.injEq, Addr.mk.injEq, and_true, true_and] at h'
    obtain ⟨rfl, rfl⟩ := h'
    unfold HasRow
    rw [hg]
    have e : cur = bytesV l := by
      apply Array.ext'
      rw [List.take_of_length_le (by simp; omega)] at htake
      rw [htake]
      rfl
    rw [e]

set_option maxHeartbeats 400000 in
theorem zz9_yes (a b : Option Addr) (m c n d : Nat) (w : World) (h : (m : Int) + (n : Int) ≤ 1048576) :
    Calls Try.prog 9 #[.slice a m c, .slice b n d] w fun e w' => e = .returned (.bool true) ∧ w' = w := by
  go_enter Try.func9, Try.ntmps9
  go_wp2
  go_ret
  exact ⟨rfl, rfl⟩
set_option maxHeartbeats 400000 in
theorem zz9_no (a b : Option Addr) (m c n d : Nat) (w : World) (h : ¬ (m : Int) + (n : Int) ≤ 1048576) :
    Calls Try.prog 9 #[.slice a m c, .slice b n d] w fun e w' => e = .returned (.bool false) ∧ w' = w := by
  by_cases h1 : (m : Int) ≤ 1048576
  · by_cases h2 : (n : Int) ≤ 1048576
    · go_enter Try.func9, Try.ntmps9
      go_wp2
      go_ret
      exact ⟨rfl, rfl⟩
    · go_enter Try.func9, Try.ntmps9
      go_wp2
      go_ret
      exact ⟨rfl, rfl⟩
  · go_enter Try.func9, Try.ntmps9
    go_wp2
    go_ret
    exact ⟨rfl, rfl⟩

set_option maxRecDepth 20000 in
set_option maxHeartbeats 400000 in
theorem enc_walk (a1 a2 : Option Addr) (len1 cap1 len2 cap2 : Nat) (z1 z2 : List Int) (w : World) (h1 : SliceIn w a1 len1 cap1 z1) (h2 : SliceIn w a2 len2 cap2 z2) (hs : len1 ≤ 262144) (hr : len2 ≤ 262144) :
    Calls Try.prog 4 #[.slice a1 len1 cap1, .slice a2 len2 cap2] w fun e w' => e = .returned (.bool true) ∧ Below w.heap.size w w' := by
  obtain ⟨i0, hi, hz0, hz1, hz2⟩ := info_parts Try.info5
  have Hinfo : Hid (Try.prog.info? 5 = some i0) := hi
  have Hz0 : Hid (i0.zero = some (.int .u8 0)) := hz0
  have Hz1 : Hid (i0.size = 1) := hz1
  have Hz2 : Hid (i0.bytes = 1) := hz2
  clear hi hz0 hz1 hz2
  go_enter Try.func4, Try.ntmps4
  go_wp2_with (go_at_call 9; refine (zz9_yes a1 a2 len1 cap1 len2 cap2 _ (by omega)).mono ?_; rintro e w' ⟨rfl, hw'⟩; have hw2 := hw'.symm; clear hw'; subst hw2)
  refine (clone_any a1 len1 cap1 z1 _ (by omega) h1).mono ?_
  rintro e w1 ⟨x1, l1, rfl, hl1, o1, b1⟩
  go_wp2_with fail
  refine (clone_any a2 len2 cap2 z2 _ (by omega) (h2.below b1)).mono ?_
  rintro e w2 ⟨x2, l2, rfl, hl2, o2, b2⟩
  subst hl1
  go_wp2_with fail
  refine (enc_any x1 l1 _ (by omega) (o1.below b2)).mono ?_
  rintro e w3 ⟨g, ecap, rfl, hg, oE, b3⟩
  have hel : (encL l1).length ≤ 2 * l1.length + 2 := by have := esc_len l1; unfold encL; simp; omega
  have HE : Hid (∀ r, LenIs (encL l1 ++ l2) r → r = (encL l1).length) := fun r h => LenIs.one h (enc_len l1 l2)
  have hel1 : 1 ≤ (encL l1).length := by unfold encL; simp
  have HL2 : Hid (l2.length = len2) := hl2
  have o2' := o2.below b3
  clear h1 h2 o1 o2 hl2
  have HCap : Hid (((encL l1).length : Int) + (len2 : Int) = (((encL l1).length + len2 : Nat) : Int)) := by show _ = _; omega
  have HK1 : Hid (∀ W, Owns W w2.heap.size g ecap (encL l1) → ∀ j u, ((encL l1).map byteV)[j]? = some u → W.cell? ((⟨g, 0, none⟩ : Addr).add j) = some u) := fun W h j u hu => World.ownsRow.cells h rfl j u hu
  have HN2 : Hid (x2 = none → len2 = 0 ∧ len2 = 0) := fun e => by
    rcases o2' with h | ⟨b, h, _⟩
    · have := HL2.out; rw [h] at this; simp at this; omega
    · rw [e] at h; cases h
  have HK2 : Hid (∀ W, OptRow W x2 l2 → ∀ ad, x2 = some ad → ∀ j u, (l2.map byteV)[j]? = some u → W.cell? (ad.add j) = some u) := by
    intro W h ad hx j u hu
    rcases h with h | ⟨b, h, hr⟩
    · rw [h] at hu; simp at hu
    · rw [h] at hx
      cases hx
      have hj : j < l2.length := by have := (List.getElem?_eq_some_iff.1 hu).1; simpa using this
      rw [Addr.add_mid, Nat.zero_add, hr.cell j hj]
      rw [List.getElem?_map, List.getElem?_eq_getElem hj] at hu
      rw [← hu, List.getD_eq_getElem?_getD, List.getElem?_eq_getElem hj]
      rfl
  generalize hq : (encL l1).length = q at *
  have HQ : Hid ((encL l1).length = q) := hq
  clear hq
  go_wp2_with (first
    | (at_make; refine wpList_make_own _ rfl _ _ 22 rfl w3.heap.size 5 i0 (.int .u8 0) 1 Try.underlying22 Hinfo.out Hz0.out Hz1.out .i64 .i64 ((q : Int) + (len2 : Int)) (q + len2) (by go_simp) (by go_simp) HCap.out (by rw [Hz2.out]; omega) (by unfold maxLen; omega) (Nat.le_refl _) ?_; intro w4 hown4 hgr4)
    | (at_builtin; refine wpList_append_fits _ rfl (.tmp 31) (.tmp 32) 22 rfl w3.heap.size 5 i0 1 Try.underlying22 Hinfo.out Hz1.out w3.heap.size 0 (q + len2) [] rfl hown4 ⟨g, 0, none⟩ q ecap ((encL l1).map byteV) rfl (by rw [List.length_map, HQ.out, Nat.mul_one]) (HK1.out _ (World.ownsRow.kept oE hgr4 (.inr (by simp [Value.ownBlock])))) (by intro u hu; rw [List.mem_map] at hu; obtain ⟨c, _, rfl⟩ := hu; rfl) (by omega) ?_; intro w5 hown5 hgr5; simp only [Nat.zero_add, List.nil_append] at hown5)
    | (at_builtin; refine wpList_append_fits_any _ rfl (.tmp 34) (.tmp 35) 22 rfl w3.heap.size 5 i0 1 Try.underlying22 Hinfo.out Hz1.out w3.heap.size q (q + len2) ((encL l1).map byteV) rfl hown5 x2 len2 len2 (l2.map byteV) rfl (by rw [List.length_map, HL2.out, Nat.mul_one]) HN2.out (HK2.out _ (o2'.grown2 hgr4 hgr5)) (by intro u hu; rw [List.mem_map] at hu; obtain ⟨c, _, rfl⟩ := hu; rfl) (Nat.le_refl _) ?_; intro w6 hown6 hgr6))
  have hrow : HasRow w6 w3.heap.size (encL l1 ++ l2) := by
    refine owns_full (base := w3.heap.size) (N := q + len2) ?_
    rw [List.map_append]
    exact hown6
  have hdl : (encL l1 ++ l2).length = q + len2 := by rw [List.length_append, HQ.out, HL2.out]
  have CZ : Calls Try.prog 7 #[.slice (some ⟨w3.heap.size, 0, none⟩) (q + len2) (q + len2)] w6 fun e w' => LenEnd (encL l1 ++ l2) e ∧ w' = w6 := by
    have h := zzlen_any w3.heap.size (encL l1 ++ l2) w6 (by omega) (by omega) hrow
    rw [hdl] at h
    exact h
  have s1 := b1.size
  have s2 := b2.size
  have s3 := b3.size
  have s4 := hgr4.size
  have s5 := hgr5.size
  have B3 : Below w.heap.size w w3 := b1.trans ((b2.mono (by omega)).trans (b3.mono (by omega)))
  have B6 : Below w.heap.size w w6 := ((B3.grown hgr4 (by omega) (fun k hk => by cases hk)).grown hgr5 (by omega) (fun k hk => by cases hk; omega)).grown hgr6 (by omega) (fun k hk => by cases hk; omega)
  refine CZ.mono ?_
  rintro e w7 ⟨⟨r, rfl, hr7⟩, hw7⟩
  have hw7' := hw7.symm
  clear hw7
  subst hw7'
  have hrq : r = q := HE.out r hr7
  subst hrq
  clear hr7 CZ hrow hdl hown4 hown5 hown6 hgr4 hgr5 hgr6 o2' oE
  go_wp2
  go_ret
  exact ⟨by simp, B6⟩

set_option maxRecDepth 20000 in
set_option maxHeartbeats 400000 in
theorem enc_law (a1 : Option Addr) (len1 cap1 : Nat) (z1 : List Int) (a2 : Option Addr) (len2 cap2 : Nat) (z2 : List Int) (w : World) (h1 : SliceIn w a1 len1 cap1 z1) (h2 : SliceIn w a2 len2 cap2 z2) :
    Calls Try.prog 4 #[.slice a1 len1 cap1, .slice a2 len2 cap2] w fun e w' => e = .returned (.bool true) ∧ Below w.heap.size w w' := by
  by_cases hz : (len1 : Int) + (len2 : Int) ≤ 1048576
  · by_cases hs : (len1 : Int) ≤ 262144
    · by_cases hr : (len2 : Int) ≤ 262144
      · exact enc_walk a1 a2 len1 cap1 len2 cap2 z1 z2 w h1 h2 (by omega) (by omega)
      · clear h1 h2
        go_enter Try.func4, Try.ntmps4
        go_wp2_with (go_at_call 9; refine (zz9_yes a1 a2 len1 cap1 len2 cap2 _ hz).mono ?_; rintro e w' ⟨rfl, hw'⟩; have hw2 := hw'.symm; clear hw'; subst hw2)
        go_ret
        exact ⟨rfl, Below.refl _ _⟩
    · clear h1 h2
      go_enter Try.func4, Try.ntmps4
      go_wp2_with (go_at_call 9; refine (zz9_yes a1 a2 len1 cap1 len2 cap2 _ hz).mono ?_; rintro e w' ⟨rfl, hw'⟩; have hw2 := hw'.symm; clear hw'; subst hw2)
      go_ret
      exact ⟨rfl, Below.refl _ _⟩
  · clear h1 h2
    go_enter Try.func4, Try.ntmps4
    go_wp2_with (go_at_call 9; refine (zz9_no a1 a2 len1 cap1 len2 cap2 _ hz).mono ?_; rintro e w' ⟨rfl, hw'⟩; have hw2 := hw'.symm; clear hw'; subst hw2)
    go_ret
    exact ⟨rfl, Below.refl _ _⟩
end Go.Proofs.Qxb6604609a
