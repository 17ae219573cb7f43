/- THE WALK of encodeString. -/
import Derived.Test.Qxb6604609aScanLaw
namespace Go.Proofs.Qxb6604609a
open Go.RowKit Scan
set_option linter.unusedSimpArgs false
set_option linter.unusedVariables false

/-- The bytes l stand at the head of the call's own block g, of capacity cap. -/
def Owns (w : World) (base g cap : Nat) (l : List UInt8) : Prop := w.ownsRow base 5 1 (.slice (some ⟨g, 0, none⟩) l.length cap) l.length (l.map byteV)
def encTo (l : List UInt8) (k : Nat) : List UInt8 := 34 :: esc (l.take k)
theorem encTo_full (l : List UInt8) : encTo l l.length ++ [34] = encL l := by simp [encTo, encL]
theorem encTo_special {l : List UInt8} {k : Nat} (hk : k < l.length) (h : l.getD k 0 = 34 ∨ l.getD k 0 = 92) : encTo l (k + 1) = encTo l k ++ [92] ++ [l.getD k 0] := by
  have e : l.getD k 0 = l[k] := by rw [List.getD_eq_getElem?_getD, List.getElem?_eq_getElem hk]; rfl
  unfold encTo
  rw [List.take_succ_eq_append_getElem hk, esc_append]
  rw [e] at h ⊢
  simp [esc, h]
theorem encTo_plain {l : List UInt8} {k : Nat} (hk : k < l.length) (h : ¬ (l.getD k 0 = 34 ∨ l.getD k 0 = 92)) : encTo l (k + 1) = encTo l k ++ [l.getD k 0] := by
  have e : l.getD k 0 = l[k] := by rw [List.getD_eq_getElem?_getD, List.getElem?_eq_getElem hk]; rfl
  unfold encTo
  rw [List.take_succ_eq_append_getElem hk, esc_append]
  rw [e] at h ⊢
  simp [esc, h]
theorem encTo_len (l : List UInt8) (k : Nat) (hk : k ≤ l.length) : (encTo l k).length ≤ 2 * k + 1 := by
  have := esc_len (l.take k)
  unfold encTo
  simp at this ⊢
  omega

theorem HasRow.grown {w w' : World} {b : Nat} {l : List UInt8} {row : Option Nat} (h : HasRow w b l) (hg : w.grownBy w' row) (hne : some b ≠ row) : HasRow w' b l := by
  unfold HasRow
  rw [hg.block b h.lt hne]; exact h
theorem Owns.at {w : World} {base g cap q : Nat} {l : List UInt8} (h : Owns w base g cap l) (hq : q = l.length) : w.ownsRow base 5 1 (.slice (some ⟨g, 0, none⟩) q cap) q (l.map byteV) := by
  subst hq; exact h
theorem Owns.snoc {w : World} {base g cap q : Nat} {l : List UInt8} {c : UInt8} (h : w.ownsRow base 5 1 (.slice (some ⟨g, 0, none⟩) (q + 1) cap) (q + 1) (l.map byteV ++ [.int .u8 (c.toNat : Int)])) (hq : q = l.length) : Owns w base g cap (l ++ [c]) := by
  unfold Owns
  rw [List.length_append, List.map_append, ← hq]
  exact h
def EncEnd (w : World) (l : List UInt8) (e : Ending) (w' : World) : Prop := ∃ g cap, e = .returned (.slice (some ⟨g, 0, none⟩) (encL l).length cap) ∧ w.heap.size ≤ g ∧ Owns w' w.heap.size g cap (encL l) ∧ Below w.heap.size w w'

set_option maxRecDepth 20000 in
set_option maxHeartbeats 400000 in
theorem enc_row (b0 c0 : Nat) (l : List UInt8) (w : World) (hl : l.length ≤ 1048576) (h1 : HasRow w b0 l) :
    Calls Try.prog 10 #[.slice (some ⟨b0, 0, none⟩) l.length c0] w fun e w' => EncEnd w l e w' := by
  obtain ⟨i0, hi, hz0, hz1, hz2⟩ := info_parts Try.info5
  have hb0 := h1.lt
  have Hinfo : Hid (Try.prog.info? 5 = some i0) := hi
  have Hz0 : Hid (i0.zero = some (.int .u8 0)) := hz0
  have Hz1 : Hid (i0.size = 1) := hz1
  have Hz2 : Hid (i0.bytes = 1) := hz2
  clear hi hz0 hz1 hz2
  have hcapC : (2 * (l.length : Int) + 2) = ((2 * l.length + 2 : Nat) : Int) := by omega
  have HCap : Hid ((2 * (l.length : Int) + 2) = ((2 * l.length + 2 : Nat) : Int)) := hcapC
  clear hcapC
  go_enter Try.func10, Try.ntmps10
  go_wp2_with (first
    | (at_make; refine wpList_make_own _ rfl _ _ 22 rfl w.heap.size 5 i0 (.int .u8 0) 1 Try.underlying22 Hinfo.out Hz0.out Hz1.out .i64 .i64 _ (2 * l.length + 2) (by go_simp) (by go_simp) HCap.out (by rw [Hz2.out]; omega) (by unfold maxLen; omega) (Nat.le_refl _) ?_; intro w1 hown1 hgr1)
    | (at_builtin; refine wpList_append_fits _ rfl (.tmp 10) (.tmp 11) 22 rfl w.heap.size 5 i0 1 Try.underlying22 Hinfo.out Hz1.out w.heap.size 0 (2 * l.length + 2) [] rfl (hown1.alloc _) ⟨w1.heap.size, 0, none⟩ 1 1 [.int .u8 34] rfl rfl (cell_one_new _ _ _) (by intro u hu; simp at hu; subst hu; rfl) (by omega) ?_; intro w2 hown2 hgr2))
  have g0 : HasRow w2 b0 l := ((h1.grown hgr1 (by simp)).alloc _).grown hgr2 (by simp; omega)
  have s1 := hgr1.size
  have g1 : Below w.heap.size w w2 := (((Below.refl w.heap.size w).grown hgr1 (Nat.le_refl _) (fun k hk => by cases hk)).alloc s1 _).grown hgr2 (by simp; omega) (fun k hk => by cases hk; exact Nat.le_refl _)
  have g2 : Owns w2 w.heap.size w.heap.size (2 * l.length + 2) (encTo l 0) := hown2
  clear hown1 hown2 hgr1 hgr2 h1 HCap s1
  go_loopw [3, 4] (fun enc x wr => ∃ k q : Nat, k ≤ l.length ∧ x = .int .i64 k ∧ enc = .slice (some ⟨w.heap.size, 0, none⟩) q (2 * l.length + 2) ∧ q ≤ 2 * k + 1 ∧ Hid (q = (encTo l k).length) ∧ Hid (Owns wr w.heap.size w.heap.size (2 * l.length + 2) (encTo l k)) ∧ HasRow wr b0 l ∧ Below w.heap.size w wr)
    (fun _ x _ => l.length - (intOf x).toNat)
  case atStart => exact ⟨0, 1, by omega, rfl, rfl, by omega, rfl, g2, g0, g1⟩
  case round =>
    clear g0 g1 g2
    obtain ⟨k, q, hk, rfl, rfl, hq, HQ, HO, g0, g1⟩ := hrel
    have hs1 := g1.size
    by_cases hkl : k < l.length
    · have d1 := g0.cell k hkl
      have hv8 : (l.getD k 0).toNat < 256 := UInt8.toNat_lt _
      have hown := HO.out.at HQ.out
      by_cases hsp : l.getD k 0 = 34 ∨ l.getD k 0 = 92
      · have HE : Hid (encTo l (k + 1) = encTo l k ++ [92] ++ [l.getD k 0]) := encTo_special hkl hsp
        have HV : Hid (∀ W, W.ownsRow w.heap.size 5 1 (.slice (some ⟨w.heap.size, 0, none⟩) (q + 1 + 1) (2 * l.length + 2)) (q + 1 + 1) (((encTo l k).map byteV ++ [.int .u8 92]) ++ [.int .u8 ((l.getD k 0).toNat : Int)]) → Owns W w.heap.size w.heap.size (2 * l.length + 2) (encTo l (k + 1))) := fun W h => by
          rw [HE.out]
          refine Owns.snoc (q := q + 1) ?_ (by rw [List.length_append, ← HQ.out]; rfl)
          rw [List.map_append]
          exact h
        have HQ2 : Hid (q + 1 + 1 = (encTo l (k + 1)).length) := by show _ = _; rw [HE.out, List.length_append, List.length_append, ← HQ.out]; rfl
        have HC : Hid (∀ W, HasRow W b0 l → W.cell? ⟨b0, k, none⟩ = some (.int .u8 ((l.getD k 0).toNat : Int))) := fun W h => h.cell k hkl
        have hg34 : (((l.getD k 0).toNat : Int) == 34) = true ∨ ((((l.getD k 0).toNat : Int) == 34) = false ∧ (((l.getD k 0).toNat : Int) == 92) = true) := by
          rcases hsp with h | h
          · left; rw [h]; rfl
          · right; rw [h]; exact ⟨rfl, rfl⟩
        clear hsp HE
        generalize (l.getD k 0).toNat = v at *
        rcases hg34 with hc1 | ⟨hc1, hc2⟩
        all_goals
          go_wp2_with (first
            | (at_builtin; refine wpList_append_fits _ rfl (.tmp 31) (.tmp 32) 22 rfl w.heap.size 5 i0 1 Try.underlying22 Hinfo.out Hz1.out w.heap.size q (2 * l.length + 2) ((encTo l k).map byteV) rfl (hown.alloc _) ⟨wr.heap.size, 0, none⟩ 1 1 [.int .u8 92] rfl rfl (cell_one_new _ _ _) (by intro u hu; simp at hu; subst hu; rfl) (by omega) ?_; intro w3 hown3 hgr3; have p0 : HasRow w3 b0 l := (g0.alloc _).grown hgr3 (by simp; omega); have hd3 := HC.out _ p0)
            | (at_builtin; refine wpList_append_fits _ rfl (.tmp 34) (.tmp 39) 22 rfl w.heap.size 5 i0 1 Try.underlying22 Hinfo.out Hz1.out w.heap.size (q + 1) (2 * l.length + 2) ((encTo l k).map byteV ++ [.int .u8 92]) rfl (hown3.alloc _) ⟨w3.heap.size, 0, none⟩ 1 1 [.int .u8 (v : Int)] rfl rfl (cell_one_new _ _ _) (by intro u hu; simp at hu; subst hu; rfl) (by omega) ?_; intro w4 hown4 hgr4))
          have p1 : Below w.heap.size w w3 := (g1.alloc hs1 _).grown hgr3 (by simp; omega) (fun k hk => by cases hk; exact Nat.le_refl _)
          have hs3 := p1.size
          have r0 : HasRow w4 b0 l := (p0.alloc _).grown hgr4 (by simp; omega)
          have r1 : Below w.heap.size w w4 := (p1.alloc hs3 _).grown hgr4 (by simp; omega) (fun k hk => by cases hk; exact Nat.le_refl _)
          go_roundw
          case rel => exact ⟨k + 1, q + 1 + 1, by omega, by go_num, rfl, by omega, HQ2, HV.out _ hown4, r0, r1⟩
          case measure => simp [intOf]; omega
      · have HE : Hid (encTo l (k + 1) = encTo l k ++ [l.getD k 0]) := encTo_plain hkl hsp
        have hc1 : (((l.getD k 0).toNat : Int) == 34) = false := beq_eq_false_iff_ne.2 (fun e => hsp (.inl (UInt8.toNat_inj.1 (by show _ = 34; omega))))
        have hc2 : (((l.getD k 0).toNat : Int) == 92) = false := beq_eq_false_iff_ne.2 (fun e => hsp (.inr (UInt8.toNat_inj.1 (by show _ = 92; omega))))
        have HV : Hid (∀ W, W.ownsRow w.heap.size 5 1 (.slice (some ⟨w.heap.size, 0, none⟩) (q + 1) (2 * l.length + 2)) (q + 1) ((encTo l k).map byteV ++ [.int .u8 ((l.getD k 0).toNat : Int)]) → Owns W w.heap.size w.heap.size (2 * l.length + 2) (encTo l (k + 1))) := fun W h => by
          rw [HE.out]; exact Owns.snoc h HQ.out
        have HQ2 : Hid (q + 1 = (encTo l (k + 1)).length) := by show _ = _; rw [HE.out, List.length_append, ← HQ.out]; rfl
        clear hsp HE
        generalize (l.getD k 0).toNat = v at *
        go_wp2_with (at_builtin; refine wpList_append_fits _ rfl (.tmp 34) (.tmp 39) 22 rfl w.heap.size 5 i0 1 Try.underlying22 Hinfo.out Hz1.out w.heap.size q (2 * l.length + 2) ((encTo l k).map byteV) rfl (hown.alloc _) ⟨wr.heap.size, 0, none⟩ 1 1 [.int .u8 (v : Int)] rfl rfl (cell_one_new _ _ _) (by intro u hu; simp at hu; subst hu; rfl) (by omega) ?_; intro w3 hown3 hgr3)
        have p0 : HasRow w3 b0 l := (g0.alloc _).grown hgr3 (by simp; omega)
        have p1 : Below w.heap.size w w3 := (g1.alloc hs1 _).grown hgr3 (by simp; omega) (fun k hk => by cases hk; exact Nat.le_refl _)
        go_roundw
        case rel => exact ⟨k + 1, q + 1, by omega, by go_num, rfl, by omega, HQ2, HV.out _ hown3, p0, p1⟩
        case measure => simp [intOf]; omega
    · have hkn : k = l.length := by omega
      subst hkn
      have hown := HO.out.at HQ.out
      go_wp2_with (at_builtin; refine wpList_append_fits _ rfl (.tmp 41) (.tmp 42) 22 rfl w.heap.size 5 i0 1 Try.underlying22 Hinfo.out Hz1.out w.heap.size q (2 * l.length + 2) ((encTo l l.length).map byteV) rfl (hown.alloc _) ⟨wr.heap.size, 0, none⟩ 1 1 [.int .u8 34] rfl rfl (cell_one_new _ _ _) (by intro u hu; simp at hu; subst hu; rfl) (by omega) ?_; intro w3 hown3 hgr3)
      have p1 : Below w.heap.size w w3 := (g1.alloc hs1 _).grown hgr3 (by simp; omega) (fun k hk => by cases hk; exact Nat.le_refl _)
      have p2 : Owns w3 w.heap.size w.heap.size (2 * l.length + 2) (encL l) := by rw [← encTo_full]; exact Owns.snoc (c := 34) hown3 HQ.out
      have hlen : (encL l).length = q + 1 := by rw [← encTo_full, List.length_append, ← HQ.out]; rfl
      go_ret
      refine ⟨w.heap.size, 2 * l.length + 2, ?_, Nat.le_refl _, p2, p1⟩
      rw [hlen]; rfl
end Go.Proofs.Qxb6604609a
