/- THE WALK of the masker's method body. -/
import Derived.Test.Qxb6604104aIndex
namespace Go.Proofs.Qxb6604104a
open Go.RowKit
set_option linter.unusedSimpArgs false
set_option linter.unusedVariables false

/-- The end of m of k bytes begins the key. -/
def endB (key m : List UInt8) (k : Nat) : Bool := (m.drop (m.length - k)).isPrefixOf key
/-- The longest end, shorter than the key, that begins the key: its length h (0: none). -/
def HeldIs (key m : List UInt8) (h : Nat) : Prop :=
  h ≤ min (key.length - 1) m.length ∧ (1 ≤ h → endB key m h = true) ∧ ∀ k, h < k → k ≤ min (key.length - 1) m.length → endB key m k = false
theorem HeldIs.one {key m : List UInt8} {a b : Nat} (ha : HeldIs key m a) (hb : HeldIs key m b) : a = b := by
  obtain ⟨a1, a2, a3⟩ := ha
  obtain ⟨b1, b2, b3⟩ := hb
  rcases Nat.lt_trichotomy a b with h | h | h
  · have h2 := a3 b h b1; rw [b2 (by omega)] at h2; cases h2
  · exact h
  · have h2 := b3 a h a1; rw [a2 (by omega)] at h2; cases h2
def HeldOk (en : Bool) (key m : List UInt8) (h : Nat) : Prop := if en = true then h = 0 else HeldIs key m h
def BodyEnd (en : Bool) (s : ByteArray) (l : List UInt8) (pb : Nat) (w : World) (e : Ending) (w' : World) : Prop :=
  ∃ h : Nat, e = .returned (.int .i64 (h : Int)) ∧ HeldOk en s.data.toList (Mask.maskA s.data.toList (fillU s.data.toList) l) h ∧ HasRow w' pb (Mask.maskA s.data.toList (fillU s.data.toList) l) ∧ But pb w w'

/-! ### Plain laws for the loops -/
theorem inv_done {key cur M : List UInt8} {f : UInt8} {i : Nat} (hk : 1 ≤ key.length) (h : cur.take i ++ Mask.maskA key f (cur.drop i) = M) (hno : ∀ j, i ≤ j → Mask.occ key cur j = false) : cur = M := by
  rw [Mask.maskA_none key f hk (cur.drop i) (fun j => by rw [Mask.occ_drop]; exact hno (i + j) (by omega)), List.take_append_drop] at h
  exact h
theorem inv_hit {key cur M : List UInt8} {f : UInt8} {i j : Nat} (hk : 1 ≤ key.length) (h : cur.take i ++ Mask.maskA key f (cur.drop i) = M) (ho : Mask.occ key cur (i + j) = true) (hno : ∀ t, t < j → Mask.occ key cur (i + t) = false) :
    (fillAt cur (i + j) key.length f).take (i + j + key.length) ++ Mask.maskA key f ((fillAt cur (i + j) key.length f).drop (i + j + key.length)) = M := by
  have hl := Mask.occ_len ho hk
  rw [Mask.maskA_first key f hk (cur.drop i) j (fun t ht => by rw [Mask.occ_drop]; exact hno t ht) (by rw [Mask.occ_drop]; exact ho), List.drop_drop] at h
  have e1 : (cur.take (i + j)).length = i + j := by simp; omega
  have e2 : (fillAt cur (i + j) key.length f).take (i + j + key.length) = cur.take (i + j) ++ List.replicate key.length f := by
    unfold fillAt
    rw [← List.append_assoc, List.take_append_of_le_length (by simp; omega), List.take_of_length_le (by simp; omega)]
  have e3 : (fillAt cur (i + j) key.length f).drop (i + j + key.length) = cur.drop (i + j + key.length) := by
    unfold fillAt
    rw [← List.append_assoc, List.drop_append_of_le_length (by simp; omega), List.drop_of_length_le (by simp; omega)]
    simp
  rw [e2, e3, ← h]
  have e4 : cur.take (i + j) = cur.take i ++ (cur.drop i).take j := by rw [List.take_add]
  rw [e4]
  simp [List.append_assoc, Nat.add_assoc]

/-! ### Plain laws for what is held back -/
theorem idx_none {l : List UInt8} {c : UInt8} (h : Lib.indexByte l c < 0) : ∀ j, j < l.length → l.getD j 0 ≠ c := by
  induction l with
  | nil => intro j hj; simp at hj
  | cons b l ih =>
    unfold Lib.indexByte at h
    have hg := Lib.indexByte_ge l c
    by_cases hb : (b == c) = true
    · rw [if_pos hb] at h; omega
    · rw [if_neg hb] at h
      have h2 : Lib.indexByte l c < 0 := by
        split at h
        · rename_i h3; have := beq_iff_eq.1 h3; omega
        · rename_i h3; have := beq_eq_false_iff_ne.1 (Bool.eq_false_iff.2 h3); omega
      intro j hj
      cases j with
      | zero => simpa using hb
      | succ j => simpa using ih h2 j (by simpa using hj)
theorem idx_some {l : List UInt8} {c : UInt8} (h : 0 ≤ Lib.indexByte l c) : (Lib.indexByte l c).toNat < l.length ∧ l.getD (Lib.indexByte l c).toNat 0 = c ∧ ∀ j, j < (Lib.indexByte l c).toNat → l.getD j 0 ≠ c := by
  induction l with
  | nil => simp [Lib.indexByte] at h
  | cons b l ih =>
    unfold Lib.indexByte at h ⊢
    have hg := Lib.indexByte_ge l c
    by_cases hb : (b == c) = true
    · rw [if_pos hb]
      exact ⟨by simp, by simpa using hb, fun j hj => by simp at hj⟩
    · rw [if_neg hb] at h ⊢
      by_cases h3 : (Lib.indexByte l c == -1) = true
      · rw [if_pos h3] at h; omega
      · rw [if_neg h3] at h ⊢
        have h4 := beq_eq_false_iff_ne.1 (Bool.eq_false_iff.2 h3)
        obtain ⟨i1, i2, i3⟩ := ih (by omega)
        have e : (Lib.indexByte l c + 1).toNat = (Lib.indexByte l c).toNat + 1 := by omega
        rw [e]
        refine ⟨by simp; omega, by simpa using i2, fun j hj => ?_⟩
        cases j with
        | zero => simpa using hb
        | succ j => simpa using i3 j (by omega)
theorem endB_head {key m : List UInt8} {i : Nat} (hi : i < m.length) (h : m.getD i 0 ≠ key.getD 0 0) : endB key m (m.length - i) = false := by
  unfold endB
  have e : m.length - (m.length - i) = i := by omega
  rw [e, List.drop_eq_getElem_cons hi]
  cases key with
  | nil => rfl
  | cons k ks =>
    simp only [List.isPrefixOf]
    have h2 : m[i] ≠ k := by
      rw [List.getD_eq_getElem?_getD, List.getElem?_eq_getElem hi] at h
      simpa using h
    simp [h2]
theorem getD_drop (l : List UInt8) (i j : Nat) : (l.drop i).getD j 0 = l.getD (i + j) 0 := by
  rw [List.getD_eq_getElem?_getD, List.getElem?_drop, ← List.getD_eq_getElem?_getD]

set_option maxRecDepth 20000 in
set_option maxHeartbeats 400000 in
theorem body_any (en : Bool) (s : ByteArray) (kb cap tb pb : Nat) (l : List UInt8) (w : World) (hs : s.toList.isEmpty = false) (hsz : s.size ≤ 4096) (hs1 : 1 ≤ s.size) (hl : l.length ≤ 65536) (hl1 : 1 ≤ l.length)
    (hm : Masker w s kb cap tb) (h1 : HasRow w pb l) (hkp : kb ≠ pb) (htp : tb ≠ pb) :
    Calls Try.prog 23 #[maskV s kb cap tb, .slice (some ⟨pb, 0, none⟩) l.length l.length, .bool en] w fun e w' => BodyEnd en s l pb w e w' := by
  have hpl := h1.lt
  have hkl := hm.key.lt
  have htl := hm.tab.lt
  have hcap := hm.cap1
  have EV : Hid (Value.agg #[.string s, .slice (some ⟨kb, 0, none⟩) s.size cap, .int .u8 (fillN s.data.toList : Nat), .pointer (some ⟨tb, 0, none⟩)] = maskV s kb cap tb) := rfl
  unfold maskV
  go_enter Try.func23, Try.ntmps23
  go_wp2_with fail
  rw [EV.out]
  refine (active_more s kb cap tb _ hs).mono ?_
  rintro e w1 ⟨rfl, hb1⟩
  have g0 : HasRow w1 pb l := (h1.alloc _).below hb1 (by simp; omega)
  have g1 : HasBox w1 w.heap.size s kb cap tb := (HasBox.new w s kb cap tb).but (But.of_below (pb := pb) hb1) (by omega)
  have g2 : But pb w w1 := ((But.refl pb w).alloc _).trans (But.of_below hb1)
  have g3 : Masker w1 s kb cap tb := hm.but g2 hkp htp
  clear hb1 hm h1
  go_wp2
  go_loopw [7, 8] (fun x _ wr => ∃ (i : Nat) (cur : List UInt8), i ≤ l.length ∧ x = .int .i64 i ∧ cur.length = l.length ∧
      Hid (cur.take i ++ Mask.maskA s.data.toList (fillU s.data.toList) (cur.drop i) = Mask.maskA s.data.toList (fillU s.data.toList) l) ∧ HasRow wr pb cur ∧ HasBox wr w.heap.size s kb cap tb ∧ Masker wr s kb cap tb ∧ But pb w wr)
    (fun x _ _ => l.length - (intOf x).toNat)
  case atStart => exact ⟨0, l, by omega, rfl, rfl, by simp [Hid], g0, g1, g3, g2⟩
  case round =>
    clear g0 g1 g2 g3
    obtain ⟨i, cur, hi, rfl, hcl, HI, g0, g1, g3, g2⟩ := hrel
    have d0 := g1.c0
    have d1 := g1.c1
    have d2 := g1.c2
    have d3 := g1.c3
    by_cases hil : i < l.length
    · have hcl2 : i + (l.length - i) = cur.length := by omega
      have CI : Hid (Calls Try.prog 26 #[Value.agg #[.string s, .slice (some ⟨kb, 0, none⟩) s.size cap, .int .u8 (fillN s.data.toList : Nat), .pointer (some ⟨tb, 0, none⟩)], .slice (some ⟨pb, i, none⟩) (l.length - i) (l.length - i)] wr.drew fun e w' => IndexEnd s.data.toList cur i e ∧ Below wr.drew.heap.size wr.drew w') :=
        index_any s kb cap tb pb i (l.length - i) (l.length - i) cur wr.drew hsz hs1 (by omega) hcl2 (Nat.le_refl _) ⟨g3.tab, g3.key, g3.cap1, g3.cap2⟩ g0
      have hcl' : Hid (cur.length = l.length) := hcl
      have hne : ¬ l.length = i := by omega
      clear hcl hcl2
      go_wp2
      go_region_with (go_at_call 26; refine CI.out.mono ?_; rintro e w2 ⟨⟨r, rfl, hr⟩, hb2⟩)
      rcases hr with ⟨rfl, hno⟩ | ⟨j, rfl, ho, hno⟩
      · have hM := inv_done hs1 HI.out hno
        have G0 : HasRow w2 pb (Mask.maskA s.data.toList (fillU s.data.toList) l) := by rw [← hM]; exact HasRow.below (w := wr.drew) g0 hb2 g0.lt
        have G2 : But pb w w2 := g2.drew.trans (But.of_below hb2)
        have G1 : HasBox w2 w.heap.size s kb cap tb := HasBox.but (w := wr.drew) (pb := pb) g1 (But.of_below hb2) (by omega)
        have G3 : Masker w2 s kb cap tb := Masker.but (w := wr.drew) ⟨g3.tab, g3.key, g3.cap1, g3.cap2⟩ (But.of_below hb2) hkp htp
        clear hM hno HI CI g0 g1 g2 g3 hb2 d0 d1 d2 d3 hcl'
        obtain ⟨M, HM⟩ : ∃ M, Hid (Mask.maskA s.data.toList (fillU s.data.toList) l = M) := ⟨_, rfl⟩
        have hML : Hid (M.length = l.length) := by show _ = _; rw [← HM.out]; exact Mask.maskA_len _ _ hs1 _ l (Nat.le_refl _)
        rw [HM.out] at G0
        cases en with
        | true =>
          go_wp2
          go_ret
          exact ⟨0, rfl, rfl, by rw [HM.out]; exact G0, G2⟩
        | false =>
          have f1 := G1.c1
          go_wp2
          go_loopw [9, 10] (fun x _ wr => ∃ i : Nat, l.length ≤ i + min l.length (s.size - 1) ∧ i ≤ l.length ∧ x = .int .i64 i ∧ HasRow wr pb M ∧ HasBox wr w.heap.size s kb cap tb ∧ Masker wr s kb cap tb ∧ But pb w wr ∧
              Hid (∀ i', l.length ≤ i' + min l.length (s.size - 1) → i' < i → endB s.data.toList M (l.length - i') = false)) (fun x _ _ => l.length - (intOf x).toNat)
          case atStart => exact ⟨l.length - min l.length (s.size - 1), by omega, by omega, by go_num, G0, G1, G3, G2, fun i' h1 h2 => by omega⟩
          case round =>
            clear f1 G0 G1 G2 G3
            obtain ⟨i2, hst, hi2, rfl, G0, G1, G3, G2, HN⟩ := hrel
            have f1 := G1.c1
            have f2 := G3.key.cell 0 (by show 0 < s.size; omega)
            have hs0 : 0 < s.size := by omega
            rw [getD_at s 0 hs0] at f2
            by_cases hil2 : i2 < l.length
            · have CIB : Hid (∀ n, Calls Try.prog 28 #[.slice (some ⟨pb, i2, none⟩) (l.length - i2) (l.length - i2), .int .u8 (s[0].toNat : Int)] (wr.drewN n) fun e w' => e = .returned (.int .i64 (Lib.indexByte (M.drop i2) s[0])) ∧ w' = wr.drewN n) := fun n => by
                have h8 := Try.bytes_IndexByte pb i2 (l.length - i2) (l.length - i2) ((M.drop i2).map (fun c => (c.toNat : Int))) (s[0].toNat : Int) (wr.drewN n) (by simp [hML.out]) (fun t ht => by
                  rw [nums_getD _ _ (by simp [hML.out]; omega), getD_drop]
                  exact G0.cell (i2 + t) (by rw [hML.out]; omega))
                rw [bytesOf_nums] at h8
                simpa using h8
              have hne2 : ¬ l.length = i2 := by omega
              have hIN : Hid (Lib.indexByte (M.drop i2) s[0] < 0 → ∀ t, t < (M.drop i2).length → (M.drop i2).getD t 0 ≠ s[0]) := fun h => idx_none h
              have hIS : Hid (0 ≤ Lib.indexByte (M.drop i2) s[0] → (Lib.indexByte (M.drop i2) s[0]).toNat < (M.drop i2).length ∧ (M.drop i2).getD (Lib.indexByte (M.drop i2) s[0]).toNat 0 = s[0] ∧ ∀ t, t < (Lib.indexByte (M.drop i2) s[0]).toNat → (M.drop i2).getD t 0 ≠ s[0]) := fun h => idx_some h
              generalize Lib.indexByte (M.drop i2) s[0] = r at *
              go_wp2
              go_quiet ((go_at_call 28; exact Calls.quiet_of_same (CIB.out _)))
              have K0 : HasRow (wr.drewN nq) pb M := G0
              have K1 : HasBox (wr.drewN nq) w.heap.size s kb cap tb := G1
              have K2 : But pb w (wr.drewN nq) := G2.drewN _
              have K3 : Masker (wr.drewN nq) s kb cap tb := ⟨G3.tab, G3.key, G3.cap1, G3.cap2⟩
              have k1 := K1.c1
              generalize wr.drewN nq = wq at *
              clear f1 f2 CIB hne2 G0 G1 G2 G3
              by_cases hr0 : r < 0
              · have HH : Hid (HeldIs s.data.toList M 0) := by
                  refine ⟨by omega, fun h => by omega, fun k hk1 hk2 => ?_⟩
                  have hk3 : k ≤ min (s.size - 1) l.length := by rw [hML.out] at hk2; exact hk2
                  have e9 : k = l.length - (l.length - k) := by omega
                  by_cases h9 : l.length - k < i2
                  · rw [e9]; exact HN.out (l.length - k) (by omega) h9
                  · have e10 : k = M.length - (l.length - k) := by rw [hML.out]; exact e9
                    rw [e10]
                    refine endB_head (by rw [hML.out]; omega) ?_
                    have h11 := hIN.out hr0 (l.length - k - i2) (by simp [hML.out]; omega)
                    rw [getD_drop, show i2 + (l.length - k - i2) = l.length - k from by omega] at h11
                    rw [getD_at s 0 hs0]; exact h11
                clear hIN hIS HN
                go_wp2
                go_ret
                exact ⟨0, rfl, (by rw [HM.out]; exact HH.out), by rw [HM.out]; exact K0, K2⟩
              · obtain ⟨j, hj⟩ := Int.eq_ofNat_of_zero_le (show 0 ≤ r by omega)
                subst hj
                obtain ⟨hj1, hj2, hj3⟩ := hIS.out (by omega)
                rw [Int.toNat_natCast] at hj1 hj2 hj3
                have hj4 : i2 + j < l.length := by simp [hML.out] at hj1; omega
                have HN2 : Hid (∀ i', l.length ≤ i' + min l.length (s.size - 1) → i' < i2 + j → endB s.data.toList M (l.length - i') = false) := by
                  intro i' h12 h13
                  by_cases h14 : i' < i2
                  · exact HN.out i' h12 h14
                  · rw [← hML.out]
                    refine endB_head (by rw [hML.out]; omega) ?_
                    have h11 := hj3 (i' - i2) (by omega)
                    rw [getD_drop, show i2 + (i' - i2) = i' from by omega] at h11
                    rw [getD_at s 0 hs0]; exact h11
                have CHP : Hid (∀ n, Calls Try.prog 29 #[.slice (some ⟨kb, 0, none⟩) s.size cap, .slice (some ⟨pb, i2 + j, none⟩) (l.length - (i2 + j)) (l.length - (i2 + j))] (wq.drewN n) fun e w' => e = .returned (.bool (endB s.data.toList M (l.length - (i2 + j)))) ∧ w' = wq.drewN n) := fun n => by
                  have h8 := Try.bytes_HasPrefix kb 0 s.size cap pb (i2 + j) (l.length - (i2 + j)) (l.length - (i2 + j)) (s.data.toList.map (fun c => (c.toNat : Int))) ((M.drop (i2 + j)).map (fun c => (c.toNat : Int))) (wq.drewN n) (by simp) (by simp [hML.out]) K3.cap1
                    (fun t ht => by rw [Nat.zero_add, nums_getD _ _ (by simpa using ht)]; exact K3.key.cell t ht)
                    (fun t ht => by
                      rw [nums_getD _ _ (by simp [hML.out]; omega), getD_drop]
                      exact K0.cell (i2 + j + t) (by rw [hML.out]; omega))
                  rw [bytesOf_nums, bytesOf_nums] at h8
                  unfold endB
                  rw [hML.out, show l.length - (l.length - (i2 + j)) = i2 + j from by omega]
                  exact h8
                clear hIN hIS HN hj1 hj2 hj3
                have hne3 : ¬ l.length = i2 + j := by omega
                have hw2 : ((i2 : Int) + (j : Int)).toNat = i2 + j := by omega
                have b1 : (0 : Int) ≤ (i2 : Int) + (j : Int) := by omega
                have b3 : (i2 : Int) + (j : Int) ≤ (l.length : Int) := by omega
                cases hend : endB s.data.toList M (l.length - (i2 + j)) with
                | true =>
                  have HH : Hid (HeldIs s.data.toList M (l.length - (i2 + j))) := by
                    refine ⟨by rw [hML.out]; show _ ≤ min (s.size - 1) l.length; omega, fun _ => hend, fun k hk1 hk2 => ?_⟩
                    have hk3 : k ≤ min (s.size - 1) l.length := by rw [hML.out] at hk2; exact hk2
                    rw [show k = l.length - (l.length - k) from by omega]
                    exact HN2.out (l.length - k) (by omega) (by omega)
                  rw [hend] at CHP
                  clear hend
                  go_wp2
                  go_quiet ((go_at_call 29; exact Calls.quiet_of_same (CHP.out _)))
                  go_wp2
                  go_ret
                  exact ⟨l.length - (i2 + j), ret_int (by omega), (by rw [HM.out]; exact HH.out), by rw [HM.out]; exact K0, K2.drewN _⟩
                | false =>
                  have HE : Hid (endB s.data.toList M (l.length - (i2 + j)) = false) := hend
                  rw [hend] at CHP
                  clear hend
                  go_wp2
                  go_quiet ((go_at_call 29; exact Calls.quiet_of_same (CHP.out _)))
                  go_wp2
                  go_roundw
                  case rel => exact ⟨i2 + j + 1, by omega, by omega, by go_num, K0, K1, ⟨K3.tab, K3.key, K3.cap1, K3.cap2⟩, K2.drewN _, fun i' h12 h13 => by
                    by_cases h14 : i' < i2 + j
                    · exact HN2.out i' h12 h14
                    · rw [show i' = i2 + j from by omega]; exact HE.out⟩
                  case measure => simp [intOf]; omega
            · have HH : Hid (HeldIs s.data.toList M 0) := by
                refine ⟨by omega, fun h => by omega, fun k hk1 hk2 => ?_⟩
                have hk3 : k ≤ min (s.size - 1) l.length := by rw [hML.out] at hk2; exact hk2
                rw [show k = l.length - (l.length - k) from by omega]
                exact HN.out (l.length - k) (by omega) (by omega)
              go_wp2
              go_ret
              exact ⟨0, rfl, (by rw [HM.out]; exact HH.out), by rw [HM.out]; exact G0, G2⟩
      · have hjl := Mask.occ_len ho hs1
        have hjl2 : i + j + s.size ≤ l.length := by rw [← hcl'.out]; exact hjl
        have HI2 : Hid ((fillAt cur (i + j) s.size (fillU s.data.toList)).take (i + j + s.size) ++ Mask.maskA s.data.toList (fillU s.data.toList) ((fillAt cur (i + j) s.size (fillU s.data.toList)).drop (i + j + s.size)) = Mask.maskA s.data.toList (fillU s.data.toList) l) := inv_hit hs1 HI.out ho hno
        have hl2 : Hid ((fillAt cur (i + j) s.size (fillU s.data.toList)).length = l.length) := (fillAt_len cur (i + j) s.size (fillU s.data.toList) hjl).trans hcl'.out
        have q0 : HasRow w2 pb cur := HasRow.below (w := wr.drew) g0 hb2 g0.lt
        have q2 : But pb w w2 := g2.drew.trans (But.of_below hb2)
        have q1 : HasBox w2 w.heap.size s kb cap tb := HasBox.but (w := wr.drew) (pb := pb) g1 (But.of_below hb2) (by omega)
        have q3 : Masker w2 s kb cap tb := Masker.but (w := wr.drew) ⟨g3.tab, g3.key, g3.cap1, g3.cap2⟩ (But.of_below hb2) hkp htp
        have c0 := q1.c0
        have c1 := q1.c1
        have c2 := q1.c2
        have c3 := q1.c3
        have CC : Hid (Calls Try.prog 27 #[Value.agg #[.string s, .slice (some ⟨kb, 0, none⟩) s.size cap, .int .u8 (fillN s.data.toList : Nat), .pointer (some ⟨tb, 0, none⟩)], .slice (some ⟨pb, i + j, none⟩) s.size (l.length - (i + j))] w2.drew fun e w' => e = .returned (.tuple #[]) ∧ HasRow w' pb (fillAt cur (i + j) s.size (fillU s.data.toList)) ∧ But pb w2.drew w') :=
          cover_any s kb cap tb pb (i + j) s.size (l.length - (i + j)) cur w2.drew (by rw [hcl'.out]; omega) hjl q0
        have hne2 : ¬ l.length = i + j := by omega
        have hw1 : IntKind.i64.wrap ((i : Int) + (j : Int) + (s.size : Int)) = (i : Int) + (j : Int) + (s.size : Int) := IntWalk.i64_in _ (by omega)
        have hw2 : ((i : Int) + (j : Int)).toNat = i + j := by omega
        have hw3 : ((i : Int) + (j : Int) + (s.size : Int)).toNat = i + j + s.size := by omega
        have hw4 : max ((i : Int) + (j : Int) + (s.size : Int)) 0 = (i : Int) + (j : Int) + (s.size : Int) := by omega
        have b0 : (0 : Int) ≤ (i : Int) + (j : Int) + (s.size : Int) := by omega
        have b1 : (0 : Int) ≤ (i : Int) + (j : Int) := by omega
        have b2 : (i : Int) + (j : Int) ≤ (i : Int) + (j : Int) + (s.size : Int) := by omega
        have b3 : (i : Int) + (j : Int) + (s.size : Int) ≤ (l.length : Int) := by omega
        clear hjl ho hno HI CI g0 g1 g2 g3 hb2 d0 d1 d2 d3 hne
        go_wp2
        go_region_with (go_at_call 27; refine CC.out.mono ?_; rintro e w3 ⟨rfl, hr3, hb3⟩)
        all_goals
          have p1 : HasBox w3 w.heap.size s kb cap tb := HasBox.but (w := w2.drew) (pb := pb) q1 hb3 (by omega)
          have p2 : But pb w w3 := q2.drew.trans hb3
          have p3 : Masker w3 s kb cap tb := Masker.but (w := w2.drew) ⟨q3.tab, q3.key, q3.cap1, q3.cap2⟩ hb3 hkp htp
          have f1 := p1.c1
          clear c0 c1 c2 c3 q0 q1 q2 q3 hw1 hw2 hw3 hw4 hne2 CC hb3
          go_wp2
          go_roundw
          case rel => exact ⟨i + j + s.size, fillAt cur (i + j) s.size (fillU s.data.toList), hjl2, by go_num, hl2.out, HI2, hr3, p1, p3, p2⟩
          case measure => simp [intOf]; omega
    · have CI : Hid (∀ a0, Calls Try.prog 26 #[Value.agg #[.string s, .slice (some ⟨kb, 0, none⟩) s.size cap, .int .u8 (fillN s.data.toList : Nat), .pointer (some ⟨tb, 0, none⟩)], .slice a0 0 0] wr.drew fun e w' => e = .returned (.int .i64 (-1)) ∧ Below wr.drew.heap.size wr.drew w') :=
        fun a0 => index_short s kb cap tb 0 0 a0 wr.drew hsz hs1 (by omega) ⟨g3.tab, g3.key, g3.cap1, g3.cap2⟩
      have hiN : i = l.length := by omega
      subst hiN
      have hno : ∀ j, l.length ≤ j → Mask.occ s.data.toList cur j = false := fun j hj => Mask.occ_short hs1 (by show cur.length < j + s.size; omega)
      have HNo : Hid (∀ j, l.length ≤ j → Mask.occ s.data.toList cur j = false) := hno
      clear hno hcl
      go_wp2
      go_region_with (go_at_call 26; refine (CI.out _).mono ?_; rintro e w2 ⟨rfl, hb2⟩)
      have hM := inv_done hs1 HI.out HNo.out
      have G0 : HasRow w2 pb (Mask.maskA s.data.toList (fillU s.data.toList) l) := by rw [← hM]; exact HasRow.below (w := wr.drew) g0 hb2 g0.lt
      have G2 : But pb w w2 := g2.drew.trans (But.of_below hb2)
      have G1 : HasBox w2 w.heap.size s kb cap tb := HasBox.but (w := wr.drew) (pb := pb) g1 (But.of_below hb2) (by omega)
      have G3 : Masker w2 s kb cap tb := Masker.but (w := wr.drew) ⟨g3.tab, g3.key, g3.cap1, g3.cap2⟩ (But.of_below hb2) hkp htp
      clear hM HNo HI CI g0 g1 g2 g3 hb2 d0 d1 d2 d3
      obtain ⟨M, HM⟩ : ∃ M, Hid (Mask.maskA s.data.toList (fillU s.data.toList) l = M) := ⟨_, rfl⟩
      have hML : Hid (M.length = l.length) := by show _ = _; rw [← HM.out]; exact Mask.maskA_len _ _ hs1 _ l (Nat.le_refl _)
      rw [HM.out] at G0
      cases en with
      | true =>
        go_wp2
        go_ret
        exact ⟨0, rfl, rfl, by rw [HM.out]; exact G0, G2⟩
      | false =>
        have f1 := G1.c1
        go_wp2
        go_loopw [9, 10] (fun x _ wr => ∃ i : Nat, l.length ≤ i + min l.length (s.size - 1) ∧ i ≤ l.length ∧ x = .int .i64 i ∧ HasRow wr pb M ∧ HasBox wr w.heap.size s kb cap tb ∧ Masker wr s kb cap tb ∧ But pb w wr ∧
            Hid (∀ i', l.length ≤ i' + min l.length (s.size - 1) → i' < i → endB s.data.toList M (l.length - i') = false)) (fun x _ _ => l.length - (intOf x).toNat)
        case atStart => exact ⟨l.length - min l.length (s.size - 1), by omega, by omega, by go_num, G0, G1, G3, G2, fun i' h1 h2 => by omega⟩
        case round =>
          clear f1 G0 G1 G2 G3
          obtain ⟨i2, hst, hi2, rfl, G0, G1, G3, G2, HN⟩ := hrel
          have f1 := G1.c1
          have f2 := G3.key.cell 0 (by show 0 < s.size; omega)
          have hs0 : 0 < s.size := by omega
          rw [getD_at s 0 hs0] at f2
          by_cases hil2 : i2 < l.length
          · have CIB : Hid (∀ n, Calls Try.prog 28 #[.slice (some ⟨pb, i2, none⟩) (l.length - i2) (l.length - i2), .int .u8 (s[0].toNat : Int)] (wr.drewN n) fun e w' => e = .returned (.int .i64 (Lib.indexByte (M.drop i2) s[0])) ∧ w' = wr.drewN n) := fun n => by
              have h8 := Try.bytes_IndexByte pb i2 (l.length - i2) (l.length - i2) ((M.drop i2).map (fun c => (c.toNat : Int))) (s[0].toNat : Int) (wr.drewN n) (by simp [hML.out]) (fun t ht => by
                rw [nums_getD _ _ (by simp [hML.out]; omega), getD_drop]
                exact G0.cell (i2 + t) (by rw [hML.out]; omega))
              rw [bytesOf_nums] at h8
              simpa using h8
            have hne2 : ¬ l.length = i2 := by omega
            have hIN : Hid (Lib.indexByte (M.drop i2) s[0] < 0 → ∀ t, t < (M.drop i2).length → (M.drop i2).getD t 0 ≠ s[0]) := fun h => idx_none h
            have hIS : Hid (0 ≤ Lib.indexByte (M.drop i2) s[0] → (Lib.indexByte (M.drop i2) s[0]).toNat < (M.drop i2).length ∧ (M.drop i2).getD (Lib.indexByte (M.drop i2) s[0]).toNat 0 = s[0] ∧ ∀ t, t < (Lib.indexByte (M.drop i2) s[0]).toNat → (M.drop i2).getD t 0 ≠ s[0]) := fun h => idx_some h
            generalize Lib.indexByte (M.drop i2) s[0] = r at *
            go_wp2
            go_quiet ((go_at_call 28; exact Calls.quiet_of_same (CIB.out _)))
            have K0 : HasRow (wr.drewN nq) pb M := G0
            have K1 : HasBox (wr.drewN nq) w.heap.size s kb cap tb := G1
            have K2 : But pb w (wr.drewN nq) := G2.drewN _
            have K3 : Masker (wr.drewN nq) s kb cap tb := ⟨G3.tab, G3.key, G3.cap1, G3.cap2⟩
            have k1 := K1.c1
            generalize wr.drewN nq = wq at *
            clear f1 f2 CIB hne2 G0 G1 G2 G3
            by_cases hr0 : r < 0
            · have HH : Hid (HeldIs s.data.toList M 0) := by
                refine ⟨by omega, fun h => by omega, fun k hk1 hk2 => ?_⟩
                have hk3 : k ≤ min (s.size - 1) l.length := by rw [hML.out] at hk2; exact hk2
                have e9 : k = l.length - (l.length - k) := by omega
                by_cases h9 : l.length - k < i2
                · rw [e9]; exact HN.out (l.length - k) (by omega) h9
                · have e10 : k = M.length - (l.length - k) := by rw [hML.out]; exact e9
                  rw [e10]
                  refine endB_head (by rw [hML.out]; omega) ?_
                  have h11 := hIN.out hr0 (l.length - k - i2) (by simp [hML.out]; omega)
                  rw [getD_drop, show i2 + (l.length - k - i2) = l.length - k from by omega] at h11
                  rw [getD_at s 0 hs0]; exact h11
              clear hIN hIS HN
              go_wp2
              go_ret
              exact ⟨0, rfl, (by rw [HM.out]; exact HH.out), by rw [HM.out]; exact K0, K2⟩
            · obtain ⟨j, hj⟩ := Int.eq_ofNat_of_zero_le (show 0 ≤ r by omega)
              subst hj
              obtain ⟨hj1, hj2, hj3⟩ := hIS.out (by omega)
              rw [Int.toNat_natCast] at hj1 hj2 hj3
              have hj4 : i2 + j < l.length := by simp [hML.out] at hj1; omega
              have HN2 : Hid (∀ i', l.length ≤ i' + min l.length (s.size - 1) → i' < i2 + j → endB s.data.toList M (l.length - i') = false) := by
                intro i' h12 h13
                by_cases h14 : i' < i2
                · exact HN.out i' h12 h14
                · rw [← hML.out]
                  refine endB_head (by rw [hML.out]; omega) ?_
                  have h11 := hj3 (i' - i2) (by omega)
                  rw [getD_drop, show i2 + (i' - i2) = i' from by omega] at h11
                  rw [getD_at s 0 hs0]; exact h11
              have CHP : Hid (∀ n, Calls Try.prog 29 #[.slice (some ⟨kb, 0, none⟩) s.size cap, .slice (some ⟨pb, i2 + j, none⟩) (l.length - (i2 + j)) (l.length - (i2 + j))] (wq.drewN n) fun e w' => e = .returned (.bool (endB s.data.toList M (l.length - (i2 + j)))) ∧ w' = wq.drewN n) := fun n => by
                have h8 := Try.bytes_HasPrefix kb 0 s.size cap pb (i2 + j) (l.length - (i2 + j)) (l.length - (i2 + j)) (s.data.toList.map (fun c => (c.toNat : Int))) ((M.drop (i2 + j)).map (fun c => (c.toNat : Int))) (wq.drewN n) (by simp) (by simp [hML.out]) K3.cap1
                  (fun t ht => by rw [Nat.zero_add, nums_getD _ _ (by simpa using ht)]; exact K3.key.cell t ht)
                  (fun t ht => by
                    rw [nums_getD _ _ (by simp [hML.out]; omega), getD_drop]
                    exact K0.cell (i2 + j + t) (by rw [hML.out]; omega))
                rw [bytesOf_nums, bytesOf_nums] at h8
                unfold endB
                rw [hML.out, show l.length - (l.length - (i2 + j)) = i2 + j from by omega]
                exact h8
              clear hIN hIS HN hj1 hj2 hj3
              have hne3 : ¬ l.length = i2 + j := by omega
              have hw2 : ((i2 : Int) + (j : Int)).toNat = i2 + j := by omega
              have b1 : (0 : Int) ≤ (i2 : Int) + (j : Int) := by omega
              have b3 : (i2 : Int) + (j : Int) ≤ (l.length : Int) := by omega
              cases hend : endB s.data.toList M (l.length - (i2 + j)) with
              | true =>
                have HH : Hid (HeldIs s.data.toList M (l.length - (i2 + j))) := by
                  refine ⟨by rw [hML.out]; show _ ≤ min (s.size - 1) l.length; omega, fun _ => hend, fun k hk1 hk2 => ?_⟩
                  have hk3 : k ≤ min (s.size - 1) l.length := by rw [hML.out] at hk2; exact hk2
                  rw [show k = l.length - (l.length - k) from by omega]
                  exact HN2.out (l.length - k) (by omega) (by omega)
                rw [hend] at CHP
                clear hend
                go_wp2
                go_quiet ((go_at_call 29; exact Calls.quiet_of_same (CHP.out _)))
                go_wp2
                go_ret
                exact ⟨l.length - (i2 + j), ret_int (by omega), (by rw [HM.out]; exact HH.out), by rw [HM.out]; exact K0, K2.drewN _⟩
              | false =>
                have HE : Hid (endB s.data.toList M (l.length - (i2 + j)) = false) := hend
                rw [hend] at CHP
                clear hend
                go_wp2
                go_quiet ((go_at_call 29; exact Calls.quiet_of_same (CHP.out _)))
                go_wp2
                go_roundw
                case rel => exact ⟨i2 + j + 1, by omega, by omega, by go_num, K0, K1, ⟨K3.tab, K3.key, K3.cap1, K3.cap2⟩, K2.drewN _, fun i' h12 h13 => by
                  by_cases h14 : i' < i2 + j
                  · exact HN2.out i' h12 h14
                  · rw [show i' = i2 + j from by omega]; exact HE.out⟩
                case measure => simp [intOf]; omega
          · have HH : Hid (HeldIs s.data.toList M 0) := by
              refine ⟨by omega, fun h => by omega, fun k hk1 hk2 => ?_⟩
              have hk3 : k ≤ min (s.size - 1) l.length := by rw [hML.out] at hk2; exact hk2
              rw [show k = l.length - (l.length - k) from by omega]
              exact HN.out (l.length - k) (by omega) (by omega)
            go_wp2
            go_ret
            exact ⟨0, rfl, (by rw [HM.out]; exact HH.out), by rw [HM.out]; exact G0, G2⟩
end Go.Proofs.Qxb6604104a
