/- THE WALK of the masker's method index (Horspool's search). -/
import Derived.Test.Qxb6604104aMeth
namespace Go.Proofs.Qxb6604104a
open Go.RowKit
set_option linter.unusedSimpArgs false
set_option linter.unusedVariables false

/-- What index hands back for the piece of l from place o on. -/
def IndexIs (key l : List UInt8) (o : Nat) (r : Int) : Prop :=
  (r = -1 ∧ ∀ j, o ≤ j → Mask.occ key l j = false) ∨ (∃ j : Nat, r = (j : Int) ∧ Mask.occ key l (o + j) = true ∧ ∀ i, i < j → Mask.occ key l (o + i) = false)

def IndexEnd (key l : List UInt8) (o : Nat) (e : Ending) : Prop := ∃ r, e = .returned (.int .i64 r) ∧ IndexIs key l o r
theorem bytesOf_nums (l : List UInt8) : Lib.bytesOf (l.map (fun c => (c.toNat : Int))) = l := by
  unfold Lib.bytesOf
  rw [List.map_map]
  conv => rhs; rw [← List.map_id l]
  apply List.map_congr_left
  intro c _
  simp
theorem nums_getD (l : List UInt8) (i : Nat) (h : i < l.length) : (l.map (fun c => (c.toNat : Int))).getD i 0 = ((l.getD i 0).toNat : Int) := by
  simp [h]

/-- bytes.Equal at two pieces. -/
theorem equal_at (pb o kb len c d : Nat) (xs ys : List UInt8) (w : World) (hx : xs.length = len) (hy : ys.length = len)
    (h1 : ∀ i, i < len → w.cell? ⟨pb, o + i, none⟩ = some (.int .u8 ((xs.getD i 0).toNat : Int))) (h2 : ∀ i, i < len → w.cell? ⟨kb, i, none⟩ = some (.int .u8 ((ys.getD i 0).toNat : Int))) :
    Calls Try.prog 31 #[.slice (some ⟨pb, o, none⟩) len c, .slice (some ⟨kb, 0, none⟩) len d] w fun e w' => e = .returned (.bool (xs == ys)) ∧ w' = w := by
  have h := Try.bytes_Equal_all (some ⟨pb, o, none⟩) (some ⟨kb, 0, none⟩) len c len d (xs.map (fun c => (c.toNat : Int))) (ys.map (fun c => (c.toNat : Int))) w (by simpa using hx) (by simpa using hy)
    (Lib.BytesIn.of_cells (fun i hi => by rw [Addr.add_mid, nums_getD xs i (by omega)]; exact h1 i hi))
    (Lib.BytesIn.of_cells (fun i hi => by rw [Addr.add_mid, Nat.zero_add, nums_getD ys i (by omega)]; exact h2 i hi))
  rw [bytesOf_nums, bytesOf_nums] at h
  exact h

/-! ### Horspool's rule -/
theorem occ_last {key l : List UInt8} {p : Nat} (hk : 1 ≤ key.length) (h : Mask.occ key l p = true) : l.getD (p + (key.length - 1)) 0 = key.getD (key.length - 1) 0 :=
  (Mask.occ_bytes key l p (Mask.occ_len h hk)).1 h (key.length - 1) (by omega)
theorem occ_of_parts {key l : List UInt8} {p : Nat} (hk : 1 ≤ key.length) (hl : p + key.length ≤ l.length) (h1 : (l.drop p).take (key.length - 1) = key.take (key.length - 1))
    (h2 : l.getD (p + (key.length - 1)) 0 = key.getD (key.length - 1) 0) : Mask.occ key l p = true := by
  rw [Mask.occ_bytes key l p hl]
  intro t ht
  by_cases e : t = key.length - 1
  · subst e; exact h2
  · have h3 : ((l.drop p).take (key.length - 1))[t]? = (key.take (key.length - 1))[t]? := by rw [h1]
    rw [List.getElem?_take_of_lt (by omega), List.getElem?_take_of_lt (by omega), List.getElem?_drop] at h3
    rw [List.getD_eq_getElem?_getD, List.getD_eq_getElem?_getD, h3]
theorem parts_of_occ {key l : List UInt8} {p : Nat} (h : Mask.occ key l p = true) : (l.drop p).take (key.length - 1) = key.take (key.length - 1) := by
  obtain ⟨r, h⟩ := (Mask.occ_iff key l p).1 h
  rw [h, List.take_append_of_le_length (by omega)]
/-- A move by the skip of the byte under the key's last place jumps over no occurrence. -/
theorem no_jump {key l : List UInt8} {p b : Nat} (hk : 1 ≤ key.length) (hb : (l.getD (p + (key.length - 1)) 0).toNat = b) (h0 : Mask.occ key l p = false) :
    ∀ d : Nat, (d : Int) < skN key (key.length - 1) b → Mask.occ key l (p + d) = false := by
  intro d hd
  by_cases e : d = 0
  · subst e; exact h0
  · cases ho : Mask.occ key l (p + d) with
    | false => rfl
    | true =>
      exfalso
      have hbd := skN_bd key b (key.length - 1) (by omega)
      have hd2 : d < key.length := by omega
      have hl := Mask.occ_len ho hk
      have h2 := (Mask.occ_bytes key l (p + d) hl).1 ho (key.length - 1 - d) (by omega)
      have e2 : p + d + (key.length - 1 - d) = p + (key.length - 1) := by omega
      rw [e2] at h2
      have h3 := hbd.2.2.2 (key.length - 1 - d) (by omega) (by rw [← h2]; exact hb)
      omega

set_option maxRecDepth 20000 in
set_option maxHeartbeats 400000 in
theorem index_any (s : ByteArray) (kb cap tb pb o m c : Nat) (l : List UInt8) (w : World) (hsz : s.size ≤ 4096) (hs1 : 1 ≤ s.size) (hl : l.length ≤ 1048576) (ho : o + m = l.length) (hc : m ≤ c)
    (hm : Masker w s kb cap tb) (h1 : HasRow w pb l) :
    Calls Try.prog 26 #[maskV s kb cap tb, .slice (some ⟨pb, o, none⟩) m c] w fun e w' => IndexEnd s.data.toList l o e ∧ Below w.heap.size w w' := by
  have hpl := h1.lt
  have hkl := hm.key.lt
  have htl := hm.tab.lt
  have hcap := hm.cap1
  have hkc := hm.key.cell (s.size - 1) (by show s.size - 1 < s.size; omega)
  have hn1 : s.size - 1 < s.size := by omega
  rw [getD_at s _ hn1] at hkc
  unfold maskV
  go_enter Try.func26, Try.ntmps26
  go_wp2
  go_loopw [7, 8] (fun x _ wr => ∃ k : Nat, k ≤ m + 255 ∧ x = .int .i64 k ∧ HasRow wr pb l ∧ HasBox wr w.heap.size s kb cap tb ∧ Masker wr s kb cap tb ∧ Below w.heap.size w wr ∧ ∀ i, i < k → Mask.occ s.data.toList l (o + i) = false) (fun x _ _ => m + 256 - (intOf x).toNat)
  case atStart =>
    have hbl := (Below.refl w.heap.size w).alloc (Nat.le_refl _) (.cells (maskC s kb cap tb) 38)
    exact ⟨0, by omega, rfl, h1.alloc _, HasBox.new w s kb cap tb, ⟨hm.tab.alloc _, hm.key.alloc _, hm.cap1, hm.cap2⟩, hbl, fun i hi => by omega⟩
  case round =>
    clear h1 hm hkc
    obtain ⟨k, hk, rfl, h1, hx, hm, hb, hall⟩ := hrel
    have HA : Hid (∀ i, i < k → Mask.occ s.data.toList l (o + i) = false) := hall
    clear hall
    by_cases hlt : k + s.size ≤ m
    · have d1 := h1.cell (o + (k + s.size - 1)) (by omega)
      have hvb : (l.getD (o + (k + s.size - 1)) 0).toNat < 256 := UInt8.toNat_lt _
      have d2 := hm.tab.cell (l.getD (o + (k + s.size - 1)) 0).toNat hvb
      unfold skipF at d2
      have hbd := skN_bd s.data.toList (l.getD (o + (k + s.size - 1)) 0).toNat (s.size - 1) (by show s.size - 1 + 1 ≤ s.size; omega)
      have v1 := hbd.1
      have v2 := hbd.2.2.1
      clear hbd
      have d3 := hx.c1
      have d4 := hx.c3
      have HJ : Hid (Mask.occ s.data.toList l (o + k) = false → ∀ d : Nat, (d : Int) < skN s.data.toList (s.size - 1) (l.getD (o + (k + s.size - 1)) 0).toNat → Mask.occ s.data.toList l (o + k + d) = false) :=
        fun h => no_jump (key := s.data.toList) (p := o + k) hs1 (by show (l.getD (o + k + (s.size - 1)) 0).toNat = _; rw [show o + k + (s.size - 1) = o + (k + s.size - 1) from by omega]) h
      cases hcmp : (((l.getD (o + (k + s.size - 1)) 0).toNat : Int) == (s[s.size - 1].toNat : Int)) with
      | false =>
        have hno : Mask.occ s.data.toList l (o + k) = false := by
          cases ho2 : Mask.occ s.data.toList l (o + k) with
          | false => rfl
          | true =>
            exfalso
            have h5 := occ_last (key := s.data.toList) hs1 ho2
            have e5 : o + k + (s.data.toList.length - 1) = o + (k + s.size - 1) := by show o + k + (s.size - 1) = _; omega
            have e6 : s.data.toList.getD (s.data.toList.length - 1) 0 = s[s.size - 1] := getD_at s (s.size - 1) hn1
            rw [e5, e6] at h5
            rw [h5] at hcmp
            simp at hcmp
        have HJ2 : Hid (∀ d : Nat, (d : Int) < skN s.data.toList (s.size - 1) (l.getD (o + (k + s.size - 1)) 0).toNat → Mask.occ s.data.toList l (o + k + d) = false) := HJ.out hno
        clear HJ hno
        generalize skN s.data.toList (s.size - 1) (l.getD (o + (k + s.size - 1)) 0).toNat = v at *
        generalize (l.getD (o + (k + s.size - 1)) 0).toNat = vb at *
        obtain ⟨vn, hvn⟩ := Int.eq_ofNat_of_zero_le (show 0 ≤ v by omega)
        subst hvn
        go_wp2
        go_quiet (fail)
        go_wp2
        go_roundw
        case rel => exact ⟨k + vn, by omega, by go_num, h1, hx, ⟨hm.tab, hm.key, hm.cap1, hm.cap2⟩, below_drewN hb _, fun i hi => by
          by_cases e : i < k
          · exact HA.out i e
          · have := HJ2.out (i - k) (by omega); rwa [show o + k + (i - k) = o + i from by omega] at this⟩
        case measure => simp [intOf]; omega
      | true =>
        have hlast : l.getD (o + k + (s.data.toList.length - 1)) 0 = s.data.toList.getD (s.data.toList.length - 1) 0 := by
          have e5 : o + k + (s.data.toList.length - 1) = o + (k + s.size - 1) := by show o + k + (s.size - 1) = _; omega
          have e6 : s.data.toList.getD (s.data.toList.length - 1) 0 = s[s.size - 1] := getD_at s (s.size - 1) hn1
          rw [e5, e6]
          have := beq_iff_eq.1 hcmp
          exact UInt8.toNat_inj.1 (by omega)
        have hxs : ((l.drop (o + k)).take (s.size - 1)).length = s.size - 1 := by simp; omega
        have hys : (s.data.toList.take (s.size - 1)).length = s.size - 1 := by simp
        have hc1 : ∀ n i, i < s.size - 1 → (wr.drewN n).cell? ⟨pb, o + k + i, none⟩ = some (.int .u8 ((((l.drop (o + k)).take (s.size - 1)).getD i 0).toNat : Int)) := by
          intro n i hi
          have h7 := h1.cell (o + k + i) (by omega)
          have e7 : ((l.drop (o + k)).take (s.size - 1)).getD i 0 = l.getD (o + k + i) 0 := by
            rw [List.getD_eq_getElem?_getD, List.getElem?_take_of_lt hi, List.getElem?_drop, ← List.getD_eq_getElem?_getD]
          rw [e7]; exact h7
        have hc2 : ∀ n i, i < s.size - 1 → (wr.drewN n).cell? ⟨kb, i, none⟩ = some (.int .u8 (((s.data.toList.take (s.size - 1)).getD i 0).toNat : Int)) := by
          intro n i hi
          have h7 := hm.key.cell i (by show i < s.size; omega)
          have e7 : (s.data.toList.take (s.size - 1)).getD i 0 = s.data.toList.getD i 0 := by
            rw [List.getD_eq_getElem?_getD, List.getElem?_take_of_lt hi, ← List.getD_eq_getElem?_getD]
          rw [e7]; exact h7
        have CE : Hid (∀ n, Calls Try.prog 31 #[.slice (some ⟨pb, o + k, none⟩) (k + s.size - 1 - k) (c - k), .slice (some ⟨kb, 0, none⟩) (s.size - 1) cap] (wr.drewN n) fun e w' => e = .returned (.bool ((l.drop (o + k)).take (s.size - 1) == s.data.toList.take (s.size - 1))) ∧ w' = wr.drewN n) :=
          fun n => by
            rw [show k + s.size - 1 - k = s.size - 1 from by omega]
            exact equal_at pb (o + k) kb (s.size - 1) (c - k) cap _ _ (wr.drewN n) hxs hys (hc1 n) (hc2 n)
        clear hxs hys hc1 hc2
        cases hq : ((l.drop (o + k)).take (s.size - 1) == s.data.toList.take (s.size - 1)) with
        | true =>
          have HO : Hid (Mask.occ s.data.toList l (o + k) = true) := occ_of_parts (key := s.data.toList) hs1 (by show o + k + s.size ≤ l.length; omega) (beq_iff_eq.1 hq) hlast
          rw [hq] at CE
          clear hq hlast HJ
          generalize skN s.data.toList (s.size - 1) (l.getD (o + (k + s.size - 1)) 0).toNat = v at *
          generalize (l.getD (o + (k + s.size - 1)) 0).toNat = vb at *
          obtain ⟨vn, hvn⟩ := Int.eq_ofNat_of_zero_le (show 0 ≤ v by omega)
          subst hvn
          go_wp2
          go_quiet ((go_at_call 31; exact Calls.quiet_of_same (CE.out _)))
          go_wp2
          go_ret
          exact ⟨⟨_, rfl, .inr ⟨k, rfl, HO.out, HA.out⟩⟩, below_drewN hb _⟩
        | false =>
          have hno : Mask.occ s.data.toList l (o + k) = false := by
            cases ho2 : Mask.occ s.data.toList l (o + k) with
            | false => rfl
            | true =>
              exfalso
              have h5 : (l.drop (o + k)).take (s.size - 1) = s.data.toList.take (s.size - 1) := parts_of_occ ho2
              rw [h5] at hq
              simp at hq
          have HJ2 : Hid (∀ d : Nat, (d : Int) < skN s.data.toList (s.size - 1) (l.getD (o + (k + s.size - 1)) 0).toNat → Mask.occ s.data.toList l (o + k + d) = false) := HJ.out hno
          rw [hq] at CE
          clear HJ hno hq hlast
          generalize skN s.data.toList (s.size - 1) (l.getD (o + (k + s.size - 1)) 0).toNat = v at *
          generalize (l.getD (o + (k + s.size - 1)) 0).toNat = vb at *
          obtain ⟨vn, hvn⟩ := Int.eq_ofNat_of_zero_le (show 0 ≤ v by omega)
          subst hvn
          go_wp2
          go_quiet ((go_at_call 31; exact Calls.quiet_of_same (CE.out _)))
          go_wp2
          go_roundw
          case rel => exact ⟨k + vn, by omega, by go_num, h1, hx, ⟨hm.tab, hm.key, hm.cap1, hm.cap2⟩, below_drewN hb _, fun i hi => by
            by_cases e : i < k
            · exact HA.out i e
            · have := HJ2.out (i - k) (by omega); rwa [show o + k + (i - k) = o + i from by omega] at this⟩
          case measure => simp [intOf]; omega
    · have HE : Hid (IndexIs s.data.toList l o (-1)) := by
        refine .inl ⟨rfl, fun j hj => ?_⟩
        by_cases e : j < o + k
        · have := HA.out (j - o) (by omega); rwa [show o + (j - o) = j from by omega] at this
        · exact Mask.occ_short hs1 (by show l.length < j + s.size; omega)
      go_wp2
      go_ret
      exact ⟨⟨_, rfl, HE.out⟩, hb⟩

/-- A piece shorter than the key. -/
theorem index_short (s : ByteArray) (kb cap tb m c : Nat) (a : Option Addr) (w : World) (hsz : s.size ≤ 4096) (hs1 : 1 ≤ s.size) (hm1 : m < s.size) (hm : Masker w s kb cap tb) :
    Calls Try.prog 26 #[maskV s kb cap tb, .slice a m c] w fun e w' => e = .returned (.int .i64 (-1)) ∧ Below w.heap.size w w' := by
  have hkl := hm.key.lt
  have hcap := hm.cap1
  have hkc := hm.key.cell (s.size - 1) (by show s.size - 1 < s.size; omega)
  have hn1 : s.size - 1 < s.size := by omega
  rw [getD_at s _ hn1] at hkc
  unfold maskV
  go_enter Try.func26, Try.ntmps26
  go_wp2
  refine wp_loop_rounds 1 ?_
  rw [rounds_succ]
  go_wp2
  go_ret
  exact ⟨rfl, (Below.refl _ _).alloc (Nat.le_refl _) _⟩
end Go.Proofs.Qxb6604104a
