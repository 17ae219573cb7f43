/- THE WALK of newMasker. -/
import Derived.Test.Qxb6604104aFill
import Derived.Deep.RegionLaw
import Derived.Deep.RegionWith
import Derived.Laws.CopyOwn
import Derived.Deep.LoopGhost
namespace Go.Proofs.Qxb6604104a
open Go.RowKit
set_option linter.unusedSimpArgs false
set_option linter.unusedVariables false

theorem Try.size38 : (Try.prog.info? 38).map (·.size) = some 4 := by kernel_rfl
theorem Try.size5 : (Try.prog.info? 5).map (·.size) = some 1 := by kernel_rfl

/-- 'copy(t[k:], t[:k])' in a table, as one step of a region that draws its order. -/
theorem step_copy_tab {ops : Array Oper} {o : Oper} {a : Act} {w : World} {K : Act → World → Prop} {Q : Exit → Act → World → Prop} {E : Prop} (hgd : o.guard = none) (d s : Operand)
    (ho : o.op = .call { callee := .builtin .copy, args := #[d, s], argTypes := #[23, 23] }) (b k dc sc : Nat) (hk : 1 ≤ k) (hk2 : k + k ≤ 256) (f : Nat → Value)
    (hd : a.eval d = .slice (some ⟨b, k, none⟩) (256 - k) dc) (hs : a.eval s = .slice (some ⟨b, 0, none⟩) k sc)
    (ht : HasTab w b 24 f) (h1 : ∀ j, (f j).oneCell' = true)
    (h : ∀ w', HasTab w' b 24 (fun j => if k ≤ j ∧ j < k + k then f (j - k) else f j) → Below b w w' → K (a.put o.dst (goInt k)) w') :
    if Region.wanted o (yielded ops a.tmps) = true then Oper.wp Try.prog o a w K Q else E := by
  have hw : Region.wanted o (yielded ops a.tmps) = true := by simp [Region.wanted, hgd]
  rw [if_pos hw]
  have hsrc : ∀ j v, ((List.range k).map f)[j]? = some v → w.cell? ((⟨b, 0, none⟩ : Addr).add j) = some v := by
    intro j v hv
    rw [Addr.add_mid, Nat.zero_add]
    rw [List.getElem?_map] at hv
    by_cases hj : j < k
    · rw [List.getElem?_range hj] at hv
      simp at hv; subst hv
      exact ht.cell j (by omega)
    · rw [List.getElem?_eq_none (by simp; omega)] at hv
      cases hv
  have hrun := run_copy_row (P := Try.prog) w 23 23 o.type 5 b k (256 - k) dc ⟨b, 0, none⟩ k sc (tabV f) 24 ((List.range k).map f) Try.underlying23 Try.size5 ht
    (by simp [Nat.min_def]; omega) hsrc (by simp [tabV_size]; omega) (fun v hv => by simp at hv; obtain ⟨j, _, rfl⟩ := hv; exact h1 j)
  have e : ((tabV f).toList.take k ++ (List.range k).map f ++ (tabV f).toList.drop (k + ((List.range k).map f).length)).toArray = tabV (fun j => if k ≤ j ∧ j < k + k then f (j - k) else f j) := by
    apply Array.ext'
    apply List.ext_getElem?
    intro j
    simp only [tabV, List.getElem?_append, List.length_append, List.length_take, List.length_map, List.length_range, List.getElem?_drop, List.getElem?_take, List.getElem?_map]
    have em : min k 256 = k := by omega
    rw [em]
    by_cases h3 : j < k
    · have h4 : j < 256 := by omega
      have h5 : ¬ (k ≤ j ∧ j < k + k) := by omega
      have h6 : j < k + k := by omega
      simp [h3, h4, h5, h6]
      omega
    · by_cases h4 : j < k + k
      · have h5 : j < 256 := by omega
        have h6 : k ≤ j := by omega
        have h7 : j - k < k := by omega
        simp [h3, h4, h5, h6, h7]
      · have h6 : k + k + (j - (k + k)) = j := by omega
        by_cases h5 : j < 256
        · simp [h3, h4, h6, h5]
        · simp [h3, h4, h6, h5]
  rw [e] at hrun
  unfold Oper.wp
  simp only [List.length_map, List.length_range] at hrun
  simp [execOp, ho, resolve, invoke, builtin, hd, hs, hrun, Result.andThen]
  exact h _ (ht.setRow _) (below_setRow (Below.refl _ _) (Nat.le_refl _) _)

set_option maxRecDepth 20000 in
set_option maxHeartbeats 400000 in
theorem newMasker_empty (s : ByteArray) (w : World) (hs : s.toList.isEmpty = true) :
    Calls Try.prog 20 #[.string s] w fun e w' => e = .returned (.agg #[.string ByteArray.empty, .slice none 0 0, .int .u8 0, .pointer none]) ∧ Below w.heap.size w w' := by
  go_enter Try.func20, Try.ntmps20
  go_wp2
  exact bodyPost_ret (v := .agg #[.string ByteArray.empty, .slice none 0 0, .int .u8 0, .pointer none]) (by simp [results, Try.results20, go_sem]; rfl) rfl ⟨rfl, (Below.refl _ _).alloc (Nat.le_refl _) _⟩

def zeroM : Array Value := #[Value.string { data := #[] }, Value.slice none 0 0, Value.int IntKind.u8 0, Value.pointer none]
/-- The struct of the result, still of zeros, lies in block b. -/
def HasZero (w : World) (b : Nat) : Prop := w.heap[b]? = some (.cells zeroM 38 (0, 0))
theorem HasZero.below {w w' : World} {b B : Nat} (h : HasZero w b) (hb : Below B w w') (hlt : b < B) : HasZero w' b := by
  unfold HasZero; rw [hb.block b hlt]; exact h
theorem HasZero.setCell {w : World} {b : Nat} (h : HasZero w b) (a : Addr) (v : Value) (hb : b ≠ a.block) : HasZero (w.setCell a v) b := by
  unfold HasZero; rw [Below.heap_setCell w a v b hb]; exact h
def Pow8 (k : Nat) : Prop := k = 1 ∨ k = 2 ∨ k = 4 ∨ k = 8 ∨ k = 16 ∨ k = 32 ∨ k = 64 ∨ k = 128 ∨ k = 256
theorem Pow8.bd {k : Nat} (h : Pow8 k) (hlt : k < 256) : 1 ≤ k ∧ k ≤ 128 ∧ Pow8 (k + k) := by
  unfold Pow8 at *; omega
theorem Pow8.le {k : Nat} (h : Pow8 k) : 1 ≤ k ∧ k ≤ 256 := by unfold Pow8 at *; omega

theorem Try.len24 : Try.prog.arrayLen 24 = 256 := by kernel_rfl
theorem Try.elem24 : Try.prog.elem 24 = 5 := by kernel_rfl
theorem run_tab_from (b k : Nat) (hk : k < 256) (W : World) : (Instr.sliceAt 24 (.pointer (some ⟨b, 0, none⟩)) (some (.int .i64 k)) none none).run Try.prog W = .ok (.slice (some ⟨b, k, none⟩) (256 - k) (256 - k)) W := by
  have e := run_sliceAt_array_l (P := Try.prog) W 24 ⟨b, 0, none⟩ Try.underlying24 .i64 (k : Int) (by omega) (by rw [Try.len24]; omega)
  rw [e, Try.elem24, Try.sizeOf5, Try.len24]
  have h2 : ¬ 256 = k := by omega
  simp [slicedAt, Addr.add_mid, h2]
theorem run_tab_upto (b k : Nat) (hk : k < 256) (W : World) : (Instr.sliceAt 24 (.pointer (some ⟨b, 0, none⟩)) none (some (.int .i64 k)) none).run Try.prog W = .ok (.slice (some ⟨b, 0, none⟩) k 256) W := by
  have e := run_sliceAt_array_h (P := Try.prog) W 24 ⟨b, 0, none⟩ Try.underlying24 .i64 (k : Int) (by omega) (by rw [Try.len24]; omega)
  rw [e, Try.elem24, Try.sizeOf5, Try.len24]
  simp [slicedAt, Addr.add_mid]

/-- The table while it is filled by doubling: the first k places hold the key's length, cut at 255. -/
def half (s : ByteArray) (k : Nat) (j : Nat) : Value := if j < k then .int .u8 (min (s.size : Int) 255) else .int .u8 0
theorem half_one (s : ByteArray) (k j : Nat) : (half s k j).oneCell' = true := by unfold half; split <;> rfl
theorem half_step (s : ByteArray) (k j : Nat) : (if k ≤ j ∧ j < k + k then half s k (j - k) else half s k j) = half s (k + k) j := by
  unfold half
  by_cases h1 : j < k
  · rw [if_neg (by omega), if_pos h1, if_pos (by omega)]
  · by_cases h2 : j < k + k
    · rw [if_pos (by omega), if_pos (by omega), if_pos h2]
    · rw [if_neg (by omega), if_neg h1, if_neg h2]

/-- The skip of byte j behind the first k places of the key. -/
def skN (l : List UInt8) : Nat → Nat → Int
  | 0, _ => min (l.length : Int) 255
  | k + 1, j => if (l.getD k 0).toNat = j then min ((l.length : Int) - 1 - k) 255 else skN l k j
def skipF (l : List UInt8) (k j : Nat) : Value := .int .u8 (skN l k j)
theorem skipF_zero (s : ByteArray) (j : Nat) (hj : j < 256) : half s 256 j = skipF s.data.toList 0 j := by
  unfold half skipF skN
  rw [if_pos hj]; rfl

theorem getD_at (s : ByteArray) (k : Nat) (h : k < s.size) : s.data.toList.getD k 0 = s[k] := by
  have h2 : k < s.data.toList.length := h
  rw [List.getD_eq_getElem?_getD, List.getElem?_eq_getElem h2]; rfl
theorem skipF_succ (s : ByteArray) (k : Nat) (h : k < s.size) (j : Nat) : (if j = s[k].toNat then Value.int .u8 (min ((s.size : Int) - 1 - k) 255) else skipF s.data.toList k j) = skipF s.data.toList (k + 1) j := by
  unfold skipF
  rw [skN, getD_at s k h]
  by_cases e : j = s[k].toNat
  · subst e; rw [if_pos rfl, if_pos rfl]; rfl
  · rw [if_neg e, if_neg (fun h => e h.symm)]

/-- The bytes l lie in block b from its head on. -/
def HasKey (w : World) (b : Nat) (l : List UInt8) : Prop := ∃ C t fr, w.heap[b]? = some (.cells C t fr) ∧ ∀ i, i < l.length → C[i]? = some (.int .u8 ((l.getD i 0).toNat : Int))
theorem HasKey.cell {w : World} {b : Nat} {l : List UInt8} (h : HasKey w b l) (i : Nat) (hi : i < l.length) : w.cell? ⟨b, i, none⟩ = some (.int .u8 ((l.getD i 0).toNat : Int)) := by
  obtain ⟨C, t, fr, h1, h2⟩ := h
  rw [cell_of_row w b i C t fr h1]; exact h2 i hi
theorem HasKey.lt {w : World} {b : Nat} {l : List UInt8} (h : HasKey w b l) : b < w.heap.size := by
  obtain ⟨C, t, fr, h1, h2⟩ := h
  exact (Array.getElem?_eq_some_iff.1 h1).1
theorem HasKey.below {w w' : World} {b B : Nat} {l : List UInt8} (h : HasKey w b l) (hb : Below B w w') (hlt : b < B) : HasKey w' b l := by
  obtain ⟨C, t, fr, h1, h2⟩ := h
  exact ⟨C, t, fr, by rw [hb.block b hlt]; exact h1, h2⟩
theorem HasKey.setCell {w : World} {b : Nat} {l : List UInt8} (h : HasKey w b l) (a : Addr) (v : Value) (hb : b ≠ a.block) : HasKey (w.setCell a v) b l := by
  obtain ⟨C, t, fr, h1, h2⟩ := h
  exact ⟨C, t, fr, by rw [Below.heap_setCell w a v b hb]; exact h1, h2⟩
theorem hasKey_new (w : World) (s : ByteArray) (cap : Nat) (fr : Nat × Nat) : HasKey (w.alloc (.cells (bytesRow s cap) 5 fr)).drew w.heap.size s.data.toList := by
  refine ⟨_, _, _, heap_alloc_new w _, fun i hi => ?_⟩
  have hi' : i < s.data.size := hi
  unfold bytesRow
  rw [Array.getElem?_append_left (by simpa using hi')]
  rw [Array.getElem?_map, Array.getElem?_eq_getElem hi', getD_at s i hi]
  rfl
/-- A masker as newMasker gives it: the struct, and what its table and its bytes hold in the world behind. -/
def maskV (s : ByteArray) (kb cap b : Nat) : Value := .agg #[.string s, .slice (some ⟨kb, 0, none⟩) s.size cap, .int .u8 (fillN s.data.toList : Nat), .pointer (some ⟨b, 0, none⟩)]
structure Masker (w : World) (s : ByteArray) (kb cap b : Nat) : Prop where
  tab : HasTab w b 24 (skipF s.data.toList (s.size - 1))
  key : HasKey w kb s.data.toList
  cap1 : s.size ≤ cap
  cap2 : cap ≤ maxLen
def MaskerEnd (s : ByteArray) (w : World) (e : Ending) (w' : World) : Prop := ∃ kb cap b, e = .returned (maskV s kb cap b) ∧ w.heap.size ≤ kb ∧ w.heap.size ≤ b ∧ Masker w' s kb cap b ∧ Below w.heap.size w w'

set_option maxRecDepth 20000 in
set_option maxHeartbeats 400000 in
theorem newMasker_more (s : ByteArray) (w : World) (hs : s.toList.isEmpty = false) (hsz : s.size ≤ 4096) (h1 : 1 ≤ s.size) :
    Calls Try.prog 20 #[.string s] w fun e w' => MaskerEnd s w e w' := by
  have z24 := (zero_of_info Try.zero24).1
  go_enter Try.func20, Try.ntmps20
  go_wp2
  go_loopw [4] (fun v wr => ∃ k : Nat, Pow8 k ∧ v = .int .i64 k ∧ HasTab wr (w.heap.size + 1) 24 (half s k) ∧ HasZero wr w.heap.size ∧ Below w.heap.size w wr)
    (fun v _ => 256 - (intOf v).toNat)
  case atStart =>
    refine ⟨1, .inl rfl, rfl, ?_, ?_, ((Below.refl _ _).alloc (Nat.le_refl _) _).alloc (by simp) _⟩
    · rw [tabV_set]
      have h := HasTab.new (w.alloc (.cells zeroM 38)) 24 (fun j => if j = 0 then .int .u8 (min (s.size : Int) 255) else .int .u8 0)
      simp only [World.size_alloc] at h
      refine h.congr (fun j _ => ?_)
      unfold half
      by_cases e : j = 0 <;> simp [e]
    · exact heap_alloc2_old w _ _
  case round =>
    obtain ⟨k, hp, rfl, ht, hz, hb⟩ := hrel
    have hkl := hp.le
    by_cases hlt : k < 256
    · obtain ⟨hk1, hk2, hp2⟩ := hp.bd hlt
      have hk3 : k + k ≤ 256 := by omega
      have hs1 := run_tab_from (w.heap.size + 1) k hlt
      have hs2 := run_tab_upto (w.heap.size + 1) k hlt
      go_wp2
      go_region_law (refine step_copy_tab rfl (.tmp 24) (.tmp 28) rfl (w.heap.size + 1) k (256 - k) 256 hk1 hk3 (half s k) ?_ ?_ (HasTab.drew ht) (half_one s k) ?_; (go_simp); (go_simp); intro w1 ht1 hb1)
      have ht2 : HasTab w1 (w.heap.size + 1) 24 (half s (k + k)) := ht1.congr (fun j _ => half_step s k j)
      have hz2 : HasZero w1 w.heap.size := HasZero.below (w := wr.drew) hz hb1 (by omega)
      have hb2 : Below w.heap.size w w1 := hb.drew.trans (hb1.mono (by omega))
      clear ht1 hb1 ht hz hb hs1 hs2
      go_wp2
      go_roundw
      case rel => exact ⟨k + k, hp2, by go_num, ht2, hz2, hb2⟩
      case measure => simp [intOf]; omega
    · have hk : k = 256 := by omega
      subst hk
      have ht0 : HasTab wr (w.heap.size + 1) 24 (skipF s.data.toList 0) := ht.congr (fun j hj => skipF_zero s j hj)
      clear ht hkl hp
      go_wp2
      go_loopw [33, 5] (fun v _ wr => ∃ k : Nat, k + 1 ≤ s.size ∧ v = .int .i64 k ∧ HasTab wr (w.heap.size + 1) 24 (skipF s.data.toList k) ∧ HasZero wr w.heap.size ∧ Below w.heap.size w wr) (fun v _ _ => s.size - (intOf v).toNat)
      case atStart => exact ⟨0, by omega, rfl, ht0, hz, hb⟩
      case round =>
        obtain ⟨k, hk, rfl, ht, hz, hb⟩ := hrel
        by_cases hlt : k + 1 < s.size
        · have hks : k < s.size := by omega
          have hb8 : s[k].toNat < 256 := UInt8.toNat_lt _
          have hc := ht.cell s[k].toNat hb8
          have hf := ht.frozen s[k].toNat
          have R1 := (ht.set s[k].toNat (.int .u8 (min ((s.size : Int) - 1 - k) 255))).congr (g := skipF s.data.toList (k + 1)) (fun j _ => skipF_succ s k hks j)
          have R2 := hz.setCell ⟨w.heap.size + 1, s[k].toNat, none⟩ (.int .u8 (min ((s.size : Int) - 1 - k) 255)) (by simp)
          have R3 := hb.setCell (p := ⟨w.heap.size + 1, s[k].toNat, none⟩) (by simp) (.int .u8 (min ((s.size : Int) - 1 - k) 255))
          clear ht hz hb
          go_wp2
          go_region
          go_wp2
          go_roundw
          case rel => exact ⟨k + 1, by omega, by go_num, R1, R2, R3.drew⟩
          case measure => simp [intOf]; omega
        · have hk2 : k = s.size - 1 := by omega
          subst hk2
          have hcv := fun W => run_bytes_of_string (P := Try.prog) W 9 23 5 s Try.underlying9 Try.underlying23 Try.underlying5
          go_wp2_with fail
          refine (fillFor_any s _ (by omega)).mono ?_
          rintro e w1 ⟨rfl, hw1⟩
          clear hcv z24
          have hsz1 : w.heap.size + 1 < wr.heap.size := ht.lt
          obtain ⟨hz1, ht1, hb1, hk1⟩ : HasZero w1 w.heap.size ∧ HasTab w1 (w.heap.size + 1) 24 (skipF s.data.toList (s.size - 1)) ∧ Below w.heap.size w w1 ∧ HasKey w1 wr.heap.size s.data.toList := by
            subst hw1
            refine ⟨?_, (ht.alloc _).drew, (hb.alloc (by omega) _).drew, ?_⟩
            · show (wr.alloc _).heap[w.heap.size]? = _
              rw [Below.heap_alloc _ _ _ (by omega)]; exact hz
            · exact hasKey_new wr s _ _
          clear hw1 hz ht hb
          have hcap := grownCap_ge wr s.size 0 5
          have hcap2 := grownCap_le_maxLen wr s.size 0 5 (by unfold maxLen; omega)
          generalize grownCap wr s.size 0 5 = cap at *
          have hc0 : w1.cell? ⟨w.heap.size, 0, none⟩ = some (.string { data := #[] }) := cell_of_row w1 _ 0 _ 38 (0, 0) hz1
          have hc1 : w1.cell? ⟨w.heap.size, 1, none⟩ = some (.slice none 0 0) := cell_of_row w1 _ 1 _ 38 (0, 0) hz1
          have hc2 : w1.cell? ⟨w.heap.size, 2, none⟩ = some (.int .u8 0) := cell_of_row w1 _ 2 _ 38 (0, 0) hz1
          have hc3 : w1.cell? ⟨w.heap.size, 3, none⟩ = some (.pointer none) := cell_of_row w1 _ 3 _ 38 (0, 0) hz1
          have hf0 := frozen_of_row w1 w.heap.size 0 _ 38 hz1
          have hf1 := frozen_of_row w1 w.heap.size 1 _ 38 hz1
          have hf2 := frozen_of_row w1 w.heap.size 2 _ 38 hz1
          have hf3 := frozen_of_row w1 w.heap.size 3 _ 38 hz1
          have Hk : Hid (HasKey w1 wr.heap.size s.data.toList) := hk1
          clear hk1
          have HG : Hid (((((w1.setCell ⟨w.heap.size, 0, none⟩ (.string s)).setCell ⟨w.heap.size, 1, none⟩ (.slice (some ⟨wr.heap.size, 0, none⟩) s.size cap)).setCell ⟨w.heap.size, 2, none⟩ (.int .u8 (fillN s.data.toList : Nat))).setCell ⟨w.heap.size, 3, none⟩ (.pointer (some ⟨w.heap.size + 1, 0, none⟩))).heap[w.heap.size]? =
              some (.cells #[.string s, .slice (some ⟨wr.heap.size, 0, none⟩) s.size cap, .int .u8 (fillN s.data.toList : Nat), .pointer (some ⟨w.heap.size + 1, 0, none⟩)] 38 (0, 0))) :=
            heap_setCell_same _ w.heap.size 3 _ 38 _ (heap_setCell_same _ w.heap.size 2 _ 38 _ (heap_setCell_same _ w.heap.size 1 _ 38 _ (heap_setCell_same w1 w.heap.size 0 _ 38 _ hz1)))
          go_wp2
          refine bodyPost_ret (v := maskV s wr.heap.size cap (w.heap.size + 1)) (results_cell_row Try.results20 _ _ w.heap.size 38 _ (0, 0) _ rfl HG.out Try.underlying38 rfl Try.size38) rfl ⟨wr.heap.size, cap, w.heap.size + 1, rfl, by omega, by omega, ⟨?_, ?_, hcap, hcap2⟩, ?_⟩
          · exact (((ht1.set_other _ _ (by simp)).set_other _ _ (by simp)).set_other _ _ (by simp)).set_other _ _ (by simp)
          · exact (((Hk.out.setCell _ _ (by simp; omega)).setCell _ _ (by simp; omega)).setCell _ _ (by simp; omega)).setCell _ _ (by simp; omega)
          · exact (((hb1.setCell (by simp) _).setCell (by simp) _).setCell (by simp) _).setCell (by simp) _
end Go.Proofs.Qxb6604104a
