/- ROWS OF BYTES in blocks of the call's own; the walk of zzClone. -/
import Derived.Test.Qxb6604609aRows
import Derived.Test.Qxb6604609aShelf
import Derived.Test.Qxb6604609aScan
import Derived.WalkKit
import Derived.WalkSpells
import Derived.WalkLawsBesides
import Derived.Deep.MidRow
import Derived.OpenShut
import Derived.Lib.LazyBuf
namespace Go.Proofs.Qxb6604609a
open Go.RowKit
set_option linter.unusedSimpArgs false
set_option linter.unusedVariables false

def byteV (c : UInt8) : Value := .int .u8 (c.toNat : Int)
def bytesV (l : List UInt8) : Array Value := (l.map byteV).toArray
theorem bytesV_size (l : List UInt8) : (bytesV l).size = l.length := by simp [bytesV]
theorem bytesV_get (l : List UInt8) (j : Nat) (h : j < l.length) : (bytesV l)[j]? = some (.int .u8 ((l.getD j 0).toNat : Int)) := by
  simp [bytesV, byteV, h]
theorem bytesV_set (l : List UInt8) (i : Nat) (c : UInt8) : (bytesV l).setIfInBounds i (.int .u8 (c.toNat : Int)) = bytesV (l.set i c) := by
  unfold bytesV
  rw [List.setIfInBounds_toArray, List.map_set]; rfl

/-- The bytes l are the block b of w, and may be written. -/
def HasRow (w : World) (b : Nat) (l : List UInt8) : Prop := w.heap[b]? = some (.cells (bytesV l) 5 (0, 0))
theorem HasRow.cell {w : World} {b : Nat} {l : List UInt8} (h : HasRow w b l) (j : Nat) (hj : j < l.length) : w.cell? ⟨b, j, none⟩ = some (.int .u8 ((l.getD j 0).toNat : Int)) := by
  rw [cell_of_row w b j (bytesV l) 5 (0, 0) h, bytesV_get l j hj]
theorem HasRow.frozen {w : World} {b : Nat} {l : List UInt8} (h : HasRow w b l) (j : Nat) : w.frozen? ⟨b, j, none⟩ = false := frozen_of_row w b j _ 5 h
theorem HasRow.lt {w : World} {b : Nat} {l : List UInt8} (h : HasRow w b l) : b < w.heap.size := by
  have h1 : w.heap[b]? = some (.cells (bytesV l) 5 (0, 0)) := h
  exact (Array.getElem?_eq_some_iff.1 h1).1
theorem HasRow.set {w : World} {b : Nat} {l : List UInt8} (h : HasRow w b l) (i : Nat) (c : UInt8) : HasRow (w.setCell ⟨b, i, none⟩ (.int .u8 (c.toNat : Int))) b (l.set i c) := by
  unfold HasRow
  rw [heap_setCell_same w b i (bytesV l) 5 _ h, bytesV_set]
theorem HasRow.set_other {w : World} {b : Nat} {l : List UInt8} (h : HasRow w b l) (a : Addr) (v : Value) (hb : b ≠ a.block) : HasRow (w.setCell a v) b l := by
  unfold HasRow
  rw [heap_setCell_other w a b v hb]; exact h
theorem HasRow.alloc {w : World} {b : Nat} {l : List UInt8} (h : HasRow w b l) (o : Obj) : HasRow (w.alloc o) b l := by
  unfold HasRow
  rw [Below.heap_alloc w o b h.lt]; exact h
theorem HasRow.below {w w' : World} {B b : Nat} {l : List UInt8} (h : HasRow w b l) (hb : Below B w w') (hlt : b < B) : HasRow w' b l := by
  unfold HasRow
  rw [hb.block b hlt]; exact h
theorem HasRow.new (w : World) (l : List UInt8) : HasRow (w.alloc (.cells (bytesV l) 5)) w.heap.size l := heap_alloc_new w _

theorem Try.info5 : (Try.prog.info? 5).map (fun i => (i.zero, i.size, i.bytes)) = some (some (.int .u8 0), 1, 1) := by kernel_rfl
theorem run_make_bytes (n : Nat) (h : n ≤ 1048576) (W : World) : (Instr.makeSlice 22 (.int .i64 (n : Int)) (.int .i64 (n : Int))).run Try.prog W = .ok (.slice (some ⟨W.heap.size, 0, none⟩) n n) (W.alloc (.cells (bytesV (List.replicate n 0)) 5)) := by
  obtain ⟨i0, hi, hz0, hz1, hz2⟩ := info_parts Try.info5
  have e := run_make (P := Try.prog) W 22 5 i0 (.int .u8 0) Try.underlying22 hi hz0 .i64 .i64 (n : Int) (n : Int) (by omega) (Int.le_refl _) (by rw [hz2]; omega) (by omega)
  rw [e, hz1]
  have e2 : madeCells (Value.int .u8 0).cells ((n : Int).toNat * 1) = bytesV (List.replicate n 0) := by
    unfold madeCells bytesV
    apply Array.ext'
    simp [Value.cells, byteV]
    apply List.ext_getElem?
    intro j
    simp
    by_cases hj : j < n <;> simp [hj, Nat.mod_one]
  rw [e2]; simp

/-- A slice of the call's own, whole: nothing, or a block with its bytes. -/
theorem getD_set_same (l : List UInt8) (i : Nat) (c : UInt8) (h : i < l.length) : (l.set i c).getD i 0 = c := by
  rw [List.getD_eq_getElem?_getD]; simp [h]

set_option maxRecDepth 20000 in
set_option maxHeartbeats 400000 in
theorem clone_nil (w : World) : Calls Try.prog 6 #[.slice none 0 0] w fun e w' => e = .returned (.slice none 0 0) ∧ w' = w := by
  have hq := fun (W : World) => Lib.run_eql_slice_nil (P := Try.prog) W 22 5 none 0 0 0 0 Try.underlying22
  go_enter Try.func6, Try.ntmps6
  go_wp2
  go_ret
  exact ⟨rfl, rfl⟩

theorem fill_step (l : List UInt8) (k : Nat) (h : k < l.length) : (l.take k ++ List.replicate (l.length - k) 0).set k (l.getD k 0) = l.take (k + 1) ++ List.replicate (l.length - (k + 1)) 0 := by
  rw [List.set_append_right _ _ (by simp; omega)]
  have e : l.length - k = (l.length - (k + 1)) + 1 := by omega
  rw [e, List.replicate_succ]
  have e2 : k - (l.take k).length = 0 := by simp; omega
  rw [e2, List.set_cons_zero, List.take_succ_eq_append_getElem h, List.append_assoc]
  congr 1
  rw [List.getD_eq_getElem?_getD, List.getElem?_eq_getElem h]
  rfl
def Cloned (w : World) (l : List UInt8) (e : Ending) (w' : World) : Prop := ∃ b, e = .returned (.slice (some ⟨b, 0, none⟩) l.length l.length) ∧ w.heap.size ≤ b ∧ HasRow w' b l ∧ Below w.heap.size w w'

set_option maxRecDepth 20000 in
set_option maxHeartbeats 400000 in
theorem clone_some (x : Addr) (l : List UInt8) (c : Nat) (w : World) (hl : l.length ≤ 1048576) (hx : ∀ i, i < l.length → w.cell? (x.add i) = some (.int .u8 ((l.getD i 0).toNat : Int))) :
    Calls Try.prog 6 #[.slice (some x) l.length c] w fun e w' => Cloned w l e w' := by
  have hq := fun (W : World) => Lib.run_eql_slice_nil (P := Try.prog) W 22 5 (some x) l.length c 0 0 Try.underlying22
  have hmk := run_make_bytes l.length hl
  have HX : Hid (∀ i, i < l.length → w.cell? (x.add i) = some (.int .u8 ((l.getD i 0).toNat : Int))) := hx
  clear hx
  go_enter Try.func6, Try.ntmps6
  go_wp2
  go_loopw [4] (fun i wr => ∃ k : Nat, k ≤ l.length ∧ i = .int .i64 k ∧ HasRow wr w.heap.size (l.take k ++ List.replicate (l.length - k) 0) ∧ Below w.heap.size w wr) (fun i _ => l.length - (intOf i).toNat)
  case atStart => exact ⟨0, by omega, rfl, HasRow.new w _, (Below.refl _ _).alloc (Nat.le_refl _) _⟩
  case round =>
    obtain ⟨k, hk, rfl, hr, hb⟩ := hrel
    by_cases hlt : k < l.length
    · have hc0 := HX.out k hlt
      have hc : wr.cell? (x.add k) = some (.int .u8 ((l.getD k 0).toNat : Int)) := by
        rw [hb.cell (block_lt_of_cell hc0)]; exact hc0
      have hlen : k < (l.take k ++ List.replicate (l.length - k) (0 : UInt8)).length := by simp; omega
      have hd := hr.cell k hlen
      have hf := hr.frozen k
      have R1 := hr.set k (l.getD k 0)
      rw [fill_step l k hlt] at R1
      have R2 := hb.setCell (p := ⟨w.heap.size, k, none⟩) (Nat.le_refl _) (.int .u8 ((l.getD k 0).toNat : Int))
      clear hc0 hr hb hlen
      generalize (l.getD k 0).toNat = v at *
      go_wp2
      go_roundw
      case rel => exact ⟨k + 1, by omega, by go_num, R1, R2⟩
      case measure => simp [intOf]; omega
    · have e : l.take k ++ List.replicate (l.length - k) (0 : UInt8) = l := by
        have h0 : l.length - k = 0 := by omega
        rw [h0, List.take_of_length_le (by omega)]; simp
      rw [e] at hr
      have HR : Hid (HasRow wr w.heap.size l) := hr
      clear hr e
      go_wp2
      go_ret
      exact ⟨_, rfl, Nat.le_refl _, HR.out, hb⟩

/-- zzClone of a slice of no byte. -/
theorem clone_zero (a : Option Addr) (c : Nat) (w : World) (ha : a = none → c = 0) : Calls Try.prog 6 #[.slice a 0 c] w fun e w' => (∃ a', e = .returned (.slice a' 0 0)) ∧ Below w.heap.size w w' := by
  cases a with
  | none =>
    rw [ha rfl]
    refine (clone_nil w).mono ?_
    rintro e w' ⟨rfl, rfl⟩
    exact ⟨⟨_, rfl⟩, Below.refl _ _⟩
  | some x =>
    refine (clone_some x [] c w (by simp) (fun i hi => by simp at hi)).mono ?_
    rintro e w' ⟨b, rfl, _, _, hb⟩
    exact ⟨⟨_, rfl⟩, hb⟩

/-! ### A slice of bytes that came in, as a list of bytes -/
def SliceIn (w : World) (a : Option Addr) (len cap : Nat) (zs : List Int) : Prop :=
  (a = none ∧ len = 0 ∧ cap = 0 ∧ zs = []) ∨
  ∃ x, a = some x ∧ len ≤ cap ∧ cap ≤ maxLen ∧ zs.length = cap ∧ (∀ i, i < zs.length → w.cell? (x.add i) = some (.int .u8 (zs.getD i 0))) ∧ ∀ n ∈ zs, (Lit.int .u8 n).wf = true
theorem SliceIn.row {w : World} {a : Option Addr} {len cap : Nat} {zs : List Int} (h : SliceIn w a len cap zs) (hl : 1 ≤ len) :
    ∃ x l, a = some x ∧ List.length l = len ∧ ∀ i, i < len → w.cell? (x.add i) = some (.int .u8 ((l.getD i (0 : UInt8)).toNat : Int)) := by
  rcases h with ⟨_, h2, _⟩ | ⟨x, rfl, h1, h2, h3, h4, h5⟩
  · omega
  · refine ⟨x, (zs.take len).map (fun z => z.toNat.toUInt8), rfl, by simp; omega, fun i hi => ?_⟩
    rw [h4 i (by omega)]
    have hz : zs.getD i 0 ∈ zs := by
      rw [List.getD_eq_getElem?_getD, List.getElem?_eq_getElem (by omega)]
      exact List.getElem_mem _
    have hb := bounds_u8 (h5 _ hz)
    have e : ((zs.take len).map (fun z => z.toNat.toUInt8)).getD i 0 = (zs.getD i 0).toNat.toUInt8 := by
      rw [List.getD_eq_getElem?_getD, List.getD_eq_getElem?_getD, List.getElem?_map, List.getElem?_take_of_lt hi, List.getElem?_eq_getElem (by omega)]
      rfl
    rw [e]
    congr 2
    generalize zs.getD i 0 = z at *
    have e2 : z.toNat.toUInt8.toNat = z.toNat := by
      simp [Nat.toUInt8]
      omega
    rw [e2]
    omega
theorem SliceIn.nil_cap {w : World} {a : Option Addr} {len cap : Nat} {zs : List Int} (h : SliceIn w a len cap zs) : a = none → cap = 0 := by
  intro e
  rcases h with ⟨_, _, h3, _⟩ | ⟨x, h1, _⟩
  · exact h3
  · rw [e] at h1; cases h1

end Go.Proofs.Qxb6604609a
