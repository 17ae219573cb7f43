/- THE WALKS of the masker's methods active, cover, index. -/
import Derived.Test.Qxb6604104aRowB
namespace Go.Proofs.Qxb6604104a
open Go.RowKit
set_option linter.unusedSimpArgs false
set_option linter.unusedVariables false

/-- Of what lay in w, block pb alone may have turned. -/
structure But (pb : Nat) (w w' : World) : Prop where
  os : w'.os = w.os
  tape : w'.tape = w.tape
  output : w'.output = w.output
  size : w.heap.size ≤ w'.heap.size
  block : ∀ k, k < w.heap.size → k ≠ pb → w'.heap[k]? = w.heap[k]?
theorem But.refl (pb : Nat) (w : World) : But pb w w := ⟨rfl, rfl, rfl, Nat.le_refl _, fun _ _ _ => rfl⟩
theorem But.trans {pb : Nat} {a b c : World} (h : But pb a b) (k : But pb b c) : But pb a c :=
  ⟨k.os.trans h.os, k.tape.trans h.tape, k.output.trans h.output, Nat.le_trans h.size k.size, fun i hi hp => (k.block i (Nat.lt_of_lt_of_le hi h.size) hp).trans (h.block i hi hp)⟩
theorem But.of_below {pb : Nat} {a b : World} (h : Below a.heap.size a b) : But pb a b := ⟨h.os, h.tape, h.output, h.size, fun k hk _ => h.block k hk⟩
theorem But.below {pb B : Nat} {a b c : World} (h : Below B a b) (k : But pb b c) (hp : B ≤ pb) (hB : B ≤ b.heap.size) : Below B a c :=
  ⟨k.os.trans h.os, k.tape.trans h.tape, k.output.trans h.output, Nat.le_trans h.size k.size, fun i hi => (k.block i (by omega) (by omega)).trans (h.block i hi)⟩
theorem But.set {pb : Nat} {a b : World} (h : But pb a b) (i : Nat) (v : Value) : But pb a (b.setCell ⟨pb, i, none⟩ v) :=
  ⟨h.os, h.tape, h.output, by simp [World.setCell]; exact h.size, fun k hk hp => by rw [Below.heap_setCell b _ v k hp]; exact h.block k hk hp⟩
theorem But.alloc {pb : Nat} {a b : World} (h : But pb a b) (o : Obj) : But pb a (b.alloc o) :=
  ⟨h.os, h.tape, h.output, by have := h.size; simp; omega, fun k hk hp => by rw [Below.heap_alloc b o k (Nat.lt_of_lt_of_le hk h.size)]; exact h.block k hk hp⟩
theorem But.drew {pb : Nat} {a b : World} (h : But pb a b) : But pb a b.drew := ⟨h.os, h.tape, h.output, h.size, h.block⟩
theorem But.drewN {pb : Nat} {a b : World} (h : But pb a b) (n : Nat) : But pb a (b.drewN n) := ⟨h.os, h.tape, h.output, h.size, h.block⟩
theorem HasTab.but {w w' : World} {pb b t : Nat} {f : Nat → Value} (h : HasTab w b t f) (hb : But pb w w') (hp : b ≠ pb) : HasTab w' b t f := by
  unfold HasTab; rw [hb.block b h.lt hp]; exact h
theorem HasKey.but {w w' : World} {pb b : Nat} {l : List UInt8} (h : HasKey w b l) (hb : But pb w w') (hp : b ≠ pb) : HasKey w' b l := by
  have hlt := h.lt
  obtain ⟨C, t, fr, h1, h2⟩ := h
  exact ⟨C, t, fr, by rw [hb.block b hlt hp]; exact h1, h2⟩
theorem Masker.but {w w' : World} {pb : Nat} {s : ByteArray} {kb cap b : Nat} (h : Masker w s kb cap b) (hb : But pb w w') (h1 : kb ≠ pb) (h2 : b ≠ pb) : Masker w' s kb cap b :=
  ⟨h.tab.but hb h2, h.key.but hb h1, h.cap1, h.cap2⟩
theorem HasRow.but {w w' : World} {pb b : Nat} {l : List UInt8} (h : HasRow w b l) (hb : But pb w w') (hp : b ≠ pb) : HasRow w' b l := by
  unfold HasRow; rw [hb.block b h.lt hp]; exact h

/-- The struct's four cells lie in block b. -/
def maskC (s : ByteArray) (kb cap tb : Nat) : Array Value := #[.string s, .slice (some ⟨kb, 0, none⟩) s.size cap, .int .u8 (fillN s.data.toList : Nat), .pointer (some ⟨tb, 0, none⟩)]
def HasBox (w : World) (b : Nat) (s : ByteArray) (kb cap tb : Nat) : Prop := w.heap[b]? = some (.cells (maskC s kb cap tb) 38 (0, 0))
theorem HasBox.c0 {w : World} {b : Nat} {s : ByteArray} {kb cap tb : Nat} (h : HasBox w b s kb cap tb) : w.cell? ⟨b, 0, none⟩ = some (.string s) := cell_of_row w b 0 _ 38 (0, 0) h
theorem HasBox.c1 {w : World} {b : Nat} {s : ByteArray} {kb cap tb : Nat} (h : HasBox w b s kb cap tb) : w.cell? ⟨b, 1, none⟩ = some (.slice (some ⟨kb, 0, none⟩) s.size cap) := cell_of_row w b 1 _ 38 (0, 0) h
theorem HasBox.c2 {w : World} {b : Nat} {s : ByteArray} {kb cap tb : Nat} (h : HasBox w b s kb cap tb) : w.cell? ⟨b, 2, none⟩ = some (.int .u8 (fillN s.data.toList : Nat)) := cell_of_row w b 2 _ 38 (0, 0) h
theorem HasBox.c3 {w : World} {b : Nat} {s : ByteArray} {kb cap tb : Nat} (h : HasBox w b s kb cap tb) : w.cell? ⟨b, 3, none⟩ = some (.pointer (some ⟨tb, 0, none⟩)) := cell_of_row w b 3 _ 38 (0, 0) h
theorem HasBox.set {w : World} {b : Nat} {s : ByteArray} {kb cap tb : Nat} (h : HasBox w b s kb cap tb) (a : Addr) (v : Value) (hb : b ≠ a.block) : HasBox (w.setCell a v) b s kb cap tb := by
  unfold HasBox; rw [heap_setCell_other w a b v hb]; exact h
theorem HasBox.lt {w : World} {b : Nat} {s : ByteArray} {kb cap tb : Nat} (h : HasBox w b s kb cap tb) : b < w.heap.size := by
  have h1 : w.heap[b]? = some (.cells (maskC s kb cap tb) 38 (0, 0)) := h
  exact (Array.getElem?_eq_some_iff.1 h1).1
theorem HasBox.but {w w' : World} {pb b : Nat} {s : ByteArray} {kb cap tb : Nat} (h : HasBox w b s kb cap tb) (hb : But pb w w') (hp : b ≠ pb) : HasBox w' b s kb cap tb := by
  unfold HasBox; rw [hb.block b h.lt hp]; exact h
theorem HasBox.new (w : World) (s : ByteArray) (kb cap tb : Nat) : HasBox (w.alloc (.cells (maskC s kb cap tb) 38)) w.heap.size s kb cap tb := heap_alloc_new w _

/-- The fill as a byte. -/
def fillU (l : List UInt8) : UInt8 := (fillN l).toUInt8
theorem fillU_nat (l : List UInt8) : (fillU l).toNat = fillN l := by
  have h := fillN_lt l
  unfold fillU
  simp [Nat.toUInt8]
  omega

/-! ### active -/
set_option maxRecDepth 20000 in
set_option maxHeartbeats 400000 in
theorem active_more (s : ByteArray) (kb cap tb : Nat) (w : World) (hs : s.toList.isEmpty = false) :
    Calls Try.prog 25 #[maskV s kb cap tb] w fun e w' => e = .returned (.bool true) ∧ Below w.heap.size w w' := by
  unfold maskV
  go_enter Try.func25, Try.ntmps25
  go_wp2
  go_ret
  exact ⟨by simp [hs], (Below.refl _ _).alloc (Nat.le_refl _) _⟩
set_option maxRecDepth 20000 in
set_option maxHeartbeats 400000 in
theorem active_empty (w : World) :
    Calls Try.prog 25 #[.agg #[.string ByteArray.empty, .slice none 0 0, .int .u8 0, .pointer none]] w fun e w' => e = .returned (.bool false) ∧ Below w.heap.size w w' := by
  go_enter Try.func25, Try.ntmps25
  go_wp2
  go_ret
  exact ⟨rfl, (Below.refl _ _).alloc (Nat.le_refl _) _⟩

/-! ### cover -/
/-- k bytes from place o on are f. -/
def fillAt (l : List UInt8) (o k : Nat) (f : UInt8) : List UInt8 := l.take o ++ (List.replicate k f ++ l.drop (o + k))
theorem fillAt_len (l : List UInt8) (o k : Nat) (f : UInt8) (h : o + k ≤ l.length) : (fillAt l o k f).length = l.length := by
  unfold fillAt; simp; omega
theorem fillAt_zero (l : List UInt8) (o : Nat) (f : UInt8) : fillAt l o 0 f = l := by
  unfold fillAt; simp
theorem fillAt_succ (l : List UInt8) (o k : Nat) (f : UInt8) (h : o + k < l.length) : (fillAt l o k f).set (o + k) f = fillAt l o (k + 1) f := by
  unfold fillAt
  have e1 : (l.take o).length = o := by simp; omega
  rw [List.set_append_right _ _ (by omega), e1, List.set_append_right _ _ (by simp)]
  have e2 : o + k - o - (List.replicate k f).length = 0 := by simp
  rw [e2]
  have e3 : l.drop (o + k) = l[o + k] :: l.drop (o + k + 1) := List.drop_eq_getElem_cons h
  rw [e3, List.set_cons_zero, List.replicate_succ', List.append_assoc]
  rfl

set_option maxRecDepth 20000 in
set_option maxHeartbeats 400000 in
theorem cover_any (s : ByteArray) (kb cap tb pb o n c : Nat) (l : List UInt8) (w : World) (hl : l.length ≤ 1048576) (ho : o + n ≤ l.length) (h1 : HasRow w pb l) :
    Calls Try.prog 27 #[maskV s kb cap tb, .slice (some ⟨pb, o, none⟩) n c] w fun e w' => e = .returned (.tuple #[]) ∧ HasRow w' pb (fillAt l o n (fillU s.data.toList)) ∧ But pb w w' := by
  have hpl := h1.lt
  have hfu := fillU_nat s.data.toList
  have HF : Hid ((fillU s.data.toList).toNat = fillN s.data.toList) := hfu
  clear hfu
  unfold maskV
  go_enter Try.func27, Try.ntmps27
  go_wp2
  go_loopw [7, 4] (fun x _ wr => ∃ k : Nat, k ≤ n ∧ x = .int .i64 k ∧ HasRow wr pb (fillAt l o k (fillU s.data.toList)) ∧ HasBox wr w.heap.size s kb cap tb ∧ But pb w wr) (fun x _ _ => n - (intOf x).toNat)
  case atStart => exact ⟨0, by omega, rfl, by rw [fillAt_zero]; exact h1.alloc _, HasBox.new w s kb cap tb, (But.refl _ _).alloc _⟩
  case round =>
    clear h1
    obtain ⟨k, hk, rfl, hr, hx, hb⟩ := hrel
    by_cases hlt : k < n
    · have hlen := fillAt_len l o k (fillU s.data.toList) (by omega)
      have d1 := hr.cell (o + k) (by omega)
      have d2 := hr.frozen (o + k)
      have d3 := hx.c2
      have R1 := hr.set (o + k) (fillU s.data.toList)
      rw [fillAt_succ l o k _ (by omega), HF.out] at R1
      have R2 := hx.set ⟨pb, o + k, none⟩ (.int .u8 (fillN s.data.toList : Nat)) (by simp; omega)
      have R3 := hb.set (o + k) (.int .u8 (fillN s.data.toList : Nat))
      clear hr hx hb hlen
      generalize ((fillAt l o k (fillU s.data.toList)).getD (o + k) 0).toNat = v at *
      go_wp2
      go_roundw
      case rel => exact ⟨k + 1, by omega, by go_num, R1, R2, R3⟩
      case measure => simp [intOf]; omega
    · have hkn : k = n := by omega
      subst hkn
      go_wp2
      go_end0
      exact ⟨rfl, hr, hb⟩
end Go.Proofs.Qxb6604104a
