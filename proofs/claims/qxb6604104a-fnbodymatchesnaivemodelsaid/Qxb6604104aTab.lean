/- TABLES of 256 cells, told by a function on the place; small laws on worlds. No Go in sight. -/
import Derived.WalkKit
import Derived.Deep.WholeRow
import Derived.Deep.MidRow
namespace Go.Proofs.Qxb6604104a
open Go.RowKit

def tabV (f : Nat → Value) : Array Value := ((List.range 256).map f).toArray

theorem tabV_size (f : Nat → Value) : (tabV f).size = 256 := by simp [tabV]
theorem tabV_get (f : Nat → Value) (j : Nat) (h : j < 256) : (tabV f)[j]? = some (f j) := by
  simp [tabV, h]
theorem tabV_set (f : Nat → Value) (i : Nat) (v : Value) : (tabV f).setIfInBounds i v = tabV (fun j => if j = i then v else f j) := by
  apply Array.ext_getElem?
  intro j
  rw [Array.getElem?_setIfInBounds]
  by_cases hj : j < 256
  · rw [tabV_get _ j hj, tabV_get _ j hj]
    by_cases e : i = j
    · subst e; simp [tabV_size, hj]
    · have e' : ¬ j = i := fun h => e h.symm
      simp [e, e']
  · have h1 : (tabV f)[j]? = none := by simp [tabV_size]; omega
    have h2 : (tabV (fun j => if j = i then v else f j))[j]? = none := by simp [tabV_size]; omega
    rw [h1, h2]
    split
    · rw [if_neg (by rw [tabV_size]; omega)]
    · rfl
theorem tabV_congr {f g : Nat → Value} (h : ∀ j, j < 256 → f j = g j) : tabV f = tabV g := by
  unfold tabV
  congr 1
  apply List.map_congr_left
  intro j hj
  exact h j (by simpa using hj)
theorem tabV_one (f : Nat → Value) (h : ∀ j, j < 256 → (f j).oneCell' = true) : (tabV f).all (·.oneCell') = true := by
  unfold tabV
  apply all_oneCell_toArray
  intro v hv
  simp at hv
  obtain ⟨j, hj, rfl⟩ := hv
  exact h j hj
theorem replicate_tabV (v : Value) : Array.replicate 256 v = tabV (fun _ => v) := by
  unfold tabV
  apply Array.ext'
  simp [List.map_const']

/-- The table f lies in block b of w, may be written. -/
def HasTab (w : World) (b t : Nat) (f : Nat → Value) : Prop := w.heap[b]? = some (.cells (tabV f) t (0, 0))

theorem HasTab.cell {w : World} {b t : Nat} {f : Nat → Value} (h : HasTab w b t f) (j : Nat) (hj : j < 256) : w.cell? ⟨b, j, none⟩ = some (f j) := by
  rw [cell_of_row w b j (tabV f) t (0, 0) h, tabV_get f j hj]
theorem HasTab.frozen {w : World} {b t : Nat} {f : Nat → Value} (h : HasTab w b t f) (j : Nat) : w.frozen? ⟨b, j, none⟩ = false :=
  frozen_of_row w b j _ t h
theorem HasTab.lt {w : World} {b t : Nat} {f : Nat → Value} (h : HasTab w b t f) : b < w.heap.size := by
  have h1 : w.heap[b]? = some (.cells (tabV f) t (0, 0)) := h
  exact (Array.getElem?_eq_some_iff.1 h1).1
theorem HasTab.set {w : World} {b t : Nat} {f : Nat → Value} (h : HasTab w b t f) (i : Nat) (v : Value) : HasTab (w.setCell ⟨b, i, none⟩ v) b t (fun j => if j = i then v else f j) := by
  unfold HasTab
  rw [heap_setCell_same w b i (tabV f) t v h, tabV_set]
theorem HasTab.set_other {w : World} {b t : Nat} {f : Nat → Value} (h : HasTab w b t f) (a : Addr) (v : Value) (hb : b ≠ a.block) : HasTab (w.setCell a v) b t f := by
  unfold HasTab
  rw [heap_setCell_other w a b v hb]; exact h
theorem HasTab.alloc {w : World} {b t : Nat} {f : Nat → Value} (h : HasTab w b t f) (o : Obj) : HasTab (w.alloc o) b t f := by
  unfold HasTab
  rw [Below.heap_alloc w o b h.lt]; exact h
theorem HasTab.drew {w : World} {b t : Nat} {f : Nat → Value} (h : HasTab w b t f) : HasTab w.drew b t f := h
theorem HasTab.congr {w : World} {b t : Nat} {f g : Nat → Value} (h : HasTab w b t f) (e : ∀ j, j < 256 → f j = g j) : HasTab w b t g := by
  unfold HasTab; rw [← tabV_congr e]; exact h
theorem HasTab.setRow {w : World} {b t : Nat} {f : Nat → Value} (h : HasTab w b t f) (g : Nat → Value) : HasTab (w.setRow b (tabV g)) b t g := by
  unfold HasTab
  exact setRow_heap w b (tabV f) (tabV g) t (0, 0) h
theorem HasTab.setRow_other {w : World} {b t : Nat} {f : Nat → Value} (h : HasTab w b t f) (c : Nat) (cs : Array Value) (hb : b ≠ c) : HasTab (w.setRow c cs) b t f := by
  unfold HasTab
  rw [Go.setRow_other w c b cs (by omega)]; exact h
theorem HasTab.new (w : World) (t : Nat) (f : Nat → Value) : HasTab (w.alloc (.cells (tabV f) t)) w.heap.size t f := heap_alloc_new w _
theorem HasTab.below {w w' : World} {B b t : Nat} {f : Nat → Value} (h : HasTab w b t f) (hb : Below B w w') (hlt : b < B) : HasTab w' b t f := by
  unfold HasTab
  rw [hb.block b hlt]; exact h

theorem setCells_size (b : Nat) : ∀ (vs : List Value) (o : Nat) (w : World), (w.setCells b o vs).heap.size = w.heap.size
  | [], _, _ => rfl
  | v :: r, o, w => by rw [World.setCells, setCells_size b r]; simp [World.setCell]
theorem setCells_block (b : Nat) (k : Nat) (h : k ≠ b) : ∀ (vs : List Value) (o : Nat) (w : World), (w.setCells b o vs).heap[k]? = w.heap[k]?
  | [], _, _ => rfl
  | v :: r, o, w => by rw [World.setCells, setCells_block b k h r]; exact Below.heap_setCell w _ v k h
theorem below_setCells {B : Nat} {a : World} (b : Nat) (hb : B ≤ b) : ∀ (vs : List Value) (o : Nat) (w : World), Below B a w → Below B a (w.setCells b o vs)
  | [], _, _, h => h
  | v :: r, o, w, h => by rw [World.setCells]; exact below_setCells b hb r (o + 1) _ (h.setCell hb v)
theorem HasTab.setCells_other {w : World} {b t : Nat} {f : Nat → Value} (h : HasTab w b t f) (c o : Nat) (vs : List Value) (hb : b ≠ c) : HasTab (w.setCells c o vs) b t f := by
  unfold HasTab
  rw [setCells_block c b hb]; exact h
theorem HasTab.there {w : World} {b t : Nat} {f : Nat → Value} (h : HasTab w b t f) (g : Nat → Value) : w.there b 0 (tabV g).size := fun j hj => by
  rw [tabV_size] at hj
  rw [Nat.zero_add]
  exact ⟨by rw [h.cell j hj]; rfl, h.frozen j⟩
/-- The whole table stored over a table. -/
theorem HasTab.setCells {w : World} {b t : Nat} {f : Nat → Value} (h : HasTab w b t f) (g : Nat → Value) : HasTab (w.setCells b 0 (tabV g).toList) b t g := by
  have hlt := h.lt
  have h1 : w.heap[b]? = some (.cells (tabV f) t (0, 0)) := h
  have key : ∀ (vs : List Value) (o : Nat) (w : World) (cs : Array Value), w.heap[b]? = some (.cells cs t (0, 0)) → o + vs.length ≤ cs.size →
      ∃ cs', (w.setCells b o vs).heap[b]? = some (.cells cs' t (0, 0)) ∧ cs'.size = cs.size := by
    intro vs
    induction vs with
    | nil => intro o w cs h _; exact ⟨cs, h, rfl⟩
    | cons v r ih =>
      intro o w cs h hl
      rw [World.setCells]
      have h2 := heap_setCell_same w b o cs t v h
      obtain ⟨cs', h3, h4⟩ := ih (o + 1) _ _ h2 (by simp at hl ⊢; omega)
      exact ⟨cs', h3, by simpa using h4⟩
  obtain ⟨cs', h2, h3⟩ := key (tabV g).toList 0 w (tabV f) h1 (by simp [tabV_size])
  unfold HasTab
  rw [h2]
  have h4 := World.rangeAt_setCells_same w b 0 (tabV g).toList (by simpa using h.there g)
  have h5 : cs' = tabV g := by
    apply Array.ext_getElem?
    intro j
    by_cases hj : j < 256
    · have h6 := h4 j (g j) (by rw [Array.getElem?_toList]; exact tabV_get g j hj)
      rw [Nat.zero_add, cell_of_row _ b j cs' t (0, 0) h2] at h6
      rw [h6, tabV_get g j hj]
    · rw [Array.getElem?_eq_none (by rw [h3, tabV_size]; omega), Array.getElem?_eq_none (by rw [tabV_size]; omega)]
  rw [h5]

/-- A whole table stored over a table: the world behind it is a letter. -/
theorem wpList_store_tab {P : Program} {ops : Array Oper} {rest : List Oper} {op : Oper} {a : Act} {w : World} {Q : Exit → Act → World → Prop} (hgd : op.guard = none) (ty : TypeId) (x y : Operand) (ho : op.op = .store ty x y)
    (b t : Nat) (f g : Nat → Value) (hx : a.eval x = .pointer (some ⟨b, 0, none⟩)) (hy : a.eval y = .agg (tabV g))
    (ht : HasTab w b t f) (hi : (P.info? ty).map (·.size) = some 256) (h1 : ∀ j, j < 256 → (g j).oneCell' = true)
    (h : ∀ w', HasTab w' b t g → Below b w w' → wpList P ops Q rest (a.put op.dst undef) w') : wpList P ops Q (op :: rest) a w :=
  wpList_store_mid hgd ty x y ho b 0 (tabV g) hx hy (ht.there g) (by rw [tabV_size]; exact hi) (tabV_one g h1)
    (h _ (ht.setCells g) (below_setCells b (Nat.le_refl _) _ _ _ (Below.refl _ _)))
end Go.Proofs.Qxb6604104a
