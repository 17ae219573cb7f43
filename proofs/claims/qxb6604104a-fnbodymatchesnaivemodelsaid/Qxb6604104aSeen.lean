/- THE WALKS of fwbSeen, fwbLacksSomeByte. -/
import Derived.Test.Qxb6604104aRows
import Derived.Test.Qxb6604104aTab
import Derived.WalkSpells
import Derived.WalkLawsBesides
namespace Go.Proofs.Qxb6604104a
open Go.RowKit
set_option linter.unusedSimpArgs false
set_option linter.unusedVariables false

theorem Try.zero27 : (Try.prog.info? 27).map (fun i => (i.zero, i.size)) = some (some (.agg (tabV fun _ => .bool false)), 256) := by kernel_rfl
theorem Try.zero24 : (Try.prog.info? 24).map (fun i => (i.zero, i.size)) = some (some (.agg (tabV fun _ => .int .u8 0)), 256) := by kernel_rfl

/-- Does the key hold the byte value j? -/
def seenB (l : List UInt8) (j : Nat) : Bool := l.any (fun b => b.toNat == j)
def seenF (l : List UInt8) (j : Nat) : Value := .bool (seenB l j)

theorem seenB_snoc (l : List UInt8) (c : UInt8) (j : Nat) : seenB (l ++ [c]) j = (seenB l j || c.toNat == j) := by simp [seenB]
theorem take_snoc (s : ByteArray) (k : Nat) (h : k < s.size) : s.data.toList.take (k + 1) = s.data.toList.take k ++ [s[k]] := by
  rw [List.take_succ_eq_append_getElem (by simpa using h)]; rfl

set_option maxHeartbeats 400000 in
theorem fwbSeen_any (s : ByteArray) (w : World) (hs : s.size ≤ 1048576) :
    Calls Try.prog 9 #[.string s] w fun e w' => e = .returned (.agg (tabV (seenF s.data.toList))) ∧ Below w.heap.size w w' := by
  have z27 := (zero_of_info Try.zero27).1
  go_enter Try.func9, Try.ntmps9
  go_wp2
  go_loopw [4] (fun i wr => ∃ k : Nat, k ≤ s.size ∧ i = .int .i64 k ∧ HasTab wr w.heap.size 27 (fun _ => .bool false) ∧ HasTab wr (w.heap.size + 1) 27 (seenF (s.data.toList.take k)) ∧ Below w.heap.size w wr) (fun i _ => s.size - (intOf i).toNat)
  case atStart =>
    refine ⟨0, Nat.zero_le _, rfl, (HasTab.new w 27 _).alloc _, ?_, ((Below.refl _ _).alloc (Nat.le_refl _) _).alloc (by simp) _⟩
    have h := HasTab.new (w.alloc (Obj.cells (tabV fun x => Value.bool false) 27)) 27 (fun _ => .bool false)
    simp only [World.size_alloc] at h
    exact h
  case round =>
    obtain ⟨k, hk, rfl, ht0, ht1, hb⟩ := hrel
    by_cases hlt : k < s.size
    · have hc := ht1.cell s[k].toNat (UInt8.toNat_lt _)
      have hf := ht1.frozen s[k].toNat
      have hb8 : s[k].toNat < 256 := UInt8.toNat_lt _
      have R1 := ht1.set s[k].toNat (.bool true)
      have R0 := ht0.set_other ⟨w.heap.size + 1, s[k].toNat, none⟩ (.bool true) (by simp)
      have Rb := hb.setCell (p := ⟨w.heap.size + 1, s[k].toNat, none⟩) (by simp) (.bool true)
      have R1' : HasTab (wr.setCell ⟨w.heap.size + 1, s[k].toNat, none⟩ (.bool true)) (w.heap.size + 1) 27 (seenF (s.data.toList.take (k + 1))) := by
        refine R1.congr (fun j hj => ?_)
        rw [take_snoc s k hlt]
        unfold seenF
        rw [seenB_snoc]
        by_cases e : j = s[k].toNat
        · subst e; simp
        · have e' : ¬ s[k].toNat = j := fun h => e h.symm
          simp [e, e']
      clear ht0 ht1 hb R1
      go_wp2
      go_roundw
      case rel => exact ⟨k + 1, by omega, by go_num, R0, R1', Rb⟩
      case measure => simp [intOf]; omega
    · have e : s.data.toList.take k = s.data.toList := List.take_of_length_le (by simp; omega)
      rw [e] at ht1
      clear e
      have hi := (zero_of_info Try.zero27).2
      have hi2 : (Try.prog.info? 27).map (·.size) = some (tabV (seenF s.data.toList)).size := by rw [tabV_size]; exact hi
      have h1 := tabV_one (seenF s.data.toList) (fun j _ => rfl)
      have hth := ht0.there (seenF s.data.toList)
      have hT0 := ht0.setCells (seenF s.data.toList)
      have hBl := below_setCells w.heap.size (Nat.le_refl _) (tabV (seenF s.data.toList)).toList 0 wr hb
      have HT : Hid (HasTab wr (w.heap.size + 1) 27 (seenF s.data.toList)) := ht1
      have H0 : Hid (wr.there w.heap.size 0 (tabV (seenF s.data.toList)).size) := hth
      have H2 : Hid ((Try.prog.info? 27).map (·.size) = some (tabV (seenF s.data.toList)).size) := hi2
      have H3 : Hid ((tabV (seenF s.data.toList)).all (·.oneCell') = true) := h1
      have H4 : Hid (HasTab (wr.setCells w.heap.size 0 (tabV (seenF s.data.toList)).toList) w.heap.size 27 (seenF s.data.toList)) := hT0
      clear hi hi2 h1 hth ht0 ht1 z27 hT0
      go_wp2_with (first | refine wpList_load_row rfl 27 _ rfl (w.heap.size + 1) rfl 27 _ (0, 0) _ HT.out Try.underlying27 rfl H2.out ?_ | refine wpList_store_mid rfl 27 _ _ rfl w.heap.size 0 (tabV (seenF s.data.toList)) rfl rfl H0.out H2.out H3.out ?_)
      exact bodyPost_ret (v := .agg (tabV (seenF s.data.toList))) (results_cell_row Try.results9 _ _ w.heap.size 27 _ (0, 0) _ rfl H4.out Try.underlying27 rfl H2.out) rfl ⟨rfl, hBl⟩

/-- Does the key lack some byte value? -/
def lacksB (l : List UInt8) : Bool := (List.range 256).any (fun j => !seenB l j)
theorem lacks_true {l : List UInt8} {j : Nat} (hj : j < 256) (h : seenB l j = false) : lacksB l = true := by
  unfold lacksB
  rw [List.any_eq_true]
  exact ⟨j, by simpa using hj, by simp [h]⟩
theorem lacks_false {l : List UInt8} (h : ∀ j, j < 256 → seenB l j = true) : lacksB l = false := by
  unfold lacksB
  rw [List.any_eq_false]
  intro j hj
  simp [h j (by simpa using hj)]

set_option maxRecDepth 20000 in
set_option maxHeartbeats 400000 in
theorem fwbLacks_any (s : ByteArray) (w : World) (hs : s.size ≤ 1048576) :
    Calls Try.prog 10 #[.string s] w fun e w' => e = .returned (.bool (lacksB s.data.toList)) ∧ Below w.heap.size w w' := by
  have z27 := (zero_of_info Try.zero27).1
  go_enter Try.func10, Try.ntmps10
  go_wp2_with fail
  refine (fwbSeen_any s _ hs).mono ?_
  rintro e w1 ⟨rfl, hb1⟩
  have ht0 := HasTab.new w1 27 (fun _ => .bool false)
  have hth := ht0.there (seenF s.data.toList)
  have hT := ht0.setCells (seenF s.data.toList)
  have hBl := below_setCells w1.heap.size (Nat.le_refl _) (tabV (seenF s.data.toList)).toList 0 _ ((Below.refl w1.heap.size w1).alloc (Nat.le_refl _) (.cells (tabV fun _ => .bool false) 27))
  have H0 : Hid ((w1.alloc (.cells (tabV fun _ => .bool false) 27)).there w1.heap.size 0 (tabV (seenF s.data.toList)).size) := hth
  have H2 : Hid ((Try.prog.info? 27).map (·.size) = some (tabV (seenF s.data.toList)).size) := by show _ = _; rw [tabV_size]; exact (zero_of_info Try.zero27).2
  have H3 : Hid ((tabV (seenF s.data.toList)).all (·.oneCell') = true) := tabV_one (seenF s.data.toList) (fun j _ => rfl)
  have Hb : Below w.heap.size w ((w1.alloc (.cells (tabV fun _ => .bool false) 27)).setCells w1.heap.size 0 (tabV (seenF s.data.toList)).toList) := hb1.trans (hBl.mono hb1.size)
  have H4 : Hid (HasTab ((w1.alloc (.cells (tabV fun _ => .bool false) 27)).setCells w1.heap.size 0 (tabV (seenF s.data.toList)).toList) w1.heap.size 27 (seenF s.data.toList)) := hT
  clear ht0 hth hT hBl hb1
  go_wp2_with (refine wpList_store_mid rfl 27 _ _ rfl w1.heap.size 0 (tabV (seenF s.data.toList)) rfl rfl H0.out H2.out H3.out ?_)
  generalize ((w1.alloc (.cells (tabV fun _ => .bool false) 27)).setCells w1.heap.size 0 (tabV (seenF s.data.toList)).toList) = w2 at *
  have hT := H4.out
  go_loop [4] (fun i => ∃ k : Nat, k ≤ 256 ∧ i = .int .i64 k ∧ ∀ j, j < k → seenB s.data.toList j = true) (fun i => 256 - (intOf i).toNat)
  case atStart => exact ⟨0, by omega, rfl, fun j hj => by omega⟩
  case round =>
    obtain ⟨k, hk, rfl, hall⟩ := hrel
    have HA : Hid (∀ j, j < k → seenB s.data.toList j = true) := hall
    by_cases hlt : k < 256
    · have hc := hT.cell k hlt
      cases hsb : seenB s.data.toList k with
      | true =>
        have hc' : w2.cell? ⟨w1.heap.size, k, none⟩ = some (.bool true) := by rw [hc]; unfold seenF; rw [hsb]
        clear hc hall
        have HS : Hid (seenB s.data.toList k = true) := hsb
        clear hsb
        go_wp2
        go_round
        case rel => exact ⟨k + 1, by omega, by go_num, fun j hj => by
          by_cases e : j = k
          · subst e; exact HS.out
          · exact HA.out j (by omega)⟩
        case measure => simp [intOf]; omega
      | false =>
        have hc' : w2.cell? ⟨w1.heap.size, k, none⟩ = some (.bool false) := by rw [hc]; unfold seenF; rw [hsb]
        have HS : Hid (lacksB s.data.toList = true) := lacks_true hlt hsb
        clear hsb hc hall
        go_wp2
        go_ret
        exact ⟨by rw [HS.out]; rfl, Hb⟩
    · have HS : Hid (lacksB s.data.toList = false) := lacks_false (fun j hj => hall j (by omega))
      clear hall
      go_wp2
      go_ret
      exact ⟨by rw [HS.out]; rfl, Hb⟩
end Go.Proofs.Qxb6604104a
