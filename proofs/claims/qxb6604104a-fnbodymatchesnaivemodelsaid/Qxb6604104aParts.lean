/- THE WALK of ZZNewMaskerParts. -/
import Derived.Test.Qxb6604104aNew
import Derived.Deep.RegionHeld
namespace Go.Proofs.Qxb6604104a
open Go.RowKit
set_option linter.unusedSimpArgs false
set_option linter.unusedVariables false

/-- The table as a list. -/
def tabL (f : Nat → Value) : List Value := (List.range 256).map f
theorem tabL_len (f : Nat → Value) : (tabL f).length = 256 := by simp [tabL]
theorem tabL_arr (f : Nat → Value) : (tabL f).toArray = tabV f := rfl
theorem HasTab.range {w : World} {b t : Nat} {f : Nat → Value} (h : HasTab w b t f) : w.rangeAt b 0 (tabL f) := fun j v hv => by
  rw [Nat.zero_add]
  have hj : j < 256 := by have := (List.getElem?_eq_some_iff.1 hv).1; rwa [tabL_len] at this
  rw [h.cell j hj]
  unfold tabL at hv
  rw [List.getElem?_map, List.getElem?_range hj] at hv
  exact hv

theorem HasKey.alloc {w : World} {b : Nat} {l : List UInt8} (h : HasKey w b l) (o : Obj) : HasKey (w.alloc o) b l := by
  have hlt := h.lt
  obtain ⟨C, t, fr, h1, h2⟩ := h
  exact ⟨C, t, fr, by rw [Below.heap_alloc w o b hlt]; exact h1, h2⟩

theorem HasKey.setCells {w : World} {b : Nat} {l : List UInt8} (h : HasKey w b l) (c o : Nat) (vs : List Value) (hb : b ≠ c) : HasKey (w.setCells c o vs) b l := by
  obtain ⟨C, t, fr, h1, h2⟩ := h
  exact ⟨C, t, fr, by rw [setCells_block c b hb]; exact h1, h2⟩

/-- The five answers: key, bytes, fill, table, 'the table is nil'. -/
def partsV (s : ByteArray) (kb cap : Nat) : Value := .tuple #[.string s, .slice (some ⟨kb, 0, none⟩) s.size cap, .int .u8 (fillN s.data.toList : Nat), .agg (tabV (skipF s.data.toList (s.size - 1))), .bool false]
def PartsEnd (s : ByteArray) (w : World) (e : Ending) (w' : World) : Prop := ∃ kb cap, e = .returned (partsV s kb cap) ∧ w.heap.size ≤ kb ∧ HasKey w' kb s.data.toList ∧ s.size ≤ cap ∧ Below w.heap.size w w'

theorem results_parts {fn : Func} (h : fn.results = #[.tmp 2, .tmp 3, .tmp 4, .cell 5 24, .tmp 6]) (tmps : Array Value) (w : World) (a : Addr) (x : Value)
    (hp : tmps.getD 5 undef = .pointer (some a)) (hl : (loadVar 24 a).run Try.prog w = .ok x w) :
    (results fn tmps).run Try.prog w = .ok (.tuple #[tmps.getD 2 undef, tmps.getD 3 undef, tmps.getD 4 undef, x, tmps.getD 6 undef]) w := by
  have hp' : tmps[5]?.getD undef = .pointer (some a) := by simpa using hp
  simp [results, h, hp', asAddr, hl]

set_option maxRecDepth 20000 in
set_option maxHeartbeats 400000 in
theorem parts_more (s : ByteArray) (w : World) (hs : s.toList.isEmpty = false) (hsz : s.size ≤ 4096) (h1 : 1 ≤ s.size) :
    Calls Try.prog 8 #[.string s] w fun e w' => PartsEnd s w e w' := by
  have z24 := (zero_of_info Try.zero24).1
  go_enter Try.func8, Try.ntmps8
  go_wp2_with fail
  refine (newMasker_more s _ hs hsz h1).mono ?_
  rintro e w1 ⟨kb, cap, b, rfl, hkb, hb, ⟨mt, mk, mc1, mc2⟩, mb⟩
  unfold maskV
  simp only [World.size_alloc] at hkb hb mb
  have ht0 : HasTab w1 w.heap.size 24 (fun _ => .int .u8 0) := (HasTab.new w 24 _).below mb (by omega)
  have hsz1 : w.heap.size < w1.heap.size := ht0.lt
  go_wp2
  have hM : ∃ m, m = w1.heap.size := ⟨_, rfl⟩
  obtain ⟨m, hm⟩ := hM
  have hu := Try.underlying24
  have hi : (Try.prog.info? 24).map (·.size) = some (tabL (skipF s.data.toList (s.size - 1))).length := by rw [tabL_len]; exact (zero_of_info Try.zero24).2
  have hl := tabL_len (skipF s.data.toList (s.size - 1))
  have h1c : ∀ v ∈ tabL (skipF s.data.toList (s.size - 1)), v.oneCell' = true := fun v hv => by
    unfold tabL at hv; simp at hv; obtain ⟨j, _, rfl⟩ := hv; rfl
  have g0 : (w1.alloc (.cells #[.string s, .slice (some ⟨kb, 0, none⟩) s.size cap, .int .u8 (fillN s.data.toList : Nat), .pointer (some ⟨b, 0, none⟩)] 38)).heap[m]? = some (.cells #[.string s, .slice (some ⟨kb, 0, none⟩) s.size cap, .int .u8 (fillN s.data.toList : Nat), .pointer (some ⟨b, 0, none⟩)] 38 (0, 0)) := by
    rw [hm]; exact heap_alloc_new w1 _
  have g1 := mt.alloc (.cells #[.string s, .slice (some ⟨kb, 0, none⟩) s.size cap, .int .u8 (fillN s.data.toList : Nat), .pointer (some ⟨b, 0, none⟩)] 38)
  have g2 := ht0.alloc (.cells #[.string s, .slice (some ⟨kb, 0, none⟩) s.size cap, .int .u8 (fillN s.data.toList : Nat), .pointer (some ⟨b, 0, none⟩)] 38)
  have g3 := mk.alloc (.cells #[.string s, .slice (some ⟨kb, 0, none⟩) s.size cap, .int .u8 (fillN s.data.toList : Nat), .pointer (some ⟨b, 0, none⟩)] 38)
  have g4 := ((Below.refl w.heap.size w).alloc (Nat.le_refl _) (.cells (tabV fun _ => .int .u8 0) 24)).trans ((mb.mono (by omega)).alloc (by omega) (.cells #[.string s, .slice (some ⟨kb, 0, none⟩) s.size cap, .int .u8 (fillN s.data.toList : Nat), .pointer (some ⟨b, 0, none⟩)] 38))
  have hbm : b ≠ w.heap.size := by omega
  have hmm : m ≠ w.heap.size := by omega
  have hkm : kb ≠ w.heap.size := by omega
  rw [← hm]
  clear hm mt ht0 mk mb z24 hsz1
  generalize w1.alloc (.cells #[.string s, .slice (some ⟨kb, 0, none⟩) s.size cap, .int .u8 (fillN s.data.toList : Nat), .pointer (some ⟨b, 0, none⟩)] 38) = w2 at *
  have c0 : w2.cell? ⟨m, 0, none⟩ = some (.string s) := cell_of_row w2 m 0 _ 38 (0, 0) g0
  have c1 : w2.cell? ⟨m, 1, none⟩ = some (.slice (some ⟨kb, 0, none⟩) s.size cap) := cell_of_row w2 m 1 _ 38 (0, 0) g0
  have c2 : w2.cell? ⟨m, 2, none⟩ = some (.int .u8 (fillN s.data.toList : Nat)) := cell_of_row w2 m 2 _ 38 (0, 0) g0
  have c3 : w2.cell? ⟨m, 3, none⟩ = some (.pointer (some ⟨b, 0, none⟩)) := cell_of_row w2 m 3 _ 38 (0, 0) g0
  have r1 := g1.range
  have r2 : w2.there w.heap.size 0 256 := by have := g2.there (fun _ => .int .u8 0); rwa [tabV_size] at this
  have G1 : Hid (HasTab w2 b 24 (skipF s.data.toList (s.size - 1))) := g1
  have G2 : Hid (HasTab w2 w.heap.size 24 (fun _ => .int .u8 0)) := g2
  clear g0 g1 g2
  generalize hcs : tabL (skipF s.data.toList (s.size - 1)) = cs at *
  have Hcs : Hid (tabL (skipF s.data.toList (s.size - 1)) = cs) := hcs
  clear hcs
  go_region_held (fun w' => w'.cell? ⟨m, 0, none⟩ = some (.string s) ∧ w'.cell? ⟨m, 1, none⟩ = some (.slice (some ⟨kb, 0, none⟩) s.size cap) ∧ w'.cell? ⟨m, 2, none⟩ = some (.int .u8 (fillN s.data.toList : Nat)) ∧ w'.cell? ⟨m, 3, none⟩ = some (.pointer (some ⟨b, 0, none⟩)) ∧ w'.rangeAt b 0 cs ∧ w'.there w.heap.size 0 256)
    ((go_split_ands; simp only [World.rangeAt_drew, World.there_drew] at *; refine ⟨?_, ?_, ?_, ?_, ?_, ?_⟩ <;> first | assumption | (apply World.there_setCells; assumption) | (refine World.rangeAt_setCells_apart (by assumption) _ _ _ (by omega)) | (rw [World.cell?_setCells_out _ _ _ _ _ (by intro h; exfalso; simp at h; omega)]; assumption) | (simp; assumption))) (fail)
  go_wp2
  have hrg := World.rangeAt_setCells_same w2.drew w.heap.size 0 cs (by rw [hl, World.there_drew]; exact r2)
  have hld := run_loadVar_mid (P := Try.prog) (w2.drew.setCells w.heap.size 0 cs) w.heap.size 0 24 cs _ hrg Try.underlying24 rfl hi
  have hcv : cs.toArray = tabV (skipF s.data.toList (s.size - 1)) := by rw [← Hcs.out]; exact tabL_arr _
  rw [hcv] at hld
  refine bodyPost_ret (v := partsV s kb cap) (results_parts Try.results8 _ _ _ _ rfl hld) rfl ⟨kb, cap, rfl, by omega, ?_, mc1, ?_⟩
  · exact HasKey.setCells (w := w2.drew) g3 _ _ _ hkm
  · exact below_setCells _ (Nat.le_refl _) _ _ _ g4.drew

def parts0V : Value := .tuple #[.string ByteArray.empty, .slice none 0 0, .int .u8 0, .agg (tabV fun _ => .int .u8 0), .bool true]

set_option maxRecDepth 20000 in
set_option maxHeartbeats 400000 in
theorem parts_empty (s : ByteArray) (w : World) (hs : s.toList.isEmpty = true) :
    Calls Try.prog 8 #[.string s] w fun e w' => e = .returned parts0V ∧ Below w.heap.size w w' := by
  have z24 := (zero_of_info Try.zero24).1
  go_enter Try.func8, Try.ntmps8
  go_wp2_with fail
  refine (newMasker_empty s _ hs).mono ?_
  rintro e w1 ⟨rfl, mb⟩
  simp only [World.size_alloc] at mb
  have ht0 : HasTab w1 w.heap.size 24 (fun _ => .int .u8 0) := (HasTab.new w 24 _).below mb (by omega)
  have hsz1 : w.heap.size < w1.heap.size := ht0.lt
  go_wp2
  have hM : ∃ m, m = w1.heap.size := ⟨_, rfl⟩
  obtain ⟨m, hm⟩ := hM
  have hu := Try.underlying24
  have hi : (Try.prog.info? 24).map (·.size) = some (tabL (fun _ => .int .u8 0)).length := by rw [tabL_len]; exact (zero_of_info Try.zero24).2
  have hl := tabL_len (fun _ => .int .u8 0)
  have h1c : ∀ v ∈ tabL (fun _ => .int .u8 0), v.oneCell' = true := fun v hv => by
    unfold tabL at hv; simp at hv; rw [← hv.2]; rfl
  have g0 : (w1.alloc (.cells #[.string ByteArray.empty, .slice none 0 0, .int .u8 0, .pointer none] 38)).heap[m]? = some (.cells #[.string ByteArray.empty, .slice none 0 0, .int .u8 0, .pointer none] 38 (0, 0)) := by
    rw [hm]; exact heap_alloc_new w1 _
  have g2 := ht0.alloc (.cells #[.string ByteArray.empty, .slice none 0 0, .int .u8 0, .pointer none] 38)
  have g4 := ((Below.refl w.heap.size w).alloc (Nat.le_refl _) (.cells (tabV fun _ => .int .u8 0) 24)).trans ((mb.mono (by omega)).alloc (by omega) (.cells #[.string ByteArray.empty, .slice none 0 0, .int .u8 0, .pointer none] 38))
  have hmm : m ≠ w.heap.size := by omega
  rw [← hm]
  clear hm ht0 mb z24 hsz1
  generalize w1.alloc (.cells #[.string ByteArray.empty, .slice none 0 0, .int .u8 0, .pointer none] 38) = w2 at *
  have c0 : w2.cell? ⟨m, 0, none⟩ = some (.string ByteArray.empty) := cell_of_row w2 m 0 _ 38 (0, 0) g0
  have c1 : w2.cell? ⟨m, 1, none⟩ = some (.slice none 0 0) := cell_of_row w2 m 1 _ 38 (0, 0) g0
  have c2 : w2.cell? ⟨m, 2, none⟩ = some (.int .u8 0) := cell_of_row w2 m 2 _ 38 (0, 0) g0
  have r1 := g2.range
  have r2 : w2.there w.heap.size 0 256 := by have := g2.there (fun _ => .int .u8 0); rwa [tabV_size] at this
  clear g0 g2
  generalize hcs : tabL (fun _ => .int .u8 0) = cs at *
  have Hcs : Hid (tabL (fun _ => .int .u8 0) = cs) := hcs
  clear hcs
  go_region_held (fun w' => w'.cell? ⟨m, 0, none⟩ = some (.string ByteArray.empty) ∧ w'.cell? ⟨m, 1, none⟩ = some (.slice none 0 0) ∧ w'.cell? ⟨m, 2, none⟩ = some (.int .u8 0) ∧ w'.rangeAt w.heap.size 0 cs ∧ w'.there w.heap.size 0 256)
    ((go_split_ands; simp only [World.rangeAt_drew, World.there_drew] at *; refine ⟨?_, ?_, ?_, ?_, ?_⟩ <;> first | assumption | (apply World.there_setCells; assumption) | (refine World.rangeAt_setCells_same _ _ _ _ (by rw [hl]; assumption)) | (rw [World.cell?_setCells_out _ _ _ _ _ (by intro h; exfalso; simp at h; omega)]; assumption) | (simp; assumption))) (fail)
  go_wp2
  have hrg := World.rangeAt_setCells_same w2.drew w.heap.size 0 cs (by rw [hl, World.there_drew]; exact r2)
  have hld := run_loadVar_mid (P := Try.prog) (w2.drew.setCells w.heap.size 0 cs) w.heap.size 0 24 cs _ hrg Try.underlying24 rfl hi
  have hcv : cs.toArray = tabV (fun _ => .int .u8 0) := by rw [← Hcs.out]; exact tabL_arr _
  rw [hcv] at hld
  exact bodyPost_ret (v := parts0V) (results_parts Try.results8 _ _ _ _ rfl hld) rfl ⟨rfl, below_setCells _ (Nat.le_refl _) _ _ _ g4.drew⟩
end Go.Proofs.Qxb6604104a
