/- THE WALK of fillFor. -/
import Derived.Test.Qxb6604104aSeen
import Derived.Test.Qxb6604104aShelf
namespace Go.Proofs.Qxb6604104a
open Go.RowKit
set_option linter.unusedSimpArgs false
set_option linter.unusedVariables false

/-- The place of the fill behind '*': the first byte value from 42 on (round the table) that the key lacks. -/
def fillN (l : List UInt8) : Nat := match (List.range 256).find? (fun d => !seenB l ((42 + d) % 256)) with
  | some d => (42 + d) % 256
  | none => 42

theorem fillN_lt (l : List UInt8) : fillN l < 256 := by unfold fillN; split <;> omega

theorem find_range (p : Nat → Bool) : ∀ (n k : Nat), k < n → (∀ d, d < k → p d = false) → p k = true → (List.range n).find? p = some k := by
  intro n k hk h1 h2
  rw [List.find?_range_eq_some]
  exact ⟨h2, by simpa using hk, fun j hj => by simp [h1 j hj]⟩

theorem fill_at {l : List UInt8} {k : Nat} (hk : k < 256) (h1 : ∀ d, d < k → seenB l ((42 + d) % 256) = true) (h2 : seenB l ((42 + k) % 256) = false) : fillN l = (42 + k) % 256 := by
  unfold fillN
  rw [find_range _ 256 k hk (fun d hd => by simp [h1 d hd]) (by simp [h2])]
theorem fill_none {l : List UInt8} (h1 : ∀ d, d < 256 → seenB l ((42 + d) % 256) = true) : fillN l = 42 := by
  unfold fillN
  have h : (List.range 256).find? (fun d => !seenB l ((42 + d) % 256)) = none := by
    rw [List.find?_eq_none]
    intro d hd
    simp [h1 d (by simpa using hd)]
  rw [h]

theorem idx_seen (l : List UInt8) (c : UInt8) : (Lib.indexByte l c < 0) ↔ seenB l c.toNat = false := by
  induction l with
  | nil => simp [Lib.indexByte, seenB]
  | cons b l ih =>
    unfold Lib.indexByte
    have hg := Lib.indexByte_ge l c
    have e : seenB (b :: l) c.toNat = ((b.toNat == c.toNat) || seenB l c.toNat) := by simp [seenB]
    rw [e]
    by_cases hb : b = c
    · subst hb; simp
    · have hb' : ¬ b.toNat = c.toNat := fun h => hb (UInt8.toNat_inj.1 h)
      simp [hb, hb', ← ih]
      split <;> omega

set_option maxRecDepth 20000 in
set_option maxHeartbeats 400000 in
theorem fillFor_any (s : ByteArray) (w : World) (hs : s.size ≤ 1048576) :
    Calls Try.prog 24 #[.string s] w fun e w' => e = .returned (.int .u8 (fillN s.data.toList : Nat)) ∧ w' = w := by
  go_enter Try.func24, Try.ntmps24
  go_wp2
  go_loop [5, 3, 4] (fun i _ _ => ∃ k : Nat, k ≤ 256 ∧ i = .int .i64 k ∧ ∀ d, d < k → seenB s.data.toList ((42 + d) % 256) = true) (fun i _ _ => 256 - (intOf i).toNat)
  case atStart => exact ⟨0, by omega, rfl, fun j hj => by omega⟩
  case round =>
    obtain ⟨k, hk, rfl, hall⟩ := hrel
    have HA : Hid (∀ d, d < k → seenB s.data.toList ((42 + d) % 256) = true) := hall
    clear hall
    by_cases hlt : k < 256
    · have hu : ((42 + (k : Int)) % 256).toNat.toUInt8.toNat = (42 + k) % 256 := by
        have e : ((42 + (k : Int)) % 256).toNat = (42 + k) % 256 := by omega
        rw [e]
        simp
      have hix := idx_seen s.data.toList ((42 + (k : Int)) % 256).toNat.toUInt8
      rw [hu] at hix
      go_wp2_with fail
      refine (Try.strings_IndexByte _ _ _).mono ?_
      rintro e w' ⟨rfl, rfl⟩
      generalize Lib.indexByte s.data.toList ((42 + (k : Int)) % 256).toNat.toUInt8 = ix at *
      clear hu
      cases hsb : seenB s.data.toList ((42 + k) % 256) with
      | false =>
        have hneg : ix < 0 := hix.2 hsb
        have HS : Hid (fillN s.data.toList = (42 + k) % 256) := fill_at hlt HA.out hsb
        clear hix hsb
        go_wp2
        go_ret
        exact ⟨by rw [HS.out]; go_num, rfl⟩
      | true =>
        have hneg : ¬ ix < 0 := fun h => by have := hix.1 h; rw [hsb] at this; cases this
        have HS : Hid (seenB s.data.toList ((42 + k) % 256) = true) := hsb
        clear hix hsb
        go_wp2
        go_round
        case rel => exact ⟨k + 1, by omega, by go_num, fun j hj => by
          by_cases e : j = k
          · subst e; exact HS.out
          · exact HA.out j (by omega)⟩
        case measure => simp [intOf]; omega
    · have HS : Hid (fillN s.data.toList = 42) := fill_none (fun j hj => HA.out j (by omega))
      go_wp2
      go_ret
      exact ⟨by rw [HS.out]; rfl, rfl⟩
end Go.Proofs.Qxb6604104a
