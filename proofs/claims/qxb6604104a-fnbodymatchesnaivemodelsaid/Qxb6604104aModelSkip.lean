/- THE WALK of fwbModelSkip: the backward search gives the table's own number. -/
import Derived.Test.Qxb6604104aSkipLaw
namespace Go.Proofs.Qxb6604104a
open Go.RowKit
set_option linter.unusedSimpArgs false
set_option linter.unusedVariables false

theorem skN_none (l : List UInt8) (b : Nat) : ∀ k, (∀ i, i < k → (l.getD i 0).toNat ≠ b) → skN l k b = min (l.length : Int) 255
  | 0, _ => rfl
  | k + 1, h => by
    unfold skN
    rw [if_neg (h k (by omega))]
    exact skN_none l b k (fun i hi => h i (by omega))
theorem skN_last (l : List UInt8) (b j : Nat) (hj : (l.getD j 0).toNat = b) : ∀ k, j < k → (∀ i, j < i → i < k → (l.getD i 0).toNat ≠ b) → skN l k b = min ((l.length : Int) - 1 - j) 255
  | 0, h, _ => by omega
  | k + 1, h, h2 => by
    unfold skN
    by_cases e : k = j
    · subst e; rw [if_pos hj]
    · rw [if_neg (h2 k (by omega) (by omega))]
      exact skN_last l b j hj k (by omega) (fun i h3 h4 => h2 i h3 (by omega))

theorem ret_int {k : IntKind} {a b : Int} (h : a = b) : Ending.returned (.int k a) = .returned (.int k b) := by rw [h]

set_option maxRecDepth 20000 in
set_option maxHeartbeats 400000 in
theorem modelSkip_any (s : ByteArray) (b : Nat) (w : World) (hb : b < 256) (hsz : s.size ≤ 4096) (h1 : 1 ≤ s.size) :
    Calls Try.prog 11 #[.string s, .int .i64 b] w fun e w' => e = .returned (.int .i64 (skN s.data.toList (s.size - 1) b)) ∧ w' = w := by
  go_enter Try.func11, Try.ntmps11
  go_wp2
  go_loop [6, 7] (fun x j => ∃ k : Nat, k + 1 ≤ s.size ∧ x = .int .i64 s.size ∧ j = .int .i64 ((k : Int) - 1) ∧ ∀ i, k ≤ i → i < s.size - 1 → (s.data.toList.getD i 0).toNat ≠ b) (fun _ j => (intOf j + 1).toNat)
  case atStart => exact ⟨s.size - 1, by omega, rfl, by go_num, fun i h2 h3 => by omega⟩
  case round =>
    obtain ⟨k, hk, rfl, rfl, hall⟩ := hrel
    have HA : Hid (∀ i, k ≤ i → i < s.size - 1 → (s.data.toList.getD i 0).toNat ≠ b) := hall
    clear hall
    by_cases hk0 : k = 0
    · subst hk0
      have HR : Hid (skN s.data.toList (s.size - 1) b = min (s.size : Int) 255) := skN_none s.data.toList b (s.size - 1) (fun i hi => HA.out i (by omega) hi)
      by_cases h255 : (s.size : Int) ≤ 255
      · go_wp2
        go_ret
        exact ⟨ret_int (by rw [HR.out]; omega), rfl⟩
      · go_wp2
        go_ret
        exact ⟨ret_int (by rw [HR.out]; omega), rfl⟩
    · have hkk : 0 ≤ (k : Int) - 1 := by omega
      have hks : k - 1 < s.size := by omega
      have hb8 : s[k - 1].toNat < 256 := UInt8.toNat_lt _
      cases hc : ((s[k - 1].toNat : Int) == (b : Int)) with
      | false =>
        have hne : (s.data.toList.getD (k - 1) 0).toNat ≠ b := by
          rw [getD_at s _ hks]
          intro e
          rw [e] at hc
          simp at hc
        have HN : Hid ((s.data.toList.getD (k - 1) 0).toNat ≠ b) := hne
        clear hne
        go_wp2
        go_round
        case rel => exact ⟨k - 1, by omega, rfl, by go_num, fun i h3 h4 => by
          by_cases e : i = k - 1
          · subst e; exact HN.out
          · exact HA.out i (by omega) h4⟩
        case measure => simp [intOf]; omega
      | true =>
        have heq : (s.data.toList.getD (k - 1) 0).toNat = b := by
          rw [getD_at s _ hks]
          have := beq_iff_eq.1 hc
          omega
        have HR : Hid (skN s.data.toList (s.size - 1) b = min ((s.size : Int) - 1 - (k - 1 : Nat)) 255) := skN_last s.data.toList b (k - 1) heq (s.size - 1) (by omega) (fun i h3 h4 => HA.out i (by omega) h4)
        clear heq
        by_cases h255 : (s.size : Int) - 1 - ((k : Int) - 1) ≤ 255
        · go_wp2
          go_ret
          exact ⟨ret_int (by rw [HR.out]; omega), rfl⟩
        · go_wp2
          go_ret
          exact ⟨ret_int (by rw [HR.out]; omega), rfl⟩
end Go.Proofs.Qxb6604104a
