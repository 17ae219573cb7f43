/- THE WALKS of fwbFill, fwbEndBeginsKey, fwbModelBody. -/
import Derived.Test.Qxb6604104aBehind
namespace Go.Proofs.Qxb6604104a
open Go.RowKit
set_option linter.unusedSimpArgs false
set_option linter.unusedVariables false

set_option maxRecDepth 20000 in
set_option maxHeartbeats 400000 in
theorem fwbFill_any (s : ByteArray) (w : World) (hs : s.toList.isEmpty = false) (hsz : s.size ≤ 4096) (h1 : 1 ≤ s.size) :
    Calls Try.prog 21 #[.string s] w fun e w' => e = .returned (.int .u8 (fillN s.data.toList : Nat)) ∧ Below w.heap.size w w' := by
  have z24 := (zero_of_info Try.zero24).1
  go_enter Try.func21, Try.ntmps21
  go_wp2_with fail
  refine (parts_more s _ hs hsz h1).mono ?_
  rintro e w1 ⟨kb, cap, rfl, hkb, hk, hcap, hb⟩
  unfold partsV
  have ht0 := HasTab.new w1 24 (fun _ => .int .u8 0)
  have HT : Hid (HasTab (w1.alloc (.cells (tabV fun _ => .int .u8 0) 24)) w1.heap.size 24 (fun _ => .int .u8 0)) := ht0
  have Hi : Hid ((Try.prog.info? 24).map (·.size) = some 256) := (zero_of_info Try.zero24).2
  clear ht0 hk
  go_wp2_with (refine wpList_store_tab rfl 24 _ _ rfl w1.heap.size 24 (fun _ => .int .u8 0) (skipF s.data.toList (s.size - 1)) ?_ ?_ HT.out Hi.out (fun _ _ => rfl) ?_; (go_simp); (go_simp); intro w2 hT hb2)
  go_ret
  exact ⟨rfl, hb.trans (((Below.refl w.heap.size w1).alloc hb.size _).trans (hb2.mono hb.size))⟩

theorem endB_occ (key m : List UInt8) (k : Nat) : endB key m k = Mask.occ (m.drop (m.length - k)) key 0 := by
  unfold endB Mask.occ; rw [List.drop_zero]
theorem endB_bytes {key m : List UInt8} {k : Nat} (hk : k ≤ m.length) (hk2 : k ≤ key.length) : endB key m k = true ↔ ∀ t, t < k → m.getD (m.length - k + t) 0 = key.getD t 0 := by
  rw [endB_occ]
  have hlen : (m.drop (m.length - k)).length = k := by simp; omega
  rw [Mask.occ_bytes _ _ _ (by omega), hlen]
  constructor
  · intro h t ht
    have := h t ht
    rw [getD_drop, Nat.zero_add] at this
    exact this.symm
  · intro h t ht
    rw [getD_drop, Nat.zero_add]
    exact (h t ht).symm

set_option maxRecDepth 20000 in
set_option maxHeartbeats 400000 in
theorem ends_any (b c k : Nat) (l : List UInt8) (s : ByteArray) (w : World) (hl : l.length ≤ 1048576) (hk : k ≤ l.length) (hk2 : k < s.size) (h1 : HasRow w b l) :
    Calls Try.prog 22 #[.slice (some ⟨b, 0, none⟩) l.length c, .int .i64 k, .string s] w fun e w' => e = .returned (.bool (endB s.data.toList l k)) ∧ Below w.heap.size w w' := by
  go_enter Try.func22, Try.ntmps22
  go_wp2
  go_loopw [7] (fun x wr => ∃ t : Nat, t ≤ k ∧ x = .int .i64 t ∧ HasRow wr b l ∧ Below w.heap.size w wr ∧ ∀ t', t' < t → l.getD (l.length - k + t') 0 = s.data.toList.getD t' 0) (fun x _ => k - (intOf x).toNat)
  case atStart => exact ⟨0, by omega, rfl, h1, Below.refl _ _, fun t ht => by omega⟩
  case round =>
    clear h1
    obtain ⟨t, ht, rfl, h1, hb, hall⟩ := hrel
    have HA : Hid (∀ t', t' < t → l.getD (l.length - k + t') 0 = s.data.toList.getD t' 0) := hall
    clear hall
    by_cases hlt : t < k
    · have hts : t < s.size := by omega
      have d1 := h1.cell (l.length - k + t) (by omega)
      have hw1 : IntKind.i64.wrap ((l.length : Int) - (k : Int)) = (l.length : Int) - (k : Int) := IntWalk.i64_in _ (by omega)
      have hw2 : IntKind.i64.wrap ((l.length : Int) - (k : Int) + (t : Int)) = (l.length : Int) - (k : Int) + (t : Int) := IntWalk.i64_in _ (by omega)
      have hw3 : ((l.length : Int) - (k : Int) + (t : Int)).toNat = l.length - k + t := by omega
      have b1 : (0 : Int) ≤ (l.length : Int) - (k : Int) + (t : Int) := by omega
      have b2 : (l.length : Int) - (k : Int) + (t : Int) < (l.length : Int) := by omega
      have b3 : (t : Int) < (s.size : Int) := by omega
      have hb8 : (l.getD (l.length - k + t) 0).toNat < 256 := UInt8.toNat_lt _
      cases hc : (((l.getD (l.length - k + t) 0).toNat : Int) != (s[t].toNat : Int)) with
      | true =>
        have HN : Hid (endB s.data.toList l k = false) := by
          cases he : endB s.data.toList l k with
          | false => rfl
          | true =>
            exfalso
            have h5 := (endB_bytes hk (by show k ≤ s.size; omega)).1 he t hlt
            rw [getD_at s t hts] at h5
            rw [h5] at hc
            simp at hc
        generalize (l.getD (l.length - k + t) 0).toNat = v at *
        go_wp2
        go_quiet (fail)
        go_wp2
        go_ret
        exact ⟨by rw [HN.out]; rfl, below_drewN hb _⟩
      | false =>
        have HE : Hid (l.getD (l.length - k + t) 0 = s.data.toList.getD t 0) := by
          show _ = _
          rw [getD_at s t hts]
          have h3 : ((l.getD (l.length - k + t) 0).toNat : Int) = (s[t].toNat : Int) := by simpa using hc
          exact UInt8.toNat_inj.1 (by omega)
        generalize (l.getD (l.length - k + t) 0).toNat = v at *
        go_wp2
        go_quiet (fail)
        go_wp2
        go_roundw
        case rel => exact ⟨t + 1, by omega, by go_num, h1, below_drewN hb _, fun t' ht' => by
          by_cases e : t' = t
          · subst e; exact HE.out
          · exact HA.out t' (by omega)⟩
        case measure => simp [intOf]; omega
    · have HN : Hid (endB s.data.toList l k = true) := (endB_bytes hk (by show k ≤ s.size; omega)).2 (fun t' ht' => HA.out t' (by omega))
      go_wp2
      go_ret
      exact ⟨by rw [HN.out]; rfl, hb⟩
end Go.Proofs.Qxb6604104a
