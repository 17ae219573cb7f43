/- THE WALK of the law FnNewMaskerMatchesSpec. -/
import Derived.Test.Qxb6604104aModelSkip
import Derived.Deep.QuietTactic
import Derived.BigQuiet
namespace Go.Proofs.Qxb6604104a
open Go.RowKit
set_option linter.unusedSimpArgs false
set_option linter.unusedVariables false

set_option maxHeartbeats 400000 in
theorem zz7_yes (s : ByteArray) (w : World) (h1 : (s.size : Int) ≤ 1048576) :
    Calls Try.prog 7 #[.string s] w fun e w' => e = .returned (.bool true) ∧ w' = w := by
  go_enter Try.func7, Try.ntmps7
  go_wp2
  go_ret
  exact ⟨rfl, rfl⟩
set_option maxHeartbeats 400000 in
theorem zz7_no (s : ByteArray) (w : World) (h1 : ¬ (s.size : Int) ≤ 1048576) :
    Calls Try.prog 7 #[.string s] w fun e w' => e = .returned (.bool false) ∧ w' = w := by
  go_enter Try.func7, Try.ntmps7
  go_wp2
  go_ret
  exact ⟨rfl, rfl⟩

set_option maxRecDepth 20000 in
set_option maxHeartbeats 400000 in
theorem spec_empty (s : ByteArray) (w : World) (hs : s.toList.isEmpty = true) (hsz : s.size ≤ 4096) :
    Calls Try.prog 3 #[.string s] w fun e w' => e = .returned (.bool true) ∧ Below w.heap.size w w' := by
  have z24 := (zero_of_info Try.zero24).1
  go_enter Try.func3, Try.ntmps3
  go_wp2_with (go_at_call 7; refine (zz7_yes s _ (by omega)).mono ?_; rintro e w' ⟨rfl, hw'⟩; have hw2 := hw'.symm; clear hw'; subst hw2)
  refine (parts_empty s _ hs).mono ?_
  rintro e w1 ⟨rfl, hb⟩
  unfold parts0V
  have ht0 := HasTab.new w1 24 (fun _ => .int .u8 0)
  have HT : Hid (HasTab (w1.alloc (.cells (tabV fun _ => .int .u8 0) 24)) w1.heap.size 24 (fun _ => .int .u8 0)) := ht0
  have Hi : Hid ((Try.prog.info? 24).map (·.size) = some 256) := (zero_of_info Try.zero24).2
  clear ht0
  go_wp2_with (refine wpList_store_tab rfl 24 _ _ rfl w1.heap.size 24 (fun _ => .int .u8 0) (fun _ => .int .u8 0) ?_ ?_ HT.out Hi.out (fun _ _ => rfl) ?_; (go_simp); (go_simp); intro w2 hT hb2)
  have Hb : Below w.heap.size w w2 := hb.trans (((Below.refl w.heap.size w1).alloc hb.size _).trans (hb2.mono hb.size))
  clear HT Hi z24 hb hb2
  go_loop [8] (fun i => ∃ k : Nat, k ≤ 256 ∧ i = .int .i64 k) (fun i => 256 - (intOf i).toNat)
  case atStart => exact ⟨0, by omega, rfl⟩
  case round =>
    obtain ⟨k, hk, rfl⟩ := hrel
    by_cases hlt : k < 256
    · have hc := hT.cell k hlt
      go_wp2
      go_round
      case rel => exact ⟨k + 1, by omega, by go_num⟩
      case measure => simp [intOf]; omega
    · go_wp2
      go_ret
      exact ⟨rfl, Hb⟩

theorem below_drewN {B : Nat} {a w : World} (h : Below B a w) (n : Nat) : Below B a (w.drewN n) := ⟨h.os, h.tape, h.output, h.size, h.block⟩
theorem and255 (x : Int) (h0 : -256 ≤ x) (h1 : x < 512) : bits BinOp.and IntKind.i64 x 255 = x % 256 := by
  have e1 : (BitVec.ofInt 64 x &&& BitVec.ofInt 64 255).toNat = (x % 256).toNat := by
    have e2 : (BitVec.ofInt 64 255).toNat = 255 := by decide
    rw [BitVec.toNat_and, e2, nat_mask8, BitVec.toNat_ofInt]
    omega
  show IntKind.i64.wrap ((BitVec.ofInt 64 x &&& BitVec.ofInt 64 255).toNat : Int) = x % 256
  rw [e1, IntWalk.i64_in _ (by omega)]
  omega
theorem fill_full {l : List UInt8} (h : lacksB l = false) : fillN l = 42 := by
  unfold lacksB at h
  rw [List.any_eq_false] at h
  refine fill_none (fun d hd => ?_)
  have := h ((42 + d) % 256) (by simp; omega)
  simpa using this
theorem fill_first {l : List UInt8} (h : lacksB l = true) : ∃ d0, d0 < 256 ∧ fillN l = (42 + d0) % 256 ∧ ∀ d, d < d0 → seenB l ((42 + d) % 256) = true := by
  have h2 := fill_lacks h
  unfold fillN at h2 ⊢
  cases hf : (List.range 256).find? (fun d => !seenB l ((42 + d) % 256)) with
  | some d =>
    rw [List.find?_range_eq_some] at hf
    exact ⟨d, by simpa using hf.2.1, rfl, fun j hj => by simpa using hf.2.2 j hj⟩
  | none =>
    exfalso
    rw [hf] at h2
    rw [List.find?_eq_none] at hf
    have := hf 0 (by simp)
    simp at this h2
    rw [h2] at this
    cases this

set_option maxRecDepth 20000 in
set_option maxHeartbeats 400000 in
theorem spec_more (s : ByteArray) (w : World) (hs : s.toList.isEmpty = false) (hsz : s.size ≤ 4096) (h1 : 1 ≤ s.size) :
    Calls Try.prog 3 #[.string s] w fun e w' => e = .returned (.bool true) ∧ Below w.heap.size w w' := by
  have z24 := (zero_of_info Try.zero24).1
  have z27 := (zero_of_info Try.zero27).1
  go_enter Try.func3, Try.ntmps3
  go_wp2_with (go_at_call 7; refine (zz7_yes s _ (by omega)).mono ?_; rintro e w' ⟨rfl, hw'⟩; have hw2 := hw'.symm; clear hw'; subst hw2)
  refine (parts_more s _ hs hsz h1).mono ?_
  rintro e w1 ⟨kb, cap, rfl, hkb, hk, hcap, hb⟩
  unfold partsV
  have ht0 := HasTab.new w1 24 (fun _ => .int .u8 0)
  have HT : Hid (HasTab (w1.alloc (.cells (tabV fun _ => .int .u8 0) 24)) w1.heap.size 24 (fun _ => .int .u8 0)) := ht0
  have Hi : Hid ((Try.prog.info? 24).map (·.size) = some 256) := (zero_of_info Try.zero24).2
  have HK1 : Hid (HasKey w1 kb s.data.toList) := hk
  have hkbl : kb < w1.heap.size := hk.lt
  clear ht0 hk
  go_wp2_with (refine wpList_store_tab rfl 24 _ _ rfl w1.heap.size 24 (fun _ => .int .u8 0) (skipF s.data.toList (s.size - 1)) ?_ ?_ HT.out Hi.out (fun _ _ => rfl) ?_; (go_simp); (go_simp); intro w2 hT hb2)
  have Hb : Below w.heap.size w w2 := hb.trans (((Below.refl w.heap.size w1).alloc hb.size _).trans (hb2.mono hb.size))
  have hk2 : HasKey w2 kb s.data.toList := ((HK1.out.alloc _).below hb2 hkbl)
  clear HT Hi z24 hb hb2 HK1
  go_loopw [9] (fun i wr => ∃ k : Nat, k ≤ s.size ∧ i = .int .i64 k ∧ HasKey wr kb s.data.toList ∧ HasTab wr w1.heap.size 24 (skipF s.data.toList (s.size - 1)) ∧ Below w.heap.size w wr) (fun i _ => s.size - (intOf i).toNat)
  case atStart => exact ⟨0, by omega, rfl, hk2, hT, Hb⟩
  case round =>
    clear hk2 hT Hb
    obtain ⟨k, hk, rfl, hk2, hT', Hb'⟩ := hrel
    by_cases hlt : k < s.size
    · have hc := hk2.cell k hlt
      rw [getD_at s k hlt] at hc
      go_wp2
      go_quiet (fail)
      go_wp2
      go_roundw
      case rel => exact ⟨k + 1, by omega, by go_num, hk2, hT', below_drewN Hb' _⟩
      case measure => simp [intOf]; omega
    · clear hk2
      have Hi : Hid ((Try.prog.info? 27).map (·.size) = some 256) := (zero_of_info Try.zero27).2
      go_wp2_with fail
      refine (fwbSeen_any s _ (by omega)).mono ?_
      rintro e w3 ⟨rfl, hb3⟩
      have HT : Hid (HasTab (w3.alloc (.cells (tabV fun _ => .bool false) 27)) w3.heap.size 27 (fun _ => .bool false)) := HasTab.new w3 27 (fun _ => .bool false)
      go_wp2_with (refine wpList_store_tab rfl 27 _ _ rfl w3.heap.size 27 (fun _ => .bool false) (seenF s.data.toList) ?_ ?_ HT.out Hi.out (fun _ _ => rfl) ?_; (go_simp); (go_simp); intro w4 hS hb4)
      have hT4 : HasTab w4 w1.heap.size 24 (skipF s.data.toList (s.size - 1)) := ((hT'.below hb3 hT'.lt).alloc _).below hb4 (Nat.lt_of_lt_of_le hT'.lt hb3.size)
      have Hb4 : Below w.heap.size w w4 := Hb'.trans ((hb3.mono Hb'.size).trans (((Below.refl w.heap.size w3).alloc (Nat.le_trans Hb'.size hb3.size) _).trans (hb4.mono (Nat.le_trans Hb'.size hb3.size))))
      clear HT Hi z27 hb3 hb4 hT' Hb'
      cases hl : lacksB s.data.toList with
      | false =>
        refine (fwbLacks_any s _ (by omega)).mono ?_
        rw [hl]
        rintro e w5 ⟨rfl, hb5⟩
        have hT5 := hT4.below hb5 hT4.lt
        have Hb5 := Hb4.trans (hb5.mono Hb4.size)
        have hf42 : (((fillN s.data.toList : Nat) : Int) != 42) = false := by rw [fill_full hl]; rfl
        clear hT4 Hb4 hb5 hS hl
        go_wp2
        go_loopw [13] (fun i wr => ∃ k : Nat, k ≤ 256 ∧ i = .int .i64 k ∧ HasTab wr w1.heap.size 24 (skipF s.data.toList (s.size - 1)) ∧ Below w.heap.size w wr) (fun i _ => 256 - (intOf i).toNat)
        case atStart => exact ⟨0, by omega, rfl, hT5, Hb5⟩
        case round =>
          clear hT5 Hb5
          obtain ⟨k, hk, rfl, hT6, Hb6⟩ := hrel
          by_cases hlt : k < 256
          · have hc := hT6.cell k hlt
            have hbd := skN_bd s.data.toList k (s.size - 1) (by show s.size - 1 + 1 ≤ s.size; omega)
            have b1 := hbd.1
            have b2 := hbd.2.2.1
            clear hbd
            unfold skipF at hc
            go_wp2
            go_quiet ((go_at_call 11; exact Calls.quiet_of_same (modelSkip_any s k _ hlt hsz h1)))
            go_wp2
            go_roundw
            case rel => exact ⟨k + 1, by omega, by go_num, hT6, below_drewN Hb6 _⟩
            case measure => simp [intOf]; omega
          · go_wp2
            go_ret
            exact ⟨rfl, Hb6⟩
      | true =>
        refine (fwbLacks_any s _ (by omega)).mono ?_
        rw [hl]
        rintro e w5 ⟨rfl, hb5⟩
        have hT5 := hT4.below hb5 hT4.lt
        have hS5 := hS.below hb5 hS.lt
        have Hb5 := Hb4.trans (hb5.mono Hb4.size)
        have hcf := hS5.cell (fillN s.data.toList) (fillN_lt _)
        unfold seenF at hcf
        rw [fill_lacks hl] at hcf
        have hfb := fillN_lt s.data.toList
        obtain ⟨d0, hd0, hfd, hall⟩ := fill_first hl
        have HA : Hid (∀ d, d < d0 → seenB s.data.toList ((42 + d) % 256) = true) := hall
        have HF : Hid (fillN s.data.toList = (42 + d0) % 256) := hfd
        clear hT4 Hb4 hb5 hS hl hall hfd
        have hgap : bits BinOp.and IntKind.i64 (((fillN s.data.toList : Nat) : Int) - 42) 255 = (d0 : Int) := by
          rw [and255 _ (by omega) (by omega), HF.out]; omega
        go_wp2
        go_loop [12] (fun i => ∃ k : Nat, k ≤ d0 ∧ i = .int .i64 k) (fun i => d0 - (intOf i).toNat)
        case atStart => exact ⟨0, by omega, rfl⟩
        case round =>
          obtain ⟨k, hk, rfl⟩ := hrel
          by_cases hlt : k < d0
          · have hc := hS5.cell ((42 + k) % 256) (by omega)
            unfold seenF at hc
            rw [HA.out k hlt] at hc
            have hix : bits BinOp.and IntKind.i64 (42 + (k : Int)) 255 = (((42 + k) % 256 : Nat) : Int) := by
              rw [and255 _ (by omega) (by omega)]; omega
            go_wp2
            go_round
            case rel => exact ⟨k + 1, by omega, by go_num⟩
            case measure => simp [intOf]; omega
          · go_wp2
            go_loopw [13] (fun i wr => ∃ k : Nat, k ≤ 256 ∧ i = .int .i64 k ∧ HasTab wr w1.heap.size 24 (skipF s.data.toList (s.size - 1)) ∧ Below w.heap.size w wr) (fun i _ => 256 - (intOf i).toNat)
            case atStart => exact ⟨0, by omega, rfl, hT5, Hb5⟩
            case round =>
              clear hT5 Hb5
              obtain ⟨k, hk, rfl, hT6, Hb6⟩ := hrel
              by_cases hlt : k < 256
              · have hc := hT6.cell k hlt
                have hbd := skN_bd s.data.toList k (s.size - 1) (by show s.size - 1 + 1 ≤ s.size; omega)
                have b1 := hbd.1
                have b2 := hbd.2.2.1
                clear hbd
                unfold skipF at hc
                go_wp2
                go_quiet ((go_at_call 11; exact Calls.quiet_of_same (modelSkip_any s k _ hlt hsz h1)))
                go_wp2
                go_roundw
                case rel => exact ⟨k + 1, by omega, by go_num, hT6, below_drewN Hb6 _⟩
                case measure => simp [intOf]; omega
              · go_wp2
                go_ret
                exact ⟨rfl, Hb6⟩

set_option maxRecDepth 20000 in
set_option maxHeartbeats 400000 in
theorem spec_law (s : ByteArray) (w : World) :
    Calls Try.prog 3 #[.string s] w fun e w' => e = .returned (.bool true) ∧ Below w.heap.size w w' := by
  by_cases hb : (s.size : Int) ≤ 1048576
  · by_cases hc : (s.size : Int) ≤ 4096
    · cases hz : s.toList.isEmpty with
      | false => exact spec_more s w hz (by omega) (nonempty_size hz)
      | true => exact spec_empty s w hz (by omega)
    · go_enter Try.func3, Try.ntmps3
      go_wp2_with (go_at_call 7; refine (zz7_yes s _ (by omega)).mono ?_; rintro e w' ⟨rfl, hw'⟩; have hw2 := hw'.symm; clear hw'; subst hw2)
      go_ret
      exact ⟨rfl, Below.refl _ _⟩
  · go_enter Try.func3, Try.ntmps3
    go_wp2_with (go_at_call 7; refine (zz7_no s _ hb).mono ?_; rintro e w' ⟨rfl, hw'⟩; have hw2 := hw'.symm; clear hw'; subst hw2)
    go_ret
    exact ⟨rfl, Below.refl _ _⟩
end Go.Proofs.Qxb6604104a
