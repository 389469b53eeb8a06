/-
  THE WALKS of the reference's scheme, Unreserved, Dots.
-/
import Derived.Test.YtfkgkkmcaaefnaaGreatDoorS1
set_option linter.unusedSimpArgs false
set_option linter.unusedVariables false
namespace Go.Proofs.YtfkgkkmcaaefnaaGreatDoor.Wk
open Go.RowKit Go.Proofs.YtfkgkkmcaaefnaaGreatDoor.Pu

set_option maxHeartbeats 1000000 in
set_option maxRecDepth 100000 in
theorem unresL_any (s : ByteArray) (w : World) (hs : s.size ≤ 9223372036854775000) :
    Calls Tryz.prog 44 #[.string s] w fun e w' => e = .returned (.bool (unresL s.data.toList)) ∧ Below w.heap.size w w' := by
  have hb0 := Below.refl w.heap.size w
  go_enter Tryz.func44, Tryz.ntmps44
  go_wp2
  go_loopw [6] (fun i wr => ∃ k : Nat, k ≤ s.size ∧ i = .int .i64 k ∧ Hid (unresL (s.data.toList.drop k) = unresL s.data.toList) ∧ Below w.heap.size w wr) (fun i _ => s.size - (intOf i).toNat)
  case atStart => exact ⟨0, by omega, rfl, rfl, hb0⟩
  case round =>
    obtain ⟨k, hk, rfl, hp, hb⟩ := hrel
    by_cases hlt : k < s.size
    · obtain ⟨wo, rfl⟩ : ∃ wo : World, wo = wr := ⟨_, rfl⟩
      have hd := Lib.hid (drop_cons s k hlt)
      have hn : s[k].toNat < 256 := s[k].toNat_lt
      go_wp2_with (go_at_call 48; refine (unres_any _ _ hn).mono ?_; rintro e w1 ⟨rfl, hb1⟩)
      · go_ret
        exact ⟨ret_bool (un_no hd.out (by simpa using ‹(!unresN s[k].toNat) = true›) hp.out), bt hb ‹_›⟩
      · go_roundw
        case rel => exact ⟨k + 1, by omega, by go_num, Lib.hid (un_yes hd.out (by simpa using ‹(!unresN s[k].toNat) = false›) hp.out), bt hb ‹_›⟩
        case measure => simp [intOf]; omega
    · go_wp2
      go_ret
      exact ⟨ret_bool (by rw [← hp.out, List.drop_of_length_le (by rw [size_len]; omega)]; rfl), hb⟩

set_option maxHeartbeats 1000000 in
set_option maxRecDepth 100000 in
theorem isScheme_any (s : ByteArray) (w : World) (hs : s.size ≤ 9223372036854775000) :
    Calls Tryz.prog 42 #[.string s] w fun e w' => e = .returned (.bool (isScheme s.data.toList)) ∧ Below w.heap.size w w' := by
  have hb0 := Below.refl w.heap.size w
  go_enter Tryz.func42, Tryz.ntmps42
  go_wp2
  go_loopw [6] (fun i wr => ∃ k : Nat, k ≤ s.size ∧ i = .int .i64 k ∧ Hid (0 < k → (s.data.toList.drop k).all schemeTail = isScheme s.data.toList) ∧ Below w.heap.size w wr) (fun i _ => s.size - (intOf i).toNat)
  case atStart => exact ⟨0, by omega, rfl, fun h => absurd h (by omega), hb0⟩
  case round =>
    obtain ⟨k, hk, rfl, hp, hb⟩ := hrel
    by_cases hlt : k < s.size
    · obtain ⟨wo, rfl⟩ : ∃ wo : World, wo = wr := ⟨_, rfl⟩
      have hd := Lib.hid (drop_cons s k hlt)
      have hn : s[k].toNat < 256 := s[k].toNat_lt
      by_cases h0 : k = 0
      · subst h0
        go_wp2_with (go_at_call 74; refine (alpha_any _ _ hn).mono ?_; rintro e w1 ⟨rfl, hb1⟩)
        · go_roundw
          case rel =>
            refine ⟨1, by omega, by go_num, Lib.hid (fun _ => ?_), bt hb ‹_›⟩
            have := hd.out
            rw [List.drop_zero] at this
            rw [this, isScheme, ‹alphaN s[0].toNat = true›]; rfl
          case measure => simp [intOf]; omega
        · go_ret
          refine ⟨ret_bool ?_, bt hb ‹_›⟩
          have := hd.out
          rw [List.drop_zero] at this
          rw [this, isScheme, Bool.eq_false_iff.2 ‹¬alphaN s[0].toNat = true›]; rfl
      · have hk0 : ((k : Int) == 0) = false := by rw [beq_eq_false_iff_ne]; omega
        have HP := Lib.hid (hp.out (by omega))
        clear h0 hp
        cases ha : alphaN s[k].toNat
        · cases hg : digitN s[k].toNat
          · cases hh : hasN [43, 45, 46] s[k].toNat
            all_goals
              have HA := Lib.hid ha
              have HG := Lib.hid hg
              have HH := Lib.hid hh
              go_wp2_with (first
                | (go_at_call 74; refine (alpha_any _ _ hn).mono ?_; rintro e w1 ⟨rfl, hb1⟩)
                | (go_at_call 73; refine (digit_any _ _ hn).mono ?_; rintro e w1 ⟨rfl, hb1⟩)
                | (go_at_call 75; refine (has_any _ _ _ hn (by decide)).mono ?_; rintro e w1 ⟨rfl, hb1⟩))
            · go_ret
              exact ⟨ret_bool (st_no hd.out (st0 ha hg hh) HP.out), bt (bt (bt hb ‹_›) ‹_›) ‹_›⟩
            · go_roundw
              case rel => exact ⟨k + 1, by omega, by go_num, Lib.hid (fun _ => st_yes hd.out (st3 hh) HP.out), bt (bt (bt hb ‹_›) ‹_›) ‹_›⟩
              case measure => simp [intOf]; omega
          · go_wp2_with (first
                | (go_at_call 74; refine (alpha_any _ _ hn).mono ?_; rintro e w1 ⟨rfl, hb1⟩)
                | (go_at_call 73; refine (digit_any _ _ hn).mono ?_; rintro e w1 ⟨rfl, hb1⟩))
            go_roundw
            case rel => exact ⟨k + 1, by omega, by go_num, Lib.hid (fun _ => st_yes hd.out (st2 hg) HP.out), bt (bt hb ‹_›) ‹_›⟩
            case measure => simp [intOf]; omega
        · go_wp2_with (go_at_call 74; refine (alpha_any _ _ hn).mono ?_; rintro e w1 ⟨rfl, hb1⟩)
          go_roundw
          case rel => exact ⟨k + 1, by omega, by go_num, Lib.hid (fun _ => st_yes hd.out (st1 ha) HP.out), bt hb ‹_›⟩
          case measure => simp [intOf]; omega
    · have hk0 : k = s.size := by omega
      subst hk0
      go_wp2
      go_ret
      refine ⟨ret_bool ?_, hb⟩
      rw [toList_data]
      cases hl : s.data.toList with
      | nil => rfl
      | cons c r =>
        have := hp.out (by rw [← size_len, hl]; simp)
        rw [hl, List.drop_of_length_le (by rw [← size_len, hl]; exact Nat.le_refl _)] at this
        rw [← this]; rfl
end Go.Proofs.YtfkgkkmcaaefnaaGreatDoor.Wk
