/-
  THE WALK of the reference's isIPv6.
-/
import Derived.Test.YtfkgkkmcaaefnaaGreatDoorS5
import Derived.Deep.RegionWith
import Derived.Deep.RegionHeld3
set_option linter.unusedSimpArgs false
set_option linter.unusedVariables false
namespace Go.Proofs.YtfkgkkmcaaefnaaGreatDoor.Wk
open Go.RowKit Go.Proofs.YtfkgkkmcaaefnaaGreatDoor.Pu

set_option maxHeartbeats 2000000 in
set_option maxRecDepth 100000 in
theorem v6_any (s : ByteArray) (w : World) (hs : s.size ≤ 9223372036854770000) :
    Calls Tryz.prog 72 #[.string s] w fun e w' => e = .returned (.bool (v6F s.data.toList)) ∧ Below w.heap.size w w' := by
  have hb0 := Below.refl w.heap.size w
  go_enter Tryz.func72, Tryz.ntmps72
  go_wp2
  go_loopw [3] (fun i wr => ∃ k : Nat, i = .int .i64 k ∧ k ≤ s.size ∧ Hid ((dc (s.data.toList.drop k)).map (· + k) = dc s.data.toList) ∧ Below w.heap.size w wr) (fun i _ => s.size - (intOf i).toNat)
  case atStart => exact ⟨0, rfl, by omega, Lib.hid (by rw [List.drop_zero]; cases dc s.data.toList <;> rfl), hb0⟩
  case round =>
    obtain ⟨k, rfl, hk, hp, hb⟩ := hrel
    obtain ⟨wo, rfl⟩ : ∃ wo : World, wo = wr := ⟨_, rfl⟩
    by_cases hlt : k + 1 < s.size
    · have hd : s.data.toList.drop k = s[k] :: s[k + 1] :: s.data.toList.drop (k + 1 + 1) := by rw [drop_cons s k (by omega), drop_cons s (k + 1) hlt]
      have HD := Lib.hid hd
      have HD2 := Lib.hid (drop_cons s (k + 1) hlt)
      clear hd
      by_cases h1 : s[k].toNat = 58
      · have h1b : ((s[k].toNat : Int) == 58) = true := by rw [beq_iff_eq]; omega
        by_cases h2 : s[k + 1].toNat = 58
        · have h2b : ((s[k + 1].toNat : Int) == 58) = true := by rw [beq_iff_eq]; omega
          have H1 := Lib.hid h1
          have H2 := Lib.hid h2
          clear h1 h2
          have hw : IntKind.i64.wrap (↑k + 2) = ↑k + 2 := IntWalk.i64_in _ (by omega)
          have hz1 := ext_size s 0 k
          have hz2 := ext_size s (k + 2) s.size
          go_upto_region 5 with (fail)
          go_cut [4, 5] (fun v4 v5 wc => ∃ a b : Int, v4 = .int .i64 a ∧ v5 = .int .i64 b ∧ Hid (a = piecesF false (s.data.toList.take k)) ∧ Hid (b = piecesF true (s.data.toList.drop (k + 2))) ∧ Below w.heap.size w wc)
          case first =>
            go_region_with (first
              | (go_at_call_of 100 ((Value.string (s.extract 0 k))); refine (pieces_any _ _ _ (by omega)).mono ?_; rintro e w1 ⟨rfl, hb1⟩)
              | (refine (pieces_any _ _ _ (by omega)).mono ?_; rintro e w2 ⟨rfl, hb2⟩))
            all_goals
              go_wp2
              go_meet
              case rel =>
                refine ⟨_, _, rfl, rfl, Lib.hid ?_, Lib.hid ?_, bt (bt hb.drew ‹_›) ‹_›⟩
                · first | rfl | (rw [ext_toList, List.drop_zero])
                · first | rfl | (rw [rest_eq]) | (rw [List.take_of_length_le (by rw [List.length_drop, size_len]; omega)])
          case rest =>
            obtain ⟨a, b, rfl, rfl, ea, eb, hB⟩ := hcut
            have ha := piecesF_bd false (s.data.toList.take k)
            have hb := piecesF_bd true (s.data.toList.drop (k + 2))
            rw [← ea.out, List.length_take, size_len] at ha
            rw [← eb.out, List.length_drop, size_len] at hb
            have hv : v6F s.data.toList = _ := v6_some (dc_hit hp.out HD.out H1.out H2.out)
            rw [← ea.out, ← eb.out] at hv
            have HV := Lib.hid hv
            clear hv HD HD2 ea eb
            by_cases c1 : 0 ≤ a
            · by_cases c2 : 0 ≤ b
              · go_wp2
                go_ret
                exact ⟨ret_bool (by rw [HV.out, decide_eq_true c1, decide_eq_true c2]; simp), hB⟩
              · go_wp2
                go_ret
                exact ⟨ret_bool (by rw [HV.out, decide_eq_false (show ¬ 0 ≤ b by omega)]; simp), hB⟩
            · go_wp2
              go_ret
              exact ⟨ret_bool (by rw [HV.out, decide_eq_false (show ¬ 0 ≤ a by omega)]; simp), hB⟩
        · have h2b : ((s[k + 1].toNat : Int) == 58) = false := by rw [beq_eq_false_iff_ne]; omega
          have H2 := Lib.hid h2
          clear h1 h2
          go_wp2
          go_roundw
          case rel => exact ⟨k + 1, by go_num, by omega, Lib.hid (by rw [HD2.out]; exact dc_miss hp.out HD.out (fun h => H2.out h.2)), hb⟩
          case measure => simp [intOf]; omega
      · have h1b : ((s[k].toNat : Int) == 58) = false := by rw [beq_eq_false_iff_ne]; omega
        have H1 := Lib.hid h1
        clear h1
        go_wp2
        go_roundw
        case rel => exact ⟨k + 1, by go_num, by omega, Lib.hid (by rw [HD2.out]; exact dc_miss hp.out HD.out (fun h => H1.out h.1)), hb⟩
        case measure => simp [intOf]; omega
    · have hv := Lib.hid (v6_none (dc_short hp.out (by rw [List.length_drop, size_len]; omega)))
      go_wp2_with (go_at_call 100; refine (pieces_any _ _ _ (by omega)).mono ?_; rintro e w1 ⟨rfl, hb1⟩)
      go_ret
      refine ⟨ret_bool ?_, bt hb hb1⟩
      rw [hv.out]
      rw [Bool.eq_iff_iff, beq_iff_eq, decide_eq_true_iff]
end Go.Proofs.YtfkgkkmcaaefnaaGreatDoor.Wk
