/-
  THE WALKS of the reference's Dots, isIPv4, pieces, isIPv6.
-/
import Derived.Test.YtfkgkkmcaaefnaaGreatDoorS1
import Derived.Test.YtfkgkkmcaaefnaaGreatDoorPv
import Derived.Deep.DeepCutAuto
import Derived.Deep.CutBlock
set_option linter.unusedSimpArgs false
set_option linter.unusedVariables false
namespace Go.Proofs.YtfkgkkmcaaefnaaGreatDoor.Wk
open Go.RowKit Go.Proofs.YtfkgkkmcaaefnaaGreatDoor.Pu

theorem ext_size (s : ByteArray) (a b : Nat) : (s.extract a b).size ≤ s.size := by
  rw [ByteArray.size_extract]; omega
theorem seg_eq (p : ByteArray) (n : Nat) : (p.extract 0 n).toList = p.data.toList.take n := by rw [toList_data, ext_toList, List.drop_zero]
theorem rest_eq (p : ByteArray) (n : Nat) : (p.extract n p.size).data.toList = p.data.toList.drop n := by rw [ext_toList, ← size_len, List.take_length]
def strN : Value → Nat | .string s => s.size | _ => 0

set_option maxHeartbeats 1000000 in
set_option maxRecDepth 100000 in
theorem dots_any (s : ByteArray) (w : World) (hs : s.size ≤ 9223372036854775000) :
    Calls Tryz.prog 19 #[.string s] w fun e w' => e = .returned (.bool (dotsB s.data.toList)) ∧ Below w.heap.size w w' := by
  have hb0 := Below.refl w.heap.size w
  go_enter Tryz.func19, Tryz.ntmps19
  go_wp2
  go_loopw [0] (fun v wr => ∃ p : ByteArray, v = .string p ∧ p.size ≤ s.size ∧ Hid (dotsB p.data.toList = dotsB s.data.toList) ∧ Below w.heap.size w wr) (fun v _ => strN v)
  case atStart => exact ⟨s, rfl, by omega, rfl, hb0⟩
  case round =>
    obtain ⟨p, rfl, hz, hp, hb⟩ := hrel
    obtain ⟨wo, rfl⟩ : ∃ wo : World, wo = wr := ⟨_, rfl⟩
    go_wp2_with fail
    refine (index_any _ _ _ (by omega) (by decide)).mono ?_
    rintro e w1 ⟨rfl, hb1⟩
    have hn := idx_le [47] p.data.toList
    rw [size_len] at hn
    generalize hn1 : idx ([47] : L) p.data.toList = n at *
    have HN := Lib.hid hn1
    clear hn1
    go_wp2
    · go_ret
      exact ⟨ret_bool (by rw [← hp.out, dots_hit HN.out (isDot_1 (by rw [← seg_eq]; assumption))]), bt hb hb1⟩
    · go_ret
      exact ⟨ret_bool (by rw [← hp.out, dots_hit HN.out (isDot_2 (by rw [← seg_eq]; assumption))]), bt hb hb1⟩
    · go_ret
      have h2 : ((n : Int) == p.size) = true := ‹_›
      exact ⟨ret_bool (by rw [← hp.out, dots_end HN.out (isDot_0 (by rw [← seg_eq]; assumption)) (by rw [size_len]; have := beq_iff_eq.1 h2; omega)]), bt hb hb1⟩
    · have h2 : ((n : Int) == p.size) = false := ‹_›
      have h3 := beq_eq_false_iff_ne.1 h2
      have hd := isDot_0 (p := p.data.toList.take n) (by rw [← seg_eq]; assumption)
      go_roundw
      case rel => exact ⟨_, rfl, Nat.le_trans (ext_size _ _ _) hz, Lib.hid (by rw [rest_eq, dots_next HN.out hd (by rw [size_len]; omega)]; exact hp.out), bt hb hb1⟩
      case measure => simp [strN, ByteArray.size_extract]; omega
    · have h2 : ((n : Int) == p.size) = false := ‹_›
      have h3 := beq_eq_false_iff_ne.1 h2
      omega

set_option maxHeartbeats 1000000 in
set_option maxRecDepth 100000 in
theorem v4_any (s : ByteArray) (w : World) (hs : s.size ≤ 9223372036854775000) :
    Calls Tryz.prog 116 #[.string s] w fun e w' => e = .returned (.bool (v4 s.data.toList)) ∧ Below w.heap.size w w' := by
  have hb0 := Below.refl w.heap.size w
  go_enter Tryz.func116, Tryz.ntmps116
  go_wp2
  go_loopw [0, 8] (fun v i wr => ∃ (p : ByteArray) (k : Nat), v = .string p ∧ i = .int .i64 k ∧ k ≤ 4 ∧ p.size ≤ s.size ∧ Hid (v4r (4 - k) p.data.toList = v4 s.data.toList) ∧ Below w.heap.size w wr) (fun _ i _ => 4 - (intOf i).toNat)
  case atStart => exact ⟨s, 0, rfl, rfl, by omega, by omega, rfl, hb0⟩
  case round =>
    obtain ⟨p, k, rfl, rfl, hk, hz, hp, hb⟩ := hrel
    obtain ⟨wo, rfl⟩ : ∃ wo : World, wo = wr := ⟨_, rfl⟩
    by_cases hk4 : k < 4
    · obtain ⟨j, hj⟩ : ∃ j, 4 - k = j + 1 := ⟨3 - k, by omega⟩
      have HP := Lib.hid (show v4r (j + 1) p.data.toList = v4 s.data.toList by rw [← hj]; exact hp.out)
      have HJ := Lib.hid hj
      clear hp hj
      go_wp2_with fail
      refine (index_any _ _ _ (by omega) (by decide)).mono ?_
      rintro e w1 ⟨rfl, hb1⟩
      have hn := idx_le [46] p.data.toList
      rw [size_len] at hn
      generalize hn1 : idx ([46] : L) p.data.toList = n at *
      have HN := Lib.hid hn1
      clear hn1
      go_upto_region 6 with (fail)
      have hd0 : (p.extract 0 n).data.toList = p.data.toList.take n := by rw [ext_toList, List.drop_zero]
      have hds := ext_size p 0 n
      generalize p.extract 0 n = d at *
      have HD := Lib.hid hd0
      have hB := bt hb hb1
      clear hd0 hb hb1
      go_cut [33] (fun v33 wc => ∃ b : Bool, v33 = .bool b ∧ Hid (badO d.data.toList = b) ∧ wc = w1)
      case first =>
        by_cases c1 : d.size = 0
        · have c1b : ((d.size : Int) == 0) = true := by rw [beq_iff_eq]; omega
          have C1 := Lib.hid c1
          clear c1
          go_wp2
          go_meet
          case rel => exact ⟨true, rfl, by unfold badO; rw [size_len, C1.out]; rfl, rfl⟩
        · have c1b : ((d.size : Int) == 0) = false := by rw [beq_eq_false_iff_ne]; omega
          by_cases c2 : 3 < d.size
          · have c2b : decide ((3 : Int) < (d.size : Int)) = true := by simp; omega
            go_wp2
            go_meet
            case rel => exact ⟨true, rfl, Lib.hid (by unfold badO; rw [size_len, decide_eq_true c2]; simp), rfl⟩
          · have c2b : decide ((3 : Int) < (d.size : Int)) = false := by simp; omega
            by_cases c3 : 1 < d.size
            · have c3b : decide ((1 : Int) < (d.size : Int)) = true := by simp; omega
              have hx := Lib.hid (get_opt d 0 (by omega))
              go_wp2
              go_meet
              case rel =>
                refine ⟨_, rfl, Lib.hid ?_, rfl⟩
                unfold badO
                rw [size_len, decide_eq_false c1, decide_eq_false c2, decide_eq_true c3, hx.out, Bool.eq_iff_iff]
                simp only [Bool.false_or, Bool.true_and, decide_eq_true_eq, beq_iff_eq, Option.some.injEq]
                constructor
                · intro h; rw [h]; rfl
                · intro h; exact UInt8.toNat_inj.1 (by have : ((d[0].toNat : Int)) = 48 := by simpa using h
                                                       show d[0].toNat = 48; omega)
            · have c3b : decide ((1 : Int) < (d.size : Int)) = false := by simp; omega
              go_wp2
              go_meet
              case rel => exact ⟨false, rfl, by unfold badO; rw [size_len, decide_eq_false c1, decide_eq_false c2, decide_eq_false c3]; rfl, rfl⟩
      case rest =>
        obtain ⟨b, rfl, hbad, rfl⟩ := hcut
        cases b
        · have hd3 := badO_f hbad.out
          rw [size_len] at hd3
          have hdn : ((d.size : Int) == 0) = false := by rw [beq_eq_false_iff_ne]; omega
          go_wp2
          go_loopw [6, 36] (fun v i wr => ∃ (m x : Nat), v = .int .i64 x ∧ i = .int .i64 m ∧ m ≤ d.size ∧ x ≤ 1000 ∧ Hid (octVal (d.data.toList.take m) = x ∧ x < 10 ^ m ∧ (d.data.toList.take m).all digC = true) ∧ Below w.heap.size w wr) (fun _ i _ => d.size - (intOf i).toNat)
          case atStart => exact ⟨0, 0, rfl, rfl, by omega, by omega, ⟨rfl, by decide, rfl⟩, hB⟩
          case round =>
            obtain ⟨m, x, rfl, rfl, hm, hx, hrel, hB2⟩ := hrel
            by_cases hmd : m < d.size
            · have hdm := Lib.hid (take_snoc d m hmd)
              have hmem : d[m] ∈ d.data.toList := List.mem_of_getElem? (get_opt d m hmd)
              have HM := Lib.hid hmem
              clear hmem
              have hn2 : d[m].toNat < 256 := d[m].toNat_lt
              cases hg : digitN d[m].toNat
              · have HG := Lib.hid hg
                go_wp2_with (go_at_call 73; refine (digit_any _ _ hn2).mono ?_; rintro e w2 ⟨rfl, hb2⟩)
                go_ret
                exact ⟨ret_bool (by rw [← HP.out, v4r_bad HN.out (by rw [← HD.out]; exact oct_dig HM.out HG.out)]), bt hB2 ‹_›⟩
              · have HG := Lib.hid hg
                have hg2 : 48 ≤ d[m].toNat ∧ d[m].toNat ≤ 57 := digitN_t hg
                go_wp2_with (go_at_call 73; refine (digit_any _ _ hn2).mono ?_; rintro e w2 ⟨rfl, hb2⟩)
                go_roundw
                case rel =>
                  have hpw : x * 10 + (d[m].toNat - 48) < 10 ^ (m + 1) := by
                    have := hrel.out.2.1
                    rw [Nat.pow_succ]; omega
                  have hpw2 : 10 ^ (m + 1) ≤ 10 ^ 3 := Nat.pow_le_pow_right (by decide) (by omega)
                  refine ⟨m + 1, x * 10 + (d[m].toNat - 48), ?_, by go_num, by omega, by omega, ⟨?_, hpw, ?_⟩, bt hB2 ‹_›⟩
                  · congr; omega
                  · rw [hdm.out, octVal_snoc, hrel.out.1]
                  · rw [hdm.out, List.all_append, hrel.out.2.2]; simp [digC, HG.out]
                case measure => simp [intOf]; omega
            · have hmd2 : m = d.size := by omega
              have hr := hrel.out
              rw [hmd2, ← size_len, List.take_length] at hr
              have HR := Lib.hid hr
              clear hr hmd2
              by_cases c1 : 255 < x
              · go_wp2
                go_ret
                exact ⟨ret_bool (by rw [← HP.out, v4r_bad HN.out (by rw [← HD.out]; exact oct_big (by rw [HR.out.1]; exact c1))]), hB2⟩
              · have ho : octet (p.data.toList.take n) = true := by rw [← HD.out]; exact oct_ok hbad.out HR.out.2.2 (by rw [HR.out.1]; omega)
                have HO := Lib.hid ho
                clear ho
                by_cases c2 : n < p.size
                · have c2b : decide (n < p.size) = true := decide_eq_true c2
                  by_cases c3 : k < 3
                  · have c3b : decide ((k : Int) < 3) = true := by simp; omega
                    go_wp2
                    go_roundw
                    case rel =>
                      refine ⟨_, k + 1, rfl, by go_num, by omega, Nat.le_trans (ext_size _ _ _) hz, ?_, hB2⟩
                      have hj : 4 - (k + 1) = j := by have := HJ.out; omega
                      refine Lib.hid ?_
                      rw [hj, rest_eq, ← HP.out, v4r_go HN.out HO.out (by rw [size_len, decide_eq_true c2, decide_eq_true (by omega)]; rfl)]
                    case measure => simp [intOf]; omega
                  · have c3b : decide ((k : Int) < 3) = false := by simp; omega
                    go_wp2
                    go_ret
                    exact ⟨ret_bool (by rw [← HP.out, v4r_sep HN.out (by rw [size_len, decide_eq_true c2, decide_eq_false (by have := HJ.out; omega)]; rfl)]), hB2⟩
                · have c2b : decide (n < p.size) = false := decide_eq_false c2
                  by_cases c3 : k < 3
                  · have c3b : decide ((k : Int) < 3) = true := by simp; omega
                    go_wp2
                    go_ret
                    exact ⟨ret_bool (by rw [← HP.out, v4r_sep HN.out (by rw [size_len, decide_eq_false c2, decide_eq_true (by have := HJ.out; omega)]; rfl)]), hB2⟩
                  · have c3b : decide ((k : Int) < 3) = false := by simp; omega
                    go_wp2
                    go_roundw
                    case rel =>
                      refine ⟨_, k + 1, rfl, by go_num, by omega, Nat.le_trans (ext_size _ _ _) hz, ?_, hB2⟩
                      have hj : 4 - (k + 1) = j := by have := HJ.out; omega
                      refine Lib.hid ?_
                      have e1 : (if (p.size : Int) < (n : Int) + 1 then (p.size : Int) else (n : Int) + 1).toNat = p.size := by rw [if_pos (by omega)]; simp
                      rw [hj, e1, rest_eq, ← HP.out, v4r_go HN.out HO.out (by rw [size_len, decide_eq_false c2, decide_eq_false (by omega)]; rfl), List.drop_of_length_le (by rw [size_len]; omega), List.drop_of_length_le (by rw [size_len]; omega)]
                    case measure => simp [intOf]; omega
        · go_wp2
          go_ret
          exact ⟨ret_bool (by rw [← HP.out, v4r_bad HN.out (by rw [← HD.out]; exact oct_bad hbad.out)]), hB⟩
    · go_wp2
      go_ret
      obtain rfl : k = 4 := by omega
      exact ⟨ret_bool (by rw [← hp.out, toList_data]; rfl), hb⟩
end Go.Proofs.YtfkgkkmcaaefnaaGreatDoor.Wk
