/-
  THE WALKS of the reference's pieces, isIPv6.
-/
import Derived.Test.YtfkgkkmcaaefnaaGreatDoorS4
set_option linter.unusedSimpArgs false
set_option linter.unusedVariables false
namespace Go.Proofs.YtfkgkkmcaaefnaaGreatDoor.Wk
open Go.RowKit Go.Proofs.YtfkgkkmcaaefnaaGreatDoor.Pu

set_option maxHeartbeats 2000000 in
set_option maxRecDepth 100000 in
theorem pieces_any (s : ByteArray) (last : Bool) (w : World) (hs : s.size ≤ 9223372036854775000) :
    Calls Tryz.prog 100 #[.string s, .bool last] w fun e w' => e = .returned (.int .i64 (piecesF last s.data.toList)) ∧ Below w.heap.size w w' := by
  have hb0 := Below.refl w.heap.size w
  by_cases he : s.data.toList = []
  · have HE := Lib.hid he
    have he2 : s.toList = [] := by rw [toList_data]; exact he
    have he3 : s.toList.isEmpty = true := by rw [he2]; rfl
    clear he
    go_enter Tryz.func100, Tryz.ntmps100
    go_wp2
    go_ret
    exact ⟨ret_int (by rw [piecesF, if_pos HE.out]), hb0⟩
  have HE := Lib.hid he
  have he2 : ¬ s.toList = [] := by rw [toList_data]; exact he
  have he3 : s.toList.isEmpty = false := by rw [Bool.eq_false_iff]; simpa using he2
  have hst : Hid (num ((pcs last (segs 58 s.data.toList)).map (· + 0)) = piecesF last s.data.toList) := by
    refine Lib.hid ?_
    rw [piecesF, if_neg he]
    cases pcs last (segs 58 s.data.toList) <;> rfl
  clear he
  go_enter Tryz.func100, Tryz.ntmps100
  go_wp2
  go_loopw [0, 5] (fun v i wr => ∃ (p : ByteArray) (n : Nat), v = .string p ∧ i = .int .i64 n ∧ n + p.size ≤ s.size ∧ Hid (num ((pcs last (segs 58 p.data.toList)).map (· + n)) = piecesF last s.data.toList) ∧ Below w.heap.size w wr) (fun v _ _ => strN v)
  case atStart => exact ⟨s, 0, rfl, rfl, by omega, hst, hb0⟩
  case round =>
    clear hst he2 he3 HE
    obtain ⟨p, n, rfl, rfl, hz, hp, hb⟩ := hrel
    obtain ⟨wo, rfl⟩ : ∃ wo : World, wo = wr := ⟨_, rfl⟩
    go_wp2_with fail
    refine (index_any _ _ _ (by omega) (by decide)).mono ?_
    rintro e w1 ⟨rfl, hb1⟩
    have hk := idx_le [58] p.data.toList
    rw [size_len] at hk
    generalize hk1 : idx ([58] : L) p.data.toList = k at *
    have HK := Lib.hid hk1
    clear hk1
    go_upto_region 6 with (fail)
    have hd0 : (p.extract 0 k).data.toList = p.data.toList.take k := by rw [ext_toList, List.drop_zero]
    have hds : (p.extract 0 k).size = k := by rw [ByteArray.size_extract]; omega
    generalize p.extract 0 k = d at *
    have HD := Lib.hid hd0
    have hB := bt hb hb1
    have hds1 : d.size ≤ k := by omega
    have hds2 : k ≤ d.size := by omega
    clear hd0 hb hb1 hds
    go_cut [26] (fun v26 wc => ∃ b : Bool, v26 = .bool b ∧ Hid (if b = true then k = p.size ∧ (last && v4 p.data.toList) = true else (k = p.size → (last && v4 p.data.toList) = false)) ∧ Below w.heap.size w wc)
    case first =>
      by_cases hkp : k = p.size
      · have HKP := Lib.hid hkp
        have hkb : ((k : Int) == p.size) = true := by rw [beq_iff_eq]; omega
        have hD : d.data.toList = p.data.toList := by rw [HD.out, HKP.out, ← size_len, List.take_length]
        have HDP := Lib.hid hD
        clear hkp hD
        cases last
        · go_wp2
          go_meet
          case rel => exact ⟨false, rfl, Lib.hid (fun _ => rfl), hB⟩
        · cases hv : v4 d.data.toList
          · have HV := Lib.hid hv
            clear hv
            go_wp2_with (go_at_call 116; refine (v4_any _ _ (by omega)).mono ?_; rintro e w2 ⟨rfl, hb2⟩)
            go_meet
            case rel =>
              refine ⟨_, rfl, Lib.hid ?_, bt hB ‹_›⟩
              rw [HV.out]
              exact fun _ => by rw [← HDP.out, HV.out]; rfl
          · have HV := Lib.hid hv
            clear hv
            go_wp2_with (go_at_call 116; refine (v4_any _ _ (by omega)).mono ?_; rintro e w2 ⟨rfl, hb2⟩)
            go_meet
            case rel =>
              refine ⟨_, rfl, Lib.hid ?_, bt hB ‹_›⟩
              rw [HV.out]
              exact ⟨HKP.out, by rw [← HDP.out, HV.out]; rfl⟩
      · have hkb : ((k : Int) == p.size) = false := by rw [beq_eq_false_iff_ne]; omega
        have HKP := Lib.hid hkp
        clear hkp
        go_wp2
        go_meet
        case rel => exact ⟨false, rfl, Lib.hid (fun h => absurd h HKP.out), hB⟩
    case rest =>
      obtain ⟨b, rfl, hbr, hB3⟩ := hcut
      cases b
      · have hbr2 : k = p.size → (last && v4 p.data.toList) = false := hbr.out
        have HBR := Lib.hid hbr2
        clear hbr hbr2
        have hbad : hexp d.data.toList = false → (-1 : Int) = piecesF last s.data.toList := by
          intro hx
          rw [← hp.out]
          by_cases hkp : k = p.size
          · rw [pc_end0 (by rw [HK.out, hkp, size_len]) (HBR.out hkp) (by rw [← hx, HD.out, hkp, ← size_len, List.take_length])]; rfl
          · rw [pc_bad HK.out (by rw [size_len]; omega) (by rw [← hx, HD.out])]; rfl
        have HBAD := Lib.hid hbad
        clear hbad
        by_cases c0 : d.size = 0
        · have c0b : ((d.size : Int) == 0) = true := by rw [beq_iff_eq]; omega
          have C0 := Lib.hid c0
          clear c0
          go_wp2
          go_ret
          exact ⟨ret_int (HBAD.out (hx_len (by rw [size_len, C0.out]; simp))), hB3⟩
        · have c0b : ((d.size : Int) == 0) = false := by rw [beq_eq_false_iff_ne]; omega
          by_cases c4 : 4 < d.size
          · have c4b : decide ((4 : Int) < d.size) = true := by simp; omega
            go_wp2
            go_ret
            exact ⟨ret_int (HBAD.out (hx_len (by rw [size_len]; omega))), hB3⟩
          · have c4b : decide ((4 : Int) < d.size) = false := by simp; omega
            go_wp2
            go_loopw [39] (fun i wr => ∃ m : Nat, i = .int .i64 m ∧ m ≤ d.size ∧ Hid ((d.data.toList.take m).all isHex = true) ∧ Below w.heap.size w wr) (fun i _ => d.size - (intOf i).toNat)
            case atStart => exact ⟨0, rfl, by omega, rfl, hB3⟩
            case round =>
              obtain ⟨m, rfl, hm, hall, hB4⟩ := hrel
              obtain ⟨wo, rfl⟩ : ∃ wo : World, wo = wr := ⟨_, rfl⟩
              by_cases hmd : m < d.size
              · have hdm := Lib.hid (take_snoc d m hmd)
                have HM := Lib.hid (List.mem_of_getElem? (get_opt d m hmd))
                have hn2 : d[m].toNat < 256 := d[m].toNat_lt
                by_cases hg : hexN d[m].toNat < 0
                · go_wp2_with (go_at_call 76; refine (hex_any _ _ hn2).mono ?_; rintro e w2 ⟨rfl, hb2⟩)
                  go_ret
                  exact ⟨ret_int (HBAD.out (hx_mem HM.out (isHex_f hg))), bt hB4 ‹_›⟩
                · go_wp2_with (go_at_call 76; refine (hex_any _ _ hn2).mono ?_; rintro e w2 ⟨rfl, hb2⟩)
                  go_roundw
                  case rel =>
                    refine ⟨m + 1, by go_num, by omega, Lib.hid ?_, bt hB4 ‹_›⟩
                    rw [hdm.out, List.all_append, hall.out]; simp [isHex_t (c := d[m]) (by omega)]
                  case measure => simp [intOf]; omega
              · have hmd2 : m = d.size := by omega
                have hr := hall.out
                rw [hmd2, ← size_len, List.take_length] at hr
                have HX := Lib.hid (hx_ok (by rw [size_len]; omega) hr)
                clear hr hmd2
                by_cases hkp : k = p.size
                · have HKP := Lib.hid hkp
                  have hkb : ((k : Int) == p.size) = true := by rw [beq_iff_eq]; omega
                  clear hkp
                  go_wp2
                  go_ret
                  refine ⟨ret_int ?_, hB4⟩
                  rw [← hp.out, pc_end1 (by rw [HK.out, HKP.out, size_len]) (HBR.out HKP.out) (by rw [← HX.out, HD.out, HKP.out, ← size_len, List.take_length])]
                  simp [num]; omega
                · have hkb : ((k : Int) == p.size) = false := by rw [beq_eq_false_iff_ne]; omega
                  have hkl : k < p.size := by omega
                  go_wp2
                  go_roundw
                  case rel =>
                    refine ⟨_, n + 1, rfl, by go_num, ?_, Lib.hid ?_, hB4⟩
                    · rw [ByteArray.size_extract]; omega
                    · rw [rest_eq, ← hp.out, pc_next HK.out (by rw [size_len]; omega) (by rw [← HD.out]; exact HX.out), Option.map_map]
                      congr 2
                      funext x; simp; omega
                  case measure => simp [strN, ByteArray.size_extract]; omega
      · have hbr2 : k = p.size ∧ (last && v4 p.data.toList) = true := hbr.out
        have HBR := Lib.hid hbr2
        clear hbr hbr2
        go_wp2
        go_ret
        refine ⟨ret_int ?_, hB3⟩
        rw [← hp.out, pc_end4 (by rw [HK.out, HBR.out.1, size_len]) HBR.out.2]
        simp [num]; omega
end Go.Proofs.YtfkgkkmcaaefnaaGreatDoor.Wk
