/-
  THE WALKS of the reference's Valid, Star, Exact.
-/
import Derived.Test.YtfkgkkmcaaefnaaGreatDoorS7
import Derived.Test.YtfkgkkmcaaefnaaGreatDoorS3
set_option linter.unusedSimpArgs false
set_option linter.unusedVariables false
namespace Go.Proofs.YtfkgkkmcaaefnaaGreatDoor.Wk
open Go.RowKit Go.Proofs.YtfkgkkmcaaefnaaGreatDoor.Pu

set_option maxHeartbeats 4000000 in
set_option maxRecDepth 100000 in
theorem valid_any (r : RefB) (w : World) (hs : r.le 9223372036854770000) :
    Calls Tryz.prog 14 #[refV r] w fun e w' => e = .returned (.bool (validF r.l)) ∧ Below w.heap.size w w' := by
  obtain ⟨z1, z2, z3, z4, z5⟩ := hs
  have hB := (Below.refl w.heap.size w).alloc (Nat.le_refl _) (.cells (refCells r) 25)
  have H1 := Lib.hid (blk_new w (.cells (refCells r) 25))
  have hf1 : ∀ a : Bool, (if a = true then true else false) = a := fun a => by cases a <;> rfl
  clear hf1
  have c0 : (w.alloc (.cells (refCells r) 25)).cell? ⟨w.heap.size, 0, none⟩ = some (.bool r.hs) := blk_cell H1.out 0
  have c1 : (w.alloc (.cells (refCells r) 25)).cell? ⟨w.heap.size, 1, none⟩ = some (.string r.sc) := blk_cell H1.out 1
  have c4 : (w.alloc (.cells (refCells r) 25)).cell? ⟨w.heap.size, 4, none⟩ = some (.string r.pa) := blk_cell H1.out 4
  go_enter Tryz.func14, Tryz.ntmps14
  go_upto_region 1 with (fail)
  go_cut [31] (fun v31 wc => ∃ b : Bool, v31 = .bool b ∧ Hid (goodC r.l = !b) ∧ Below w.heap.size w wc ∧ Hid (wc.heap[w.heap.size]? = some (.cells (refCells r) 25)))
  case first =>
    generalize w.alloc (Obj.cells (refCells r) 25) = W0 at *
    cases hhs : r.hs
    all_goals have HS := Lib.hid hhs
    all_goals rw [hhs] at c0
    all_goals clear hhs
    · skip
      go_wp2_with (fail)
      refine (chars_any _ _ _ _ (by omega) (by decide)).mono ?_
      rintro e w1 ⟨rfl, hb1⟩
      have k1 := blk_below H1.out hb1 (Array.getElem?_eq_some_iff.1 H1.out).1
      have hB1 := bt hB hb1
      clear H1
      have H1 := Lib.hid k1
      clear k1 hb1 hB
      clear c0 c1 c4
      have c6 : w1.cell? ⟨w.heap.size, 6, none⟩ = some (.string r.qu) := blk_cell H1.out 6
      cases hx : charsB [58, 64, 47] true r.pa.data.toList
      · have HX1 := Lib.hid hx
        go_wp2
        go_meet
        case rel => exact ⟨true, rfl, Lib.hid (goodC_2 HX1.out), hB1, H1⟩
      · have HX1 := Lib.hid hx
        clear hx
        go_wp2_with (fail)
        refine (chars_any _ _ _ _ (by omega) (by decide)).mono ?_
        rintro e w2 ⟨rfl, hb2⟩
        have k1 := blk_below H1.out hb2 (Array.getElem?_eq_some_iff.1 H1.out).1
        have hB2 := bt hB1 hb2
        clear H1
        have H1 := Lib.hid k1
        clear k1 hb2 hB1
        clear c6
        have c8 : w2.cell? ⟨w.heap.size, 8, none⟩ = some (.string r.fr) := blk_cell H1.out 8
        cases hx : charsB [58, 64, 47, 63] true r.qu.data.toList
        · have HX2 := Lib.hid hx
          go_wp2
          go_meet
          case rel => exact ⟨true, rfl, Lib.hid (goodC_3 HX2.out), hB2, H1⟩
        · have HX2 := Lib.hid hx
          clear hx
          go_wp2_with (fail)
          refine (chars_any _ _ _ _ (by omega) (by decide)).mono ?_
          rintro e w3 ⟨rfl, hb3⟩
          have k1 := blk_below H1.out hb3 (Array.getElem?_eq_some_iff.1 H1.out).1
          have hB3 := bt hB2 hb3
          clear H1
          have H1 := Lib.hid k1
          clear k1 hb3 hB2
          clear c8
          cases hx : charsB [58, 64, 47, 63] true r.fr.data.toList
          · have HX3 := Lib.hid hx
            go_wp2
            go_meet
            case rel => exact ⟨true, rfl, Lib.hid (goodC_4 HX3.out), hB3, H1⟩
          · have HX3 := Lib.hid hx
            clear hx
            go_wp2
            go_meet
            case rel => exact ⟨false, rfl, Lib.hid (goodC_y (fun h => by rw [show r.l.hs = r.hs from rfl, HS.out] at h; cases h) HX1.out HX2.out HX3.out), hB3, H1⟩
    · skip
      go_wp2_with (fail)
      refine (isScheme_any _ _ (by omega)).mono ?_
      rintro e w4 ⟨rfl, hb4⟩
      have k1 := blk_below H1.out hb4 (Array.getElem?_eq_some_iff.1 H1.out).1
      have hB4 := bt hB hb4
      clear H1
      have H1 := Lib.hid k1
      clear k1 hb4 hB
      clear c0 c1 c4
      have c4 : w4.cell? ⟨w.heap.size, 4, none⟩ = some (.string r.pa) := blk_cell H1.out 4
      cases hx : isScheme r.sc.data.toList
      · have HX0 := Lib.hid hx
        go_wp2
        go_meet
        case rel => exact ⟨true, rfl, Lib.hid (goodC_1 HS.out HX0.out), hB4, H1⟩
      · have HX0 := Lib.hid hx
        clear hx
        go_wp2_with (fail)
        refine (chars_any _ _ _ _ (by omega) (by decide)).mono ?_
        rintro e w5 ⟨rfl, hb5⟩
        have k1 := blk_below H1.out hb5 (Array.getElem?_eq_some_iff.1 H1.out).1
        have hB5 := bt hB4 hb5
        clear H1
        have H1 := Lib.hid k1
        clear k1 hb5 hB4
        clear c4
        have c6 : w5.cell? ⟨w.heap.size, 6, none⟩ = some (.string r.qu) := blk_cell H1.out 6
        cases hx : charsB [58, 64, 47] true r.pa.data.toList
        · have HX1 := Lib.hid hx
          go_wp2
          go_meet
          case rel => exact ⟨true, rfl, Lib.hid (goodC_2 HX1.out), hB5, H1⟩
        · have HX1 := Lib.hid hx
          clear hx
          go_wp2_with (fail)
          refine (chars_any _ _ _ _ (by omega) (by decide)).mono ?_
          rintro e w6 ⟨rfl, hb6⟩
          have k1 := blk_below H1.out hb6 (Array.getElem?_eq_some_iff.1 H1.out).1
          have hB6 := bt hB5 hb6
          clear H1
          have H1 := Lib.hid k1
          clear k1 hb6 hB5
          clear c6
          have c8 : w6.cell? ⟨w.heap.size, 8, none⟩ = some (.string r.fr) := blk_cell H1.out 8
          cases hx : charsB [58, 64, 47, 63] true r.qu.data.toList
          · have HX2 := Lib.hid hx
            go_wp2
            go_meet
            case rel => exact ⟨true, rfl, Lib.hid (goodC_3 HX2.out), hB6, H1⟩
          · have HX2 := Lib.hid hx
            clear hx
            go_wp2_with (fail)
            refine (chars_any _ _ _ _ (by omega) (by decide)).mono ?_
            rintro e w7 ⟨rfl, hb7⟩
            have k1 := blk_below H1.out hb7 (Array.getElem?_eq_some_iff.1 H1.out).1
            have hB7 := bt hB6 hb7
            clear H1
            have H1 := Lib.hid k1
            clear k1 hb7 hB6
            clear c8
            cases hx : charsB [58, 64, 47, 63] true r.fr.data.toList
            · have HX3 := Lib.hid hx
              go_wp2
              go_meet
              case rel => exact ⟨true, rfl, Lib.hid (goodC_4 HX3.out), hB7, H1⟩
            · have HX3 := Lib.hid hx
              clear hx
              go_wp2
              go_meet
              case rel => exact ⟨false, rfl, Lib.hid (goodC_y (fun _ => HX0.out) HX1.out HX2.out HX3.out), hB7, H1⟩
  case rest =>
    obtain ⟨b, rfl, hg, hB, H1⟩ := hcut
    clear c0 c1 c4
    cases b
    · have HG : Hid (goodC r.l = true) := hg
      have c2 : wc.cell? ⟨w.heap.size, 2, none⟩ = some (.bool r.ha) := blk_cell H1.out 2
      cases hha : r.ha
      · have HA := Lib.hid hha
        have c4 : wc.cell? ⟨w.heap.size, 4, none⟩ = some (.string r.pa) := blk_cell H1.out 4
        go_wp2_with (fail)
        refine (begins_any _ _ _ (by omega) (by decide)).mono ?_
        rintro e w9 ⟨rfl, hb9⟩
        have k1 := blk_below H1.out hb9 (Array.getElem?_eq_some_iff.1 H1.out).1
        have hB9 := bt hB hb9
        clear H1
        have H1 := Lib.hid k1
        clear k1 hb9 hB
        clear c2 c4 hha
        have c0 : w9.cell? ⟨w.heap.size, 0, none⟩ = some (.bool r.hs) := blk_cell H1.out 0
        have c4 : w9.cell? ⟨w.heap.size, 4, none⟩ = some (.string r.pa) := blk_cell H1.out 4
        cases hpre : ([47, 47] : L).isPrefixOf r.pa.data.toList
        · have HP := Lib.hid hpre
          clear hpre
          go_wp2_with (fail)
          refine (index_any _ _ _ (by omega) (by decide)).mono ?_
          rintro e w10 ⟨rfl, hb10⟩
          have k1 := blk_below H1.out hb10 (Array.getElem?_eq_some_iff.1 H1.out).1
          have hB10 := bt hB9 hb10
          clear H1
          have H1 := Lib.hid k1
          clear k1 hb10 hB9
          clear c0 c4
          have c0 : w10.cell? ⟨w.heap.size, 0, none⟩ = some (.bool r.hs) := blk_cell H1.out 0
          have c4 : w10.cell? ⟨w.heap.size, 4, none⟩ = some (.string r.pa) := blk_cell H1.out 4
          have hn := idx_le [47] r.pa.data.toList
          rw [size_len] at hn
          generalize hn1 : idx ([47] : L) r.pa.data.toList = n at *
          have HN := Lib.hid hn1
          clear hn1
          cases hhs : r.hs
          · have HS := Lib.hid hhs
            rw [hhs] at c0
            clear hhs
            go_wp2_with (fail)
            have hzx := ext_size r.pa 0 n
            have HX := Lib.hid (show (r.pa.extract 0 n).data.toList = r.pa.data.toList.take n by rw [ext_toList, List.drop_zero])
            generalize r.pa.extract 0 n = x at *
            refine (index_any _ _ _ (by omega) (by decide)).mono ?_
            rintro e w11 ⟨rfl, hb11⟩
            go_wp2
            go_ret
            refine ⟨ret_bool ?_, bt hB10 hb11⟩
            rw [validF, HG.out, show r.l.ha = r.ha from rfl, HA.out, if_neg (by decide), pathN, show r.l.pa = r.pa.data.toList from rfl, show r.l.hs = r.hs from rfl, HP.out, HS.out, HN.out, HX.out]
            rw [Bool.eq_iff_iff]; simp
            omega
          · have HS := Lib.hid hhs
            rw [hhs] at c0
            clear hhs
            go_wp2
            go_ret
            refine ⟨ret_bool ?_, hB10⟩
            rw [validF, HG.out, show r.l.ha = r.ha from rfl, HA.out, if_neg (by decide), pathN, show r.l.pa = r.pa.data.toList from rfl, show r.l.hs = r.hs from rfl, HP.out, HS.out]
            rfl
        · have HP := Lib.hid hpre
          clear hpre
          go_wp2
          go_ret
          refine ⟨ret_bool ?_, hB9⟩
          rw [validF, HG.out, show r.l.ha = r.ha from rfl, HA.out, if_neg (by decide), pathN, show r.l.pa = r.pa.data.toList from rfl, HP.out]
          rfl
      · have HA := Lib.hid hha
        have c3 : wc.cell? ⟨w.heap.size, 3, none⟩ = some (.string r.au) := blk_cell H1.out 3
        go_wp2_with (fail)
        refine (auth_any _ _ (by omega)).mono ?_
        rintro e w9 ⟨hu, us, ho, ok, rfl, ha, hzu, hzh, hb9⟩
        have k1 := blk_below H1.out hb9 (Array.getElem?_eq_some_iff.1 H1.out).1
        have hB9 := bt hB hb9
        clear H1
        have H1 := Lib.hid k1
        clear k1 hb9 hB
        clear c2 c3 hha
        have c4 : w9.cell? ⟨w.heap.size, 4, none⟩ = some (.string r.pa) := blk_cell H1.out 4
        have c4b : (w9.alloc (.cells #[.bool hu, .string us, .string ho] 63)).cell? ⟨w.heap.size, 4, none⟩ = some (.string r.pa) := blk_cell (blk_alloc H1.out _) 4
        have HV : Hid (validF r.l = (ok && pathA r.pa.data.toList)) := Lib.hid (by rw [validF, HG.out, show r.l.ha = r.ha from rfl, HA.out, if_pos rfl, show r.l.au = r.au.data.toList from rfl, ha.out]; rfl)
        clear ha
        cases ok
        · go_wp2
          go_ret
          exact ⟨ret_bool (by rw [HV.out]; rfl), hB9.alloc hB9.size _⟩
        · by_cases he : r.pa.data.toList = []
          · have HE := Lib.hid he
            have he2 : r.pa.toList = [] := by rw [toList_data]; exact he
            have he3 : r.pa.toList.isEmpty = true := by rw [he2]; rfl
            clear he
            go_wp2
            go_ret
            exact ⟨ret_bool (by rw [HV.out, HE.out]; rfl), hB9.alloc hB9.size _⟩
          · have he2 : ¬ r.pa.toList = [] := by rw [toList_data]; exact he
            have he3 : r.pa.toList.isEmpty = false := by rw [Bool.eq_false_iff]; simpa using he2
            have hpos : 0 < r.pa.size := by rw [← size_len]; exact List.length_pos_iff.2 he
            have hx := Lib.hid (get_opt r.pa 0 hpos)
            have HE := Lib.hid he
            clear he
            go_wp2
            go_ret
            refine ⟨ret_bool ?_, hB9.alloc hB9.size _⟩
            rw [HV.out, pathA, hx.out, show r.pa.data.toList.isEmpty = false by rw [← toList_data]; exact he3, Bool.eq_iff_iff]
            simp only [Bool.true_and, Bool.false_or, decide_eq_true_eq, beq_iff_eq, Option.some.injEq]
            constructor
            · intro h; exact UInt8.toNat_inj.1 (by have : ((r.pa[0].toNat : Int)) = 47 := by simpa using h
                                                   show r.pa[0].toNat = 47; omega)
            · intro h; rw [h]; rfl
    · have HG : Hid (goodC r.l = false) := hg
      go_wp2
      go_ret
      exact ⟨ret_bool (by rw [validF, HG.out]; rfl), hB⟩
end Go.Proofs.YtfkgkkmcaaefnaaGreatDoor.Wk
