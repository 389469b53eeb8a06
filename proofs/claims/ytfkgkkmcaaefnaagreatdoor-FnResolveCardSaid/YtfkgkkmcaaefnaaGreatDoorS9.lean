/-
  THE WALKS of the reference's Star, Exact.
-/
import Derived.Test.YtfkgkkmcaaefnaaGreatDoorS7
import Derived.Test.YtfkgkkmcaaefnaaGreatDoorS3
set_option linter.unusedSimpArgs false
set_option linter.unusedVariables false
namespace Go.Proofs.YtfkgkkmcaaefnaaGreatDoor.Wk
open Go.RowKit Go.Proofs.YtfkgkkmcaaefnaaGreatDoor.Pu

theorem star_any (r : RefB) (w : World) : Calls Tryz.prog 15 #[refV r] w fun e w' => e = .returned (.bool (starF r.l)) ∧ Below w.heap.size w w' := by
  have hB := (Below.refl w.heap.size w).alloc (Nat.le_refl _) (.cells (refCells r) 25)
  obtain ⟨hs, sc, ha, au, pa, hq, qu, hf, fr⟩ := r
  have hx : starF (RefB.l ⟨hs, sc, ha, au, pa, hq, qu, hf, fr⟩) = (!hs && !ha && (pa.toList == [37, 50, 65])) := by
    rw [toList_data]; unfold starF RefB.l
    rw [Bool.eq_iff_iff]; simp
  have HX := Lib.hid hx
  clear hx
  cases hs <;> cases ha
  all_goals
    go_enter Tryz.func15, Tryz.ntmps15
    go_wp2
    go_ret
    exact ⟨ret_bool (by rw [HX.out]; rfl), hB⟩

set_option maxHeartbeats 4000000 in
set_option maxRecDepth 100000 in
theorem exact_any (r : RefB) (w : World) (hz : r.le 9223372036854770000) : Calls Tryz.prog 16 #[refV r] w fun e w' => e = .returned (.bool (exactF r.l)) ∧ Below w.heap.size w w' := by
  have hB := (Below.refl w.heap.size w).alloc (Nat.le_refl _) (.cells (refCells r) 25)
  have H1 := Lib.hid (blk_new w (.cells (refCells r) 25))
  obtain ⟨z1, z2, z3, z4, z5⟩ := hz
  obtain ⟨hs, sc, ha, au, pa, hq, qu, hf, fr⟩ := r
  have z2 : au.size ≤ 9223372036854770000 := z2
  have c3 : (w.alloc (.cells (refCells ⟨hs, sc, ha, au, pa, hq, qu, hf, fr⟩) 25)).cell? ⟨w.heap.size, 3, none⟩ = some (.string au) := blk_cell H1.out 3
  go_enter Tryz.func16, Tryz.ntmps16
  go_wp2_with (fail)
  refine (auth_any _ _ (by omega)).mono ?_
  rintro e w1 ⟨hu, us, ho, ok, rfl, hau, hzu, hzh, hb1⟩
  have hB1 := bt hB hb1
  have h1 := blk_below H1.out hb1 (Array.getElem?_eq_some_iff.1 H1.out).1
  have HAU := Lib.hid (show authF (RefB.l ⟨hs, sc, ha, au, pa, hq, qu, hf, fr⟩).au = _ from hau.out)
  have hlt := (Array.getElem?_eq_some_iff.1 h1).1
  clear H1 hau hb1 c3 hB
  have HB2 : Below w.heap.size w (w1.alloc (.cells #[.bool hu, .string us, .string ho] 63)) := hB1.alloc hB1.size _
  have k1 := blk_alloc h1 (.cells #[.bool hu, .string us, .string ho] 63)
  have k2 := blk_new w1 (.cells #[.bool hu, .string us, .string ho] 63)
  have H1 := Lib.hid k1
  have H2 := Lib.hid k2
  clear h1 k1 k2 hB1
  have d0 : (w1.alloc (.cells #[.bool hu, .string us, .string ho] 63)).cell? ⟨w.heap.size, 0, none⟩ = some (.bool hs) := blk_cell H1.out 0
  have d2 : (w1.alloc (.cells #[.bool hu, .string us, .string ho] 63)).cell? ⟨w.heap.size, 2, none⟩ = some (.bool ha) := blk_cell H1.out 2
  have d4 : (w1.alloc (.cells #[.bool hu, .string us, .string ho] 63)).cell? ⟨w.heap.size, 4, none⟩ = some (.string pa) := blk_cell H1.out 4
  go_upto_region 2 with (fail)
  generalize w1.alloc (.cells #[.bool hu, .string us, .string ho] 63) = W at *
  have e0 : W.cell? ⟨w1.heap.size, 0, none⟩ = some (.bool hu) := blk_cell H2.out 0
  have e1 : W.cell? ⟨w1.heap.size, 1, none⟩ = some (.string us) := blk_cell H2.out 1
  have e2 : W.cell? ⟨w1.heap.size, 2, none⟩ = some (.string ho) := blk_cell H2.out 2
  go_cut [32] (fun v32 wc => ∃ b : Bool, v32 = .bool b ∧ Hid (b = (ha && ho.toList.isEmpty && (hu || !hs || pa.toList.isEmpty))) ∧ wc = W)
  case first =>
    clear H1 H2 HAU
    by_cases he : ho.toList = []
    · have he3 : ho.toList.isEmpty = true := by rw [he]; rfl
      by_cases hp : pa.toList = []
      · have hp3 : pa.toList.isEmpty = true := by rw [hp]; rfl
        cases ha <;> cases hu <;> cases hs
        all_goals
          go_wp2
          go_meet
          case rel => exact ⟨_, rfl, Lib.hid (by simp [he3, hp3]), rfl⟩
      · have hp3 : pa.toList.isEmpty = false := by rw [Bool.eq_false_iff]; simpa using hp
        cases ha <;> cases hu <;> cases hs
        all_goals
          go_wp2
          go_meet
          case rel => exact ⟨_, rfl, Lib.hid (by simp [he3, hp3]), rfl⟩
    · have he3 : ho.toList.isEmpty = false := by rw [Bool.eq_false_iff]; simpa using he
      cases ha
      all_goals
        go_wp2
        go_meet
        case rel => exact ⟨_, rfl, Lib.hid (by simp [he3]), rfl⟩
  case rest =>
    obtain ⟨b, rfl, hb, rfl⟩ := hcut
    have hx : exactF (RefB.l ⟨hs, sc, ha, au, pa, hq, qu, hf, fr⟩) = (!b && exactU us.data.toList) := by
      rw [exactF, HAU.out, hb.out, toList_data, toList_data]; rfl
    have HX := Lib.hid hx
    clear hx HAU hb H1 H2
    cases b
    · go_wp2_with (fail)
      refine (index_any _ _ _ (by omega) (by decide)).mono ?_
      rintro e w2 ⟨rfl, hb2⟩
      have hlt2 : w1.heap.size < wc.heap.size := by
        rcases Nat.lt_or_ge w1.heap.size wc.heap.size with h | h
        · exact h
        · rw [World.cell?] at e1; simp [Array.getElem?_eq_none h] at e1
      have e1' : w2.cell? ⟨w1.heap.size, 1, none⟩ = some (.string us) := (hb2.cell (p := ⟨w1.heap.size, 1, none⟩) hlt2).trans e1
      have hB2 := bt HB2 hb2
      have hb2s := hb2.size
      clear e0 e1 e2 d0 d2 d4 hb2 HB2
      have hn := idx_le [58] us.data.toList
      rw [size_len] at hn
      generalize hn1 : idx ([58] : L) us.data.toList = n at *
      have HN := Lib.hid hn1
      clear hn1
      go_wp2_with (fail)
      have hzx := ext_size us 0 n
      have HXX := Lib.hid (show (us.extract 0 n).data.toList = us.data.toList.take n by rw [ext_toList, List.drop_zero])
      generalize us.extract 0 n = x at *
      refine (unresL_any _ _ (by omega)).mono ?_
      rintro e w3 ⟨rfl, hb3⟩
      have hlt3 : w1.heap.size < w2.heap.size := Nat.lt_of_lt_of_le hlt2 hb2s
      have e1 : w3.cell? ⟨w1.heap.size, 1, none⟩ = some (.string us) := (hb3.cell (p := ⟨w1.heap.size, 1, none⟩) hlt3).trans e1'
      have hB3 := bt hB2 hb3
      clear e1' hb3 hB2
      cases hu1 : unresL x.data.toList
      · have HU := Lib.hid hu1
        clear hu1
        go_wp2
        go_ret
        exact ⟨ret_bool (by rw [HX.out, exactU, HN.out, ← HXX.out, HU.out]; rfl), hB3⟩
      · have HU := Lib.hid hu1
        clear hu1
        by_cases c1 : n = us.size
        · have c1b : ((n : Int) == us.size) = true := by rw [beq_iff_eq]; omega
          have C1 := Lib.hid c1
          clear c1
          go_wp2
          go_ret
          exact ⟨ret_bool (by rw [HX.out, exactU, HN.out, ← HXX.out, HU.out, decide_eq_true (by rw [size_len]; exact C1.out)]; rfl), hB3⟩
        · have c1b : ((n : Int) == us.size) = false := by rw [beq_eq_false_iff_ne]; omega
          have hnlt : n < us.size := by omega
          have C1 := Lib.hid c1
          clear c1
          go_wp2_with (fail)
          have hzy := ext_size us (n + 1) us.size
          have HY := Lib.hid (rest_eq us (n + 1))
          generalize us.extract (n + 1) us.size = y at *
          refine (unresL_any _ _ (by omega)).mono ?_
          rintro e w4 ⟨rfl, hb4⟩
          go_wp2
          go_ret
          exact ⟨ret_bool (by rw [HX.out, exactU, HN.out, ← HXX.out, HU.out, decide_eq_false (by rw [size_len]; exact C1.out), HY.out]; rfl), bt hB3 hb4⟩
    · go_wp2
      go_ret
      exact ⟨ret_bool (by rw [HX.out]; rfl), HB2⟩
end Go.Proofs.YtfkgkkmcaaefnaaGreatDoor.Wk
