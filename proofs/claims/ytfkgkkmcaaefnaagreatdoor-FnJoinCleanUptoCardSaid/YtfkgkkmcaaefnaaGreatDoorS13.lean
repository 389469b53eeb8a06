/-
  THE WALK of the reference's Resolve.
-/
import Derived.Test.YtfkgkkmcaaefnaaGreatDoorS12
import Derived.Deep.RegionWith
import Derived.Deep.RegionHeld3
set_option linter.unusedSimpArgs false
set_option linter.unusedVariables false
namespace Go.Proofs.YtfkgkkmcaaefnaaGreatDoor.Wk
open Go.RowKit Go.Proofs.YtfkgkkmcaaefnaaGreatDoor.Pu

def resolveF (b r : Ref) : Ref :=
  if r.hs = true then { r with pa := removeDots r.pa }
  else if r.ha = true then { r with hs := b.hs, sc := b.sc, ha := true, pa := removeDots r.pa }
  else if r.pa = [] then { hs := b.hs, sc := b.sc, ha := b.ha, au := b.au, pa := b.pa, hq := if r.hq = true then true else b.hq, qu := if r.hq = true then r.qu else b.qu, hf := r.hf, fr := r.fr }
  else { hs := b.hs, sc := b.sc, ha := b.ha, au := b.au, hq := r.hq, qu := r.qu, hf := r.hf, fr := r.fr,
         pa := if r.pa[0]? = some 47 then removeDots r.pa else if b.ha = true ∧ b.pa = [] then removeDots (47 :: r.pa) else removeDots (b.pa.take (lastSl b.pa) ++ r.pa) }

/-- the four blocks: base, reference, the result's, t -/
def Four (w W : World) (b r t : RefB) : Prop :=
  W.heap[w.heap.size]? = some (.cells (refCells b) 25) ∧ W.heap[w.heap.size + 1]? = some (.cells (refCells r) 25) ∧ W.heap[w.heap.size + 2]? = some (.cells (refCells ref0) 25) ∧
    W.heap[w.heap.size + 3]? = some (.cells (refCells t) 25) ∧ Below w.heap.size w W
theorem Four.lt {w W : World} {b r t : RefB} (h : Four w W b r t) : w.heap.size + 3 < W.heap.size := (Array.getElem?_eq_some_iff.1 h.2.2.2.1).1
theorem Four.below {w W W' : World} {b r t : RefB} (h : Four w W b r t) (hb : Below W.heap.size W W') : Four w W' b r t := by
  have hl := h.lt
  exact ⟨blk_below h.1 hb (by omega), blk_below h.2.1 hb (by omega), blk_below h.2.2.1 hb (by omega), blk_below h.2.2.2.1 hb (by omega), bt h.2.2.2.2 hb⟩
theorem Four.set {w W : World} {b r t t' : RefB} (h : Four w W b r t) (i : Nat) (v : Value) (e : (refCells t).setIfInBounds i v = refCells t') : Four w (W.setCell ⟨w.heap.size + 3, i, none⟩ v) b r t' :=
  ⟨blk_far h.1 _ _ (by omega), blk_far h.2.1 _ _ (by omega), blk_far h.2.2.1 _ _ (by omega), by rw [← e]; exact blk_set h.2.2.2.1 _ _, h.2.2.2.2.setCell (by simp) _⟩
theorem Four.drew {w W : World} {b r t : RefB} (h : Four w W b r t) : Four w W.drew b r t := ⟨h.1, h.2.1, h.2.2.1, h.2.2.2.1, h.2.2.2.2.drew⟩
theorem four_new (w : World) (b r t : RefB) : Four w ((((w.alloc (.cells (refCells b) 25)).alloc (.cells (refCells r) 25)).alloc (.cells (refCells ref0) 25)).alloc (.cells (refCells t) 25)) b r t := by
  have h1 := blk_new w (.cells (refCells b) 25)
  have h2 := blk_new (w.alloc (.cells (refCells b) 25)) (.cells (refCells r) 25)
  have h3 := blk_new ((w.alloc (.cells (refCells b) 25)).alloc (.cells (refCells r) 25)) (.cells (refCells ref0) 25)
  have h4 := blk_new (((w.alloc (.cells (refCells b) 25)).alloc (.cells (refCells r) 25)).alloc (.cells (refCells ref0) 25)) (.cells (refCells t) 25)
  simp only [World.size_alloc] at h2 h3 h4
  refine ⟨blk_alloc (blk_alloc (blk_alloc h1 _) _) _, blk_alloc (blk_alloc h2 _) _, blk_alloc h3 _, h4, ?_⟩
  exact ((((Below.refl _ _).alloc (Nat.le_refl _) _).alloc (by simp) _).alloc (by simp; omega) _).alloc (by simp; omega) _

set_option maxHeartbeats 8000000 in
set_option maxRecDepth 100000 in
theorem resolve_any (b r : RefB) (w : World) (hb : b.le 400000000000) (hr : r.le 400000000000) :
    Calls Tryz.prog 21 #[refV b, refV r] w fun e w' => ∃ t : RefB, e = .returned (refV t) ∧ Hid (t.l = resolveF b.l r.l) ∧ Below w.heap.size w w' := by
  obtain ⟨y1, y2, y3, y4, y5⟩ := hb
  obtain ⟨z1, z2, z3, z4, z5⟩ := hr
  have H := four_new w b r ⟨false, ⟨#[]⟩, false, ⟨#[]⟩, ⟨#[]⟩, false, ⟨#[]⟩, r.hf, r.fr⟩
  go_enter Tryz.func21, Tryz.ntmps21
  go_upto_region 1 with (fail)
  go_upto_region 2 with (fail)
  generalize (((w.alloc (.cells (refCells b) 25)).alloc (.cells (refCells r) 25)).alloc (.cells (refCells ref0) 25)).alloc (.cells (refCells ⟨false, ⟨#[]⟩, false, ⟨#[]⟩, ⟨#[]⟩, false, ⟨#[]⟩, r.hf, r.fr⟩) 25) = W at *
  have F := Lib.hid H
  clear H
  cases hhs : r.hs
  · have HS := Lib.hid hhs --D
    have r0 : W.cell? ⟨w.heap.size + 1, 0, none⟩ = some (.bool r.hs) := blk_cell F.out.2.1 0
    rw [hhs] at r0
    clear hhs
    have b0 : W.cell? ⟨w.heap.size, 0, none⟩ = some (.bool b.hs) := blk_cell F.out.1 0
    have b1 : W.cell? ⟨w.heap.size, 1, none⟩ = some (.string b.sc) := blk_cell F.out.1 1
    have t0 : W.cell? ⟨w.heap.size + 3, 0, none⟩ = some (.bool false) := blk_cell F.out.2.2.2.1 0
    have t1 : W.cell? ⟨w.heap.size + 3, 1, none⟩ = some (.string ⟨#[]⟩) := blk_cell F.out.2.2.2.1 1
    have f0 : W.frozen? ⟨w.heap.size + 3, 0, none⟩ = false := blk_frozen F.out.2.2.2.1 0
    have f1 : W.frozen? ⟨w.heap.size + 3, 1, none⟩ = false := blk_frozen F.out.2.2.2.1 1
    go_upto_region 6 with (fail)
    go_cut [5] (fun v5 wc => v5 = .pointer (some ⟨w.heap.size + 3, 0, none⟩) ∧ Hid (Four w wc b r ⟨b.hs, b.sc, false, ⟨#[]⟩, ⟨#[]⟩, false, ⟨#[]⟩, r.hf, r.fr⟩))
    case first =>
      go_region
      go_wp2
      go_meet
      case rel => exact ⟨rfl, Lib.hid (((F.out.set (t' := ⟨b.hs, ⟨#[]⟩, false, ⟨#[]⟩, ⟨#[]⟩, false, ⟨#[]⟩, r.hf, r.fr⟩) 0 (.bool b.hs) rfl).set (t' := ⟨b.hs, b.sc, false, ⟨#[]⟩, ⟨#[]⟩, false, ⟨#[]⟩, r.hf, r.fr⟩) 1 (.string b.sc) rfl).drew)⟩
    case rest =>
      clear F r0 b0 b1 t0 t1 f0 f1
      obtain ⟨rfl, F⟩ := hcut
      cases hha : r.ha
      · have HA := Lib.hid hha
        have r2 : wc.cell? ⟨w.heap.size + 1, 2, none⟩ = some (.bool r.ha) := blk_cell F.out.2.1 2
        rw [hha] at r2
        clear hha
        have b2 : wc.cell? ⟨w.heap.size, 2, none⟩ = some (.bool b.ha) := blk_cell F.out.1 2
        have b3 : wc.cell? ⟨w.heap.size, 3, none⟩ = some (.string b.au) := blk_cell F.out.1 3
        have t2 : wc.cell? ⟨w.heap.size + 3, 2, none⟩ = some (.bool false) := blk_cell F.out.2.2.2.1 2
        have t3 : wc.cell? ⟨w.heap.size + 3, 3, none⟩ = some (.string ⟨#[]⟩) := blk_cell F.out.2.2.2.1 3
        have f2 : wc.frozen? ⟨w.heap.size + 3, 2, none⟩ = false := blk_frozen F.out.2.2.2.1 2
        have f3 : wc.frozen? ⟨w.heap.size + 3, 3, none⟩ = false := blk_frozen F.out.2.2.2.1 3
        go_upto_region 10 with (fail)
        go_cut [5] (fun v5 wc => v5 = .pointer (some ⟨w.heap.size + 3, 0, none⟩) ∧ Hid (Four w wc b r ⟨b.hs, b.sc, b.ha, b.au, ⟨#[]⟩, false, ⟨#[]⟩, r.hf, r.fr⟩))
        case first =>
          go_region
          go_wp2
          go_meet
          case rel => exact ⟨rfl, Lib.hid (((F.out.set (t' := ⟨b.hs, b.sc, b.ha, ⟨#[]⟩, ⟨#[]⟩, false, ⟨#[]⟩, r.hf, r.fr⟩) 2 (.bool b.ha) rfl).set (t' := ⟨b.hs, b.sc, b.ha, b.au, ⟨#[]⟩, false, ⟨#[]⟩, r.hf, r.fr⟩) 3 (.string b.au) rfl).drew)⟩
        case rest =>
          clear F r2 b2 b3 t2 t3 f2 f3
          obtain ⟨rfl, F⟩ := hcut
          by_cases hp : r.pa.data.toList = []
          · have hp2 : r.pa.toList = [] := by rw [toList_data]; exact hp --D
            have hp3 : r.pa.toList.isEmpty = true := by rw [hp2]; rfl
            have HP := Lib.hid hp
            clear hp
            have r4 : wc.cell? ⟨w.heap.size + 1, 4, none⟩ = some (.string r.pa) := blk_cell F.out.2.1 4
            have b4 : wc.cell? ⟨w.heap.size, 4, none⟩ = some (.string b.pa) := blk_cell F.out.1 4
            have b5 : wc.cell? ⟨w.heap.size, 5, none⟩ = some (.bool b.hq) := blk_cell F.out.1 5
            have b6 : wc.cell? ⟨w.heap.size, 6, none⟩ = some (.string b.qu) := blk_cell F.out.1 6
            have t4 : wc.cell? ⟨w.heap.size + 3, 4, none⟩ = some (.string ⟨#[]⟩) := blk_cell F.out.2.2.2.1 4
            have t5 : wc.cell? ⟨w.heap.size + 3, 5, none⟩ = some (.bool false) := blk_cell F.out.2.2.2.1 5
            have t6 : wc.cell? ⟨w.heap.size + 3, 6, none⟩ = some (.string ⟨#[]⟩) := blk_cell F.out.2.2.2.1 6
            have f4 : wc.frozen? ⟨w.heap.size + 3, 4, none⟩ = false := blk_frozen F.out.2.2.2.1 4
            have f5 : wc.frozen? ⟨w.heap.size + 3, 5, none⟩ = false := blk_frozen F.out.2.2.2.1 5
            have f6 : wc.frozen? ⟨w.heap.size + 3, 6, none⟩ = false := blk_frozen F.out.2.2.2.1 6
            go_upto_region 12 with (fail)
            go_cut [5] (fun v5 wc => v5 = .pointer (some ⟨w.heap.size + 3, 0, none⟩) ∧ Hid (Four w wc b r ⟨b.hs, b.sc, b.ha, b.au, b.pa, b.hq, b.qu, r.hf, r.fr⟩))
            case first =>
              go_region
              go_wp2
              go_meet
              case rel => exact ⟨rfl, Lib.hid ((((F.out.set (t' := ⟨b.hs, b.sc, b.ha, b.au, b.pa, false, ⟨#[]⟩, r.hf, r.fr⟩) 4 (.string b.pa) rfl).set (t' := ⟨b.hs, b.sc, b.ha, b.au, b.pa, b.hq, ⟨#[]⟩, r.hf, r.fr⟩) 5 (.bool b.hq) rfl).set (t' := ⟨b.hs, b.sc, b.ha, b.au, b.pa, b.hq, b.qu, r.hf, r.fr⟩) 6 (.string b.qu) rfl).drew)⟩
            case rest =>
              clear F r4 b4 b5 b6 t4 t5 t6 f4 f5 f6
              obtain ⟨rfl, F⟩ := hcut
              cases hhq : r.hq
              · have HQ := Lib.hid hhq
                have r5 : wc.cell? ⟨w.heap.size + 1, 5, none⟩ = some (.bool r.hq) := blk_cell F.out.2.1 5
                rw [hhq] at r5
                clear hhq
                have q0 : wc.cell? ⟨w.heap.size + 3, 0, none⟩ = some (.bool b.hs) := blk_cell F.out.2.2.2.1 0
                have q1 : wc.cell? ⟨w.heap.size + 3, 1, none⟩ = some (.string b.sc) := blk_cell F.out.2.2.2.1 1
                have q2 : wc.cell? ⟨w.heap.size + 3, 2, none⟩ = some (.bool b.ha) := blk_cell F.out.2.2.2.1 2
                have q3 : wc.cell? ⟨w.heap.size + 3, 3, none⟩ = some (.string b.au) := blk_cell F.out.2.2.2.1 3
                have q4 : wc.cell? ⟨w.heap.size + 3, 4, none⟩ = some (.string b.pa) := blk_cell F.out.2.2.2.1 4
                have q5 : wc.cell? ⟨w.heap.size + 3, 5, none⟩ = some (.bool b.hq) := blk_cell F.out.2.2.2.1 5
                have q6 : wc.cell? ⟨w.heap.size + 3, 6, none⟩ = some (.string b.qu) := blk_cell F.out.2.2.2.1 6
                have q7 : wc.cell? ⟨w.heap.size + 3, 7, none⟩ = some (.bool r.hf) := blk_cell F.out.2.2.2.1 7
                have q8 : wc.cell? ⟨w.heap.size + 3, 8, none⟩ = some (.string r.fr) := blk_cell F.out.2.2.2.1 8
                have hc0 : ∀ j, wc.cell? ⟨w.heap.size + 2, j, none⟩ = (refCells ref0)[j]? := blk_cell F.out.2.2.1
                have z0 : ∀ j, wc.frozen? ⟨w.heap.size + 2, j, none⟩ = false := blk_frozen F.out.2.2.1
                have hBf := F.out.2.2.2.2
                go_wp2
                refine bodyPost_ret (v := refV ⟨b.hs, b.sc, b.ha, b.au, b.pa, b.hq, b.qu, r.hf, r.fr⟩) (by simp [results, Tryz.results21, go_sem, hc0, refCells, ref0]) rfl ⟨⟨b.hs, b.sc, b.ha, b.au, b.pa, b.hq, b.qu, r.hf, r.fr⟩, rfl, Lib.hid ?_, ?_⟩
                · rw [resolveF, if_neg (by show ¬ r.hs = true; rw [HS.out]; decide), if_neg (by show ¬ r.ha = true; rw [HA.out]; decide), if_pos (show r.l.pa = [] from HP.out)]; show _ = Ref.mk _ _ _ _ _ (if r.hq = true then true else b.hq) (if r.hq = true then r.qu.data.toList else b.qu.data.toList) _ _; rw [HQ.out]; rfl
                · go_grown
              · have HQ := Lib.hid hhq
                have r5 : wc.cell? ⟨w.heap.size + 1, 5, none⟩ = some (.bool r.hq) := blk_cell F.out.2.1 5
                have r6 : wc.cell? ⟨w.heap.size + 1, 6, none⟩ = some (.string r.qu) := blk_cell F.out.2.1 6
                rw [hhq] at r5
                clear hhq
                have t5 : wc.cell? ⟨w.heap.size + 3, 5, none⟩ = some (.bool b.hq) := blk_cell F.out.2.2.2.1 5
                have t6 : wc.cell? ⟨w.heap.size + 3, 6, none⟩ = some (.string b.qu) := blk_cell F.out.2.2.2.1 6
                have f5 : wc.frozen? ⟨w.heap.size + 3, 5, none⟩ = false := blk_frozen F.out.2.2.2.1 5
                have f6 : wc.frozen? ⟨w.heap.size + 3, 6, none⟩ = false := blk_frozen F.out.2.2.2.1 6
                go_upto_region 14 with (fail)
                go_cut [5] (fun v5 wc => v5 = .pointer (some ⟨w.heap.size + 3, 0, none⟩) ∧ Hid (Four w wc b r ⟨b.hs, b.sc, b.ha, b.au, b.pa, true, r.qu, r.hf, r.fr⟩))
                case first =>
                  go_region
                  go_wp2
                  go_meet
                  case rel => exact ⟨rfl, Lib.hid (((F.out.set (t' := ⟨b.hs, b.sc, b.ha, b.au, b.pa, true, b.qu, r.hf, r.fr⟩) 5 (.bool true) rfl).set (t' := ⟨b.hs, b.sc, b.ha, b.au, b.pa, true, r.qu, r.hf, r.fr⟩) 6 (.string r.qu) rfl).drew)⟩
                case rest =>
                  clear F r5 r6 t5 t6 f5 f6
                  obtain ⟨rfl, F⟩ := hcut
                  have q0 : wc.cell? ⟨w.heap.size + 3, 0, none⟩ = some (.bool b.hs) := blk_cell F.out.2.2.2.1 0
                  have q1 : wc.cell? ⟨w.heap.size + 3, 1, none⟩ = some (.string b.sc) := blk_cell F.out.2.2.2.1 1
                  have q2 : wc.cell? ⟨w.heap.size + 3, 2, none⟩ = some (.bool b.ha) := blk_cell F.out.2.2.2.1 2
                  have q3 : wc.cell? ⟨w.heap.size + 3, 3, none⟩ = some (.string b.au) := blk_cell F.out.2.2.2.1 3
                  have q4 : wc.cell? ⟨w.heap.size + 3, 4, none⟩ = some (.string b.pa) := blk_cell F.out.2.2.2.1 4
                  have q5 : wc.cell? ⟨w.heap.size + 3, 5, none⟩ = some (.bool true) := blk_cell F.out.2.2.2.1 5
                  have q6 : wc.cell? ⟨w.heap.size + 3, 6, none⟩ = some (.string r.qu) := blk_cell F.out.2.2.2.1 6
                  have q7 : wc.cell? ⟨w.heap.size + 3, 7, none⟩ = some (.bool r.hf) := blk_cell F.out.2.2.2.1 7
                  have q8 : wc.cell? ⟨w.heap.size + 3, 8, none⟩ = some (.string r.fr) := blk_cell F.out.2.2.2.1 8
                  have hc0 : ∀ j, wc.cell? ⟨w.heap.size + 2, j, none⟩ = (refCells ref0)[j]? := blk_cell F.out.2.2.1
                  have z0 : ∀ j, wc.frozen? ⟨w.heap.size + 2, j, none⟩ = false := blk_frozen F.out.2.2.1
                  have hBf := F.out.2.2.2.2
                  go_wp2
                  refine bodyPost_ret (v := refV ⟨b.hs, b.sc, b.ha, b.au, b.pa, true, r.qu, r.hf, r.fr⟩) (by simp [results, Tryz.results21, go_sem, hc0, refCells, ref0]) rfl ⟨⟨b.hs, b.sc, b.ha, b.au, b.pa, true, r.qu, r.hf, r.fr⟩, rfl, Lib.hid ?_, ?_⟩
                  · rw [resolveF, if_neg (by show ¬ r.hs = true; rw [HS.out]; decide), if_neg (by show ¬ r.ha = true; rw [HA.out]; decide), if_pos (show r.l.pa = [] from HP.out)]; show _ = Ref.mk _ _ _ _ _ (if r.hq = true then true else b.hq) (if r.hq = true then r.qu.data.toList else b.qu.data.toList) _ _; rw [HQ.out]; rfl
                  · go_grown
          · have hp2 : ¬ r.pa.toList = [] := by rw [toList_data]; exact hp
            have hp3 : r.pa.toList.isEmpty = false := by rw [Bool.eq_false_iff]; simpa using hp2
            have hpos : 0 < r.pa.size := by rw [← size_len]; exact List.length_pos_iff.2 hp
            have hget := Lib.hid (get_opt r.pa 0 hpos)
            have HP := Lib.hid hp
            clear hp
            have HR : Hid (∀ x : L, (if r.pa.data.toList[0]? = some 47 then removeDots r.pa.data.toList else if b.ha = true ∧ b.pa.data.toList = [] then removeDots (47 :: r.pa.data.toList) else removeDots (b.pa.data.toList.take (lastSl b.pa.data.toList) ++ r.pa.data.toList)) = x → (⟨b.hs, b.sc.data.toList, b.ha, b.au.data.toList, x, r.hq, r.qu.data.toList, r.hf, r.fr.data.toList⟩ : Ref) = resolveF b.l r.l) := by
              refine Lib.hid (fun x hx => ?_)
              rw [resolveF, if_neg (by show ¬ r.hs = true; rw [HS.out]; decide), if_neg (by show ¬ r.ha = true; rw [HA.out]; decide), if_neg (show ¬ r.l.pa = [] from HP.out), ← hx]
              rfl
            have r4 : wc.cell? ⟨w.heap.size + 1, 4, none⟩ = some (.string r.pa) := blk_cell F.out.2.1 4
            have r5 : wc.cell? ⟨w.heap.size + 1, 5, none⟩ = some (.bool r.hq) := blk_cell F.out.2.1 5
            have r6 : wc.cell? ⟨w.heap.size + 1, 6, none⟩ = some (.string r.qu) := blk_cell F.out.2.1 6
            have t5 : wc.cell? ⟨w.heap.size + 3, 5, none⟩ = some (.bool false) := blk_cell F.out.2.2.2.1 5
            have t6 : wc.cell? ⟨w.heap.size + 3, 6, none⟩ = some (.string ⟨#[]⟩) := blk_cell F.out.2.2.2.1 6
            have f5 : wc.frozen? ⟨w.heap.size + 3, 5, none⟩ = false := blk_frozen F.out.2.2.2.1 5
            have f6 : wc.frozen? ⟨w.heap.size + 3, 6, none⟩ = false := blk_frozen F.out.2.2.2.1 6
            go_upto_region 16 with (fail)
            go_cut [5] (fun v5 wc => v5 = .pointer (some ⟨w.heap.size + 3, 0, none⟩) ∧ Hid (Four w wc b r ⟨b.hs, b.sc, b.ha, b.au, ⟨#[]⟩, r.hq, r.qu, r.hf, r.fr⟩))
            case first =>
              go_region
              go_wp2
              go_meet
              case rel => exact ⟨rfl, Lib.hid (((F.out.set (t' := ⟨b.hs, b.sc, b.ha, b.au, ⟨#[]⟩, r.hq, ⟨#[]⟩, r.hf, r.fr⟩) 5 (.bool r.hq) rfl).set (t' := ⟨b.hs, b.sc, b.ha, b.au, ⟨#[]⟩, r.hq, r.qu, r.hf, r.fr⟩) 6 (.string r.qu) rfl).drew)⟩
            case rest =>
              clear F r4 r5 r6 t5 t6 f5 f6
              obtain ⟨rfl, F⟩ := hcut
              have r4 : wc.cell? ⟨w.heap.size + 1, 4, none⟩ = some (.string r.pa) := blk_cell F.out.2.1 4
              by_cases h47 : r.pa[0].toNat = 47
              · have hb47 : ((r.pa[0].toNat : Int) == 47) = true := by rw [beq_iff_eq]; omega --D
                have H47 := Lib.hid h47
                clear h47
                go_wp2_with (fail)
                refine (removeDots_any _ _ (by omega)).mono ?_
                rintro e w2 ⟨x, rfl, hx, hzx, hb2⟩
                have F2 : Hid (Four w w2 b r ⟨b.hs, b.sc, b.ha, b.au, ⟨#[]⟩, r.hq, r.qu, r.hf, r.fr⟩) := Lib.hid (F.out.below hb2)
                clear F r4 hb2
                have t4 : w2.cell? ⟨w.heap.size + 3, 4, none⟩ = some (.string ⟨#[]⟩) := blk_cell F2.out.2.2.2.1 4
                have f4 : w2.frozen? ⟨w.heap.size + 3, 4, none⟩ = false := blk_frozen F2.out.2.2.2.1 4
                have F3 : Hid (Four w (w2.setCell ⟨w.heap.size + 3, 4, none⟩ (.string x)) b r ⟨b.hs, b.sc, b.ha, b.au, x, r.hq, r.qu, r.hf, r.fr⟩) := Lib.hid (F2.out.set (t' := ⟨b.hs, b.sc, b.ha, b.au, x, r.hq, r.qu, r.hf, r.fr⟩) 4 (.string x) rfl)
                go_upto_region 25 with (fail)
                generalize w2.setCell ⟨w.heap.size + 3, 4, none⟩ (.string x) = w3 at *
                clear F2 t4 f4
                have q0 : w3.cell? ⟨w.heap.size + 3, 0, none⟩ = some (.bool b.hs) := blk_cell F3.out.2.2.2.1 0
                have q1 : w3.cell? ⟨w.heap.size + 3, 1, none⟩ = some (.string b.sc) := blk_cell F3.out.2.2.2.1 1
                have q2 : w3.cell? ⟨w.heap.size + 3, 2, none⟩ = some (.bool b.ha) := blk_cell F3.out.2.2.2.1 2
                have q3 : w3.cell? ⟨w.heap.size + 3, 3, none⟩ = some (.string b.au) := blk_cell F3.out.2.2.2.1 3
                have q4 : w3.cell? ⟨w.heap.size + 3, 4, none⟩ = some (.string x) := blk_cell F3.out.2.2.2.1 4
                have q5 : w3.cell? ⟨w.heap.size + 3, 5, none⟩ = some (.bool r.hq) := blk_cell F3.out.2.2.2.1 5
                have q6 : w3.cell? ⟨w.heap.size + 3, 6, none⟩ = some (.string r.qu) := blk_cell F3.out.2.2.2.1 6
                have q7 : w3.cell? ⟨w.heap.size + 3, 7, none⟩ = some (.bool r.hf) := blk_cell F3.out.2.2.2.1 7
                have q8 : w3.cell? ⟨w.heap.size + 3, 8, none⟩ = some (.string r.fr) := blk_cell F3.out.2.2.2.1 8
                have hc0 : ∀ j, w3.cell? ⟨w.heap.size + 2, j, none⟩ = (refCells ref0)[j]? := blk_cell F3.out.2.2.1
                have z0 : ∀ j, w3.frozen? ⟨w.heap.size + 2, j, none⟩ = false := blk_frozen F3.out.2.2.1
                have hBf := F3.out.2.2.2.2
                go_wp2
                refine bodyPost_ret (v := refV ⟨b.hs, b.sc, b.ha, b.au, x, r.hq, r.qu, r.hf, r.fr⟩) (by simp [results, Tryz.results21, go_sem, hc0, refCells, ref0]) rfl ⟨⟨b.hs, b.sc, b.ha, b.au, x, r.hq, r.qu, r.hf, r.fr⟩, rfl, Lib.hid ?_, ?_⟩
                · exact HR.out _ (by rw [if_pos (by rw [hget.out]; exact congrArg some (UInt8.toNat_inj.1 H47.out)), hx.out])
                · go_grown
              · have hb47 : ((r.pa[0].toNat : Int) == 47) = false := by rw [beq_eq_false_iff_ne]; omega
                have H47 := Lib.hid h47
                clear h47
                have b2 : wc.cell? ⟨w.heap.size, 2, none⟩ = some (.bool b.ha) := blk_cell F.out.1 2
                have b4 : wc.cell? ⟨w.heap.size, 4, none⟩ = some (.string b.pa) := blk_cell F.out.1 4
                by_cases hbe : b.ha = true ∧ b.pa.data.toList = []
                · have hbh := hbe.1 --D
                  have hq2 : b.pa.toList = [] := by rw [toList_data]; exact hbe.2
                  have hq3 : b.pa.toList.isEmpty = true := by rw [hq2]; rfl
                  have HBE := Lib.hid hbe
                  rw [hbh] at b2
                  clear hbe hbh
                  go_wp2_with (fail)
                  have hzx : ((⟨#[47]⟩ : ByteArray) ++ r.pa).size ≤ 500000000000 := by rw [ByteArray.size_append]; show 1 + _ ≤ _; omega
                  have HX : Hid (((⟨#[47]⟩ : ByteArray) ++ r.pa).data.toList = 47 :: r.pa.data.toList) := Lib.hid (by rw [app_toL]; rfl)
                  generalize (⟨#[47]⟩ : ByteArray) ++ r.pa = y at *
                  refine (removeDots_any _ _ (by omega)).mono ?_
                  rintro e w2 ⟨x, rfl, hx, hzx, hb2⟩
                  have F2 : Hid (Four w w2 b r ⟨b.hs, b.sc, b.ha, b.au, ⟨#[]⟩, r.hq, r.qu, r.hf, r.fr⟩) := Lib.hid (F.out.below hb2)
                  clear F r4 b2 b4 hb2
                  have t4 : w2.cell? ⟨w.heap.size + 3, 4, none⟩ = some (.string ⟨#[]⟩) := blk_cell F2.out.2.2.2.1 4
                  have f4 : w2.frozen? ⟨w.heap.size + 3, 4, none⟩ = false := blk_frozen F2.out.2.2.2.1 4
                  have F3 : Hid (Four w (w2.setCell ⟨w.heap.size + 3, 4, none⟩ (.string x)) b r ⟨b.hs, b.sc, b.ha, b.au, x, r.hq, r.qu, r.hf, r.fr⟩) := Lib.hid (F2.out.set (t' := ⟨b.hs, b.sc, b.ha, b.au, x, r.hq, r.qu, r.hf, r.fr⟩) 4 (.string x) rfl)
                  go_upto_region 25 with (fail)
                  generalize w2.setCell ⟨w.heap.size + 3, 4, none⟩ (.string x) = w3 at *
                  clear F2 t4 f4
                  have q0 : w3.cell? ⟨w.heap.size + 3, 0, none⟩ = some (.bool b.hs) := blk_cell F3.out.2.2.2.1 0
                  have q1 : w3.cell? ⟨w.heap.size + 3, 1, none⟩ = some (.string b.sc) := blk_cell F3.out.2.2.2.1 1
                  have q2 : w3.cell? ⟨w.heap.size + 3, 2, none⟩ = some (.bool b.ha) := blk_cell F3.out.2.2.2.1 2
                  have q3 : w3.cell? ⟨w.heap.size + 3, 3, none⟩ = some (.string b.au) := blk_cell F3.out.2.2.2.1 3
                  have q4 : w3.cell? ⟨w.heap.size + 3, 4, none⟩ = some (.string x) := blk_cell F3.out.2.2.2.1 4
                  have q5 : w3.cell? ⟨w.heap.size + 3, 5, none⟩ = some (.bool r.hq) := blk_cell F3.out.2.2.2.1 5
                  have q6 : w3.cell? ⟨w.heap.size + 3, 6, none⟩ = some (.string r.qu) := blk_cell F3.out.2.2.2.1 6
                  have q7 : w3.cell? ⟨w.heap.size + 3, 7, none⟩ = some (.bool r.hf) := blk_cell F3.out.2.2.2.1 7
                  have q8 : w3.cell? ⟨w.heap.size + 3, 8, none⟩ = some (.string r.fr) := blk_cell F3.out.2.2.2.1 8
                  have hc0 : ∀ j, w3.cell? ⟨w.heap.size + 2, j, none⟩ = (refCells ref0)[j]? := blk_cell F3.out.2.2.1
                  have z0 : ∀ j, w3.frozen? ⟨w.heap.size + 2, j, none⟩ = false := blk_frozen F3.out.2.2.1
                  have hBf := F3.out.2.2.2.2
                  go_wp2
                  refine bodyPost_ret (v := refV ⟨b.hs, b.sc, b.ha, b.au, x, r.hq, r.qu, r.hf, r.fr⟩) (by simp [results, Tryz.results21, go_sem, hc0, refCells, ref0]) rfl ⟨⟨b.hs, b.sc, b.ha, b.au, x, r.hq, r.qu, r.hf, r.fr⟩, rfl, Lib.hid ?_, ?_⟩
                  · exact HR.out _ (by rw [if_neg (by rw [hget.out]; intro h; exact H47.out (by rw [Option.some.inj h]; rfl)), if_pos HBE.out, hx.out, HX.out])
                  · go_grown
                · have HBE := Lib.hid hbe
                  have hcase : (b.ha = false) ∨ (b.ha = true ∧ ¬ b.pa.data.toList = []) := by
                    cases h : b.ha
                    · exact Or.inl rfl
                    · exact Or.inr ⟨rfl, fun h2 => hbe ⟨h, h2⟩⟩
                  clear hbe
                  go_upto_region 23 with (fail)
                  obtain ⟨wc2, hwc2⟩ : ∃ wc2 : World, wc2 = wc := ⟨_, rfl⟩
                  go_cut [107] (fun v107 w' => v107 = .bool false ∧ w' = wc)
                  case first =>
                    rcases hcase with hf | ⟨ht, hne⟩
                    · rw [hf] at b2
                      clear hf hwc2
                      go_wp2
                      go_meet
                      case rel => exact ⟨rfl, rfl⟩
                    · rw [ht] at b2
                      have hq2 : ¬ b.pa.toList = [] := by rw [toList_data]; exact hne
                      have hq3 : b.pa.toList.isEmpty = false := by rw [Bool.eq_false_iff]; simpa using hq2
                      clear ht hne hwc2
                      go_wp2
                      go_meet
                      case rel => exact ⟨rfl, rfl⟩
                  case rest =>
                    clear hwc2 hcase
                    obtain ⟨rfl, rfl⟩ := hcut
                    clear b2
                    go_wp2
                    go_loop [6] (fun v => ∃ n : Nat, v = .int .i64 n ∧ n ≤ b.pa.size ∧ Hid (lastSl (b.pa.data.toList.take n) = lastSl b.pa.data.toList)) (fun v => (intOf v).toNat)
                    case atStart => exact ⟨b.pa.size, rfl, by omega, Lib.hid (by rw [← size_len, List.take_length])⟩
                    case round =>
                      obtain ⟨n, rfl, hn, hl⟩ := hrel
                      rcases Nat.eq_zero_or_pos n with h0 | h0
                      · subst h0
                        have hls : lastSl b.pa.data.toList = 0 := by rw [← hl.out]; rfl
                        have HLS := Lib.hid hls
                        clear hl hls
                        go_upto_region 20 with (fail)
                        have hze : (b.pa.extract 0 0 ++ r.pa).size ≤ 900000000000 := by rw [ByteArray.size_append, ByteArray.size_extract]; omega
                        have hze1 : ¬ (9223372036854775807 < (b.pa.extract 0 0).size + r.pa.size) := by rw [ByteArray.size_extract]; omega
                        have hze2 : ¬ (9223372036854775807 < r.pa.size) := by omega
                        have hze3 : ¬ (9223372036854775807 < 0 + r.pa.size) := by omega
                        have HEX : Hid ((b.pa.extract 0 0 ++ r.pa).data.toList = b.pa.data.toList.take (lastSl b.pa.data.toList) ++ r.pa.data.toList) := Lib.hid (by rw [app_toL, ext_toList, List.drop_zero, HLS.out])
                        go_region_held3 (fun w' => w'.cell? ⟨w.heap.size + 1, 4, none⟩ = some (.string r.pa) ∧ w'.cell? ⟨w.heap.size, 4, none⟩ = some (.string b.pa)) (go_keep) ((go_at_call 47; refine (removeDots_any _ _ (by omega)).mono ?_; rintro e w2 ⟨x, rfl, hx, hzx, hb2⟩; have F2 : Hid (Four w w2 b r ⟨b.hs, b.sc, b.ha, b.au, ⟨#[]⟩, r.hq, r.qu, r.hf, r.fr⟩) := Lib.hid (F.out.drew.below hb2); have r24 : w2.cell? ⟨w.heap.size + 1, 4, none⟩ = some (.string r.pa) := blk_cell F2.out.2.1 4; have b24 : w2.cell? ⟨w.heap.size, 4, none⟩ = some (.string b.pa) := blk_cell F2.out.1 4; have t24 : w2.cell? ⟨w.heap.size + 3, 4, none⟩ = some (.string ⟨#[]⟩) := blk_cell F2.out.2.2.2.1 4; have f24 : w2.frozen? ⟨w.heap.size + 3, 4, none⟩ = false := blk_frozen F2.out.2.2.2.1 4))
                        go_upto_region 25 with (fail)
                        have F3 : Hid (Four w (w2.setCell ⟨w.heap.size + 3, 4, none⟩ (.string x)) b r ⟨b.hs, b.sc, b.ha, b.au, x, r.hq, r.qu, r.hf, r.fr⟩) := Lib.hid (F2.out.set (t' := ⟨b.hs, b.sc, b.ha, b.au, x, r.hq, r.qu, r.hf, r.fr⟩) 4 (.string x) rfl)
                        generalize w2.setCell ⟨w.heap.size + 3, 4, none⟩ (.string x) = w3 at *
                        clear F2 t24 f24 r24 b24
                        have q0 : w3.cell? ⟨w.heap.size + 3, 0, none⟩ = some (.bool b.hs) := blk_cell F3.out.2.2.2.1 0
                        have q1 : w3.cell? ⟨w.heap.size + 3, 1, none⟩ = some (.string b.sc) := blk_cell F3.out.2.2.2.1 1
                        have q2 : w3.cell? ⟨w.heap.size + 3, 2, none⟩ = some (.bool b.ha) := blk_cell F3.out.2.2.2.1 2
                        have q3 : w3.cell? ⟨w.heap.size + 3, 3, none⟩ = some (.string b.au) := blk_cell F3.out.2.2.2.1 3
                        have q4 : w3.cell? ⟨w.heap.size + 3, 4, none⟩ = some (.string x) := blk_cell F3.out.2.2.2.1 4
                        have q5 : w3.cell? ⟨w.heap.size + 3, 5, none⟩ = some (.bool r.hq) := blk_cell F3.out.2.2.2.1 5
                        have q6 : w3.cell? ⟨w.heap.size + 3, 6, none⟩ = some (.string r.qu) := blk_cell F3.out.2.2.2.1 6
                        have q7 : w3.cell? ⟨w.heap.size + 3, 7, none⟩ = some (.bool r.hf) := blk_cell F3.out.2.2.2.1 7
                        have q8 : w3.cell? ⟨w.heap.size + 3, 8, none⟩ = some (.string r.fr) := blk_cell F3.out.2.2.2.1 8
                        have hc0 : ∀ j, w3.cell? ⟨w.heap.size + 2, j, none⟩ = (refCells ref0)[j]? := blk_cell F3.out.2.2.1
                        have z0 : ∀ j, w3.frozen? ⟨w.heap.size + 2, j, none⟩ = false := blk_frozen F3.out.2.2.1
                        have hBf := F3.out.2.2.2.2
                        go_wp2
                        refine bodyPost_ret (v := refV ⟨b.hs, b.sc, b.ha, b.au, x, r.hq, r.qu, r.hf, r.fr⟩) (by simp [results, Tryz.results21, go_sem, hc0, refCells, ref0]) rfl ⟨⟨b.hs, b.sc, b.ha, b.au, x, r.hq, r.qu, r.hf, r.fr⟩, rfl, Lib.hid ?_, ?_⟩
                        · exact HR.out _ (by rw [if_neg (by rw [hget.out]; intro h; exact H47.out (by rw [Option.some.inj h]; rfl)), if_neg HBE.out, hx.out]; first | rw [HEX.out] | (rw [HLS.out]; rfl))
                        · go_grown
                      · obtain ⟨m, rfl⟩ : ∃ m, n = m + 1 := ⟨n - 1, by omega⟩
                        have hm : m < b.pa.size := by omega
                        have hs := hl.out
                        rw [take_snoc b.pa m hm, lastSl_snoc] at hs
                        by_cases h47 : b.pa[m].toNat = 47
                        · have hls : lastSl b.pa.data.toList = m + 1 := by
                            rw [← hs, if_pos (UInt8.toNat_inj.1 h47), List.length_take, size_len]; omega
                          have HLS := Lib.hid hls
                          have hbb : ((b.pa[m].toNat : Int) == 47) = true := by rw [beq_iff_eq]; omega
                          have hbb2 : ((b.pa[m].toNat : Int) != 47) = false := by simp; omega
                          clear hl hls hs h47
                          go_upto_region 20 with (fail)
                          have hze : (b.pa.extract 0 (m + 1) ++ r.pa).size ≤ 900000000000 := by rw [ByteArray.size_append, ByteArray.size_extract]; omega
                          have hze1 : ¬ (9223372036854775807 < (b.pa.extract 0 (m + 1)).size + r.pa.size) := by rw [ByteArray.size_extract]; omega
                          have hze2 : ¬ (9223372036854775807 < min (m + 1) b.pa.size + r.pa.size) := by omega
                          have hze3 : ¬ (9223372036854775807 < min (m + 1) b.pa.size - 0 + r.pa.size) := by omega
                          have hze4 : ((m + 1 : Nat) : Int) ≤ (b.pa.size : Int) := by omega
                          have hze5 : (m : Int) + 1 ≤ (b.pa.size : Int) := by omega
                          have hze6 : (0 : Int) ≤ ((m + 1 : Nat) : Int) := by omega
                          have hze7 : (0 : Int) ≤ (m : Int) + 1 := by omega
                          have hze8 : ¬ (9223372036854775807 < m + 1 + r.pa.size) := by omega
                          have hzed : ∀ x : World, (Op.stringOp .add (b.pa.extract 0 (m + 1)) r.pa).run Tryz.prog x = .ok (.string (b.pa.extract 0 (m + 1) ++ r.pa)) x := by intro x; go_simp
                          have HEX : Hid ((b.pa.extract 0 (m + 1) ++ r.pa).data.toList = b.pa.data.toList.take (lastSl b.pa.data.toList) ++ r.pa.data.toList) := Lib.hid (by rw [app_toL, ext_toList, List.drop_zero, HLS.out])
                          go_region_held3 (fun w' => w'.cell? ⟨w.heap.size + 1, 4, none⟩ = some (.string r.pa) ∧ w'.cell? ⟨w.heap.size, 4, none⟩ = some (.string b.pa)) (go_keep) ((go_at_call 47; refine (removeDots_any _ _ (by omega)).mono ?_; rintro e w2 ⟨x, rfl, hx, hzx, hb2⟩; have F2 : Hid (Four w w2 b r ⟨b.hs, b.sc, b.ha, b.au, ⟨#[]⟩, r.hq, r.qu, r.hf, r.fr⟩) := Lib.hid (F.out.drew.below hb2); have r24 : w2.cell? ⟨w.heap.size + 1, 4, none⟩ = some (.string r.pa) := blk_cell F2.out.2.1 4; have b24 : w2.cell? ⟨w.heap.size, 4, none⟩ = some (.string b.pa) := blk_cell F2.out.1 4; have t24 : w2.cell? ⟨w.heap.size + 3, 4, none⟩ = some (.string ⟨#[]⟩) := blk_cell F2.out.2.2.2.1 4; have f24 : w2.frozen? ⟨w.heap.size + 3, 4, none⟩ = false := blk_frozen F2.out.2.2.2.1 4))
                          go_upto_region 25 with (fail)
                          have F3 : Hid (Four w (w2.setCell ⟨w.heap.size + 3, 4, none⟩ (.string x)) b r ⟨b.hs, b.sc, b.ha, b.au, x, r.hq, r.qu, r.hf, r.fr⟩) := Lib.hid (F2.out.set (t' := ⟨b.hs, b.sc, b.ha, b.au, x, r.hq, r.qu, r.hf, r.fr⟩) 4 (.string x) rfl)
                          generalize w2.setCell ⟨w.heap.size + 3, 4, none⟩ (.string x) = w3 at *
                          clear F2 t24 f24 r24 b24
                          have q0 : w3.cell? ⟨w.heap.size + 3, 0, none⟩ = some (.bool b.hs) := blk_cell F3.out.2.2.2.1 0
                          have q1 : w3.cell? ⟨w.heap.size + 3, 1, none⟩ = some (.string b.sc) := blk_cell F3.out.2.2.2.1 1
                          have q2 : w3.cell? ⟨w.heap.size + 3, 2, none⟩ = some (.bool b.ha) := blk_cell F3.out.2.2.2.1 2
                          have q3 : w3.cell? ⟨w.heap.size + 3, 3, none⟩ = some (.string b.au) := blk_cell F3.out.2.2.2.1 3
                          have q4 : w3.cell? ⟨w.heap.size + 3, 4, none⟩ = some (.string x) := blk_cell F3.out.2.2.2.1 4
                          have q5 : w3.cell? ⟨w.heap.size + 3, 5, none⟩ = some (.bool r.hq) := blk_cell F3.out.2.2.2.1 5
                          have q6 : w3.cell? ⟨w.heap.size + 3, 6, none⟩ = some (.string r.qu) := blk_cell F3.out.2.2.2.1 6
                          have q7 : w3.cell? ⟨w.heap.size + 3, 7, none⟩ = some (.bool r.hf) := blk_cell F3.out.2.2.2.1 7
                          have q8 : w3.cell? ⟨w.heap.size + 3, 8, none⟩ = some (.string r.fr) := blk_cell F3.out.2.2.2.1 8
                          have hc0 : ∀ j, w3.cell? ⟨w.heap.size + 2, j, none⟩ = (refCells ref0)[j]? := blk_cell F3.out.2.2.1
                          have z0 : ∀ j, w3.frozen? ⟨w.heap.size + 2, j, none⟩ = false := blk_frozen F3.out.2.2.1
                          have hBf := F3.out.2.2.2.2
                          go_wp2
                          refine bodyPost_ret (v := refV ⟨b.hs, b.sc, b.ha, b.au, x, r.hq, r.qu, r.hf, r.fr⟩) (by simp [results, Tryz.results21, go_sem, hc0, refCells, ref0]) rfl ⟨⟨b.hs, b.sc, b.ha, b.au, x, r.hq, r.qu, r.hf, r.fr⟩, rfl, Lib.hid ?_, ?_⟩
                          · exact HR.out _ (by rw [if_neg (by rw [hget.out]; intro h; exact H47.out (by rw [Option.some.inj h]; rfl)), if_neg HBE.out, hx.out]; first | rw [HEX.out] | (rw [HLS.out]; rfl))
                          · go_grown
                        · have hls : lastSl (b.pa.data.toList.take m) = lastSl b.pa.data.toList := by rw [← hs, if_neg (fun h => h47 (by rw [h]; rfl))]
                          have HLS := Lib.hid hls
                          have hbb : ((b.pa[m].toNat : Int) == 47) = false := by rw [beq_eq_false_iff_ne]; omega
                          have hbb2 : ((b.pa[m].toNat : Int) != 47) = true := by simp; omega
                          clear hl hls hs h47
                          go_wp2
                          exact ⟨⟨m, rfl, by omega, HLS⟩, by simp [intOf]⟩
      · have HA := Lib.hid hha --D
        have r2 : wc.cell? ⟨w.heap.size + 1, 2, none⟩ = some (.bool r.ha) := blk_cell F.out.2.1 2
        have r3 : wc.cell? ⟨w.heap.size + 1, 3, none⟩ = some (.string r.au) := blk_cell F.out.2.1 3
        have r4 : wc.cell? ⟨w.heap.size + 1, 4, none⟩ = some (.string r.pa) := blk_cell F.out.2.1 4
        have r5 : wc.cell? ⟨w.heap.size + 1, 5, none⟩ = some (.bool r.hq) := blk_cell F.out.2.1 5
        have r6 : wc.cell? ⟨w.heap.size + 1, 6, none⟩ = some (.string r.qu) := blk_cell F.out.2.1 6
        rw [hha] at r2
        clear hha
        have t2 : wc.cell? ⟨w.heap.size + 3, 2, none⟩ = some (.bool false) := blk_cell F.out.2.2.2.1 2
        have t3 : wc.cell? ⟨w.heap.size + 3, 3, none⟩ = some (.string ⟨#[]⟩) := blk_cell F.out.2.2.2.1 3
        have t4 : wc.cell? ⟨w.heap.size + 3, 4, none⟩ = some (.string ⟨#[]⟩) := blk_cell F.out.2.2.2.1 4
        have t5 : wc.cell? ⟨w.heap.size + 3, 5, none⟩ = some (.bool false) := blk_cell F.out.2.2.2.1 5
        have t6 : wc.cell? ⟨w.heap.size + 3, 6, none⟩ = some (.string ⟨#[]⟩) := blk_cell F.out.2.2.2.1 6
        have f2 : wc.frozen? ⟨w.heap.size + 3, 2, none⟩ = false := blk_frozen F.out.2.2.2.1 2
        have f3 : wc.frozen? ⟨w.heap.size + 3, 3, none⟩ = false := blk_frozen F.out.2.2.2.1 3
        have f4 : wc.frozen? ⟨w.heap.size + 3, 4, none⟩ = false := blk_frozen F.out.2.2.2.1 4
        have f5 : wc.frozen? ⟨w.heap.size + 3, 5, none⟩ = false := blk_frozen F.out.2.2.2.1 5
        have f6 : wc.frozen? ⟨w.heap.size + 3, 6, none⟩ = false := blk_frozen F.out.2.2.2.1 6
        go_upto_region 8 with (fail)
        go_cut [5] (fun v5 wc => ∃ x : ByteArray, v5 = .pointer (some ⟨w.heap.size + 3, 0, none⟩) ∧ Hid (x.data.toList = removeDots r.pa.data.toList) ∧ Hid (Four w wc b r ⟨b.hs, b.sc, true, r.au, x, r.hq, r.qu, r.hf, r.fr⟩))
        case first =>
          go_region_held3 (fun w' => w'.cell? ⟨w.heap.size + 1, 3, none⟩ = some (.string r.au) ∧ w'.cell? ⟨w.heap.size + 1, 4, none⟩ = some (.string r.pa) ∧ w'.cell? ⟨w.heap.size + 1, 5, none⟩ = some (.bool r.hq) ∧ w'.cell? ⟨w.heap.size + 1, 6, none⟩ = some (.string r.qu)) (go_keep) ((go_at_call 47; refine (removeDots_any _ _ (by omega)).mono ?_; rintro e w2 ⟨x, rfl, hx, hzx, hb2⟩; have F2 : Hid (Four w w2 b r ⟨b.hs, b.sc, false, ⟨#[]⟩, ⟨#[]⟩, false, ⟨#[]⟩, r.hf, r.fr⟩) := Lib.hid (F.out.drew.below hb2); have r23 : w2.cell? ⟨w.heap.size + 1, 3, none⟩ = some (.string r.au) := blk_cell F2.out.2.1 3; have r24 : w2.cell? ⟨w.heap.size + 1, 4, none⟩ = some (.string r.pa) := blk_cell F2.out.2.1 4; have r25 : w2.cell? ⟨w.heap.size + 1, 5, none⟩ = some (.bool r.hq) := blk_cell F2.out.2.1 5; have r26 : w2.cell? ⟨w.heap.size + 1, 6, none⟩ = some (.string r.qu) := blk_cell F2.out.2.1 6; have t22 : w2.cell? ⟨w.heap.size + 3, 2, none⟩ = some (.bool false) := blk_cell F2.out.2.2.2.1 2; have t23 : w2.cell? ⟨w.heap.size + 3, 3, none⟩ = some (.string ⟨#[]⟩) := blk_cell F2.out.2.2.2.1 3; have t24 : w2.cell? ⟨w.heap.size + 3, 4, none⟩ = some (.string ⟨#[]⟩) := blk_cell F2.out.2.2.2.1 4; have t25 : w2.cell? ⟨w.heap.size + 3, 5, none⟩ = some (.bool false) := blk_cell F2.out.2.2.2.1 5; have t26 : w2.cell? ⟨w.heap.size + 3, 6, none⟩ = some (.string ⟨#[]⟩) := blk_cell F2.out.2.2.2.1 6; have f22 : w2.frozen? ⟨w.heap.size + 3, 2, none⟩ = false := blk_frozen F2.out.2.2.2.1 2; have f23 : w2.frozen? ⟨w.heap.size + 3, 3, none⟩ = false := blk_frozen F2.out.2.2.2.1 3; have f24 : w2.frozen? ⟨w.heap.size + 3, 4, none⟩ = false := blk_frozen F2.out.2.2.2.1 4; have f25 : w2.frozen? ⟨w.heap.size + 3, 5, none⟩ = false := blk_frozen F2.out.2.2.2.1 5; have f26 : w2.frozen? ⟨w.heap.size + 3, 6, none⟩ = false := blk_frozen F2.out.2.2.2.1 6))
          all_goals
            go_wp2
            go_meet
            case rel => exact ⟨x, rfl, hx, Lib.hid (((((F2.out.set (t' := ⟨b.hs, b.sc, true, ⟨#[]⟩, ⟨#[]⟩, false, ⟨#[]⟩, r.hf, r.fr⟩) 2 (.bool true) rfl).set (t' := ⟨b.hs, b.sc, true, r.au, ⟨#[]⟩, false, ⟨#[]⟩, r.hf, r.fr⟩) 3 (.string r.au) rfl).set (t' := ⟨b.hs, b.sc, true, r.au, x, false, ⟨#[]⟩, r.hf, r.fr⟩) 4 (.string x) rfl).set (t' := ⟨b.hs, b.sc, true, r.au, x, r.hq, ⟨#[]⟩, r.hf, r.fr⟩) 5 (.bool r.hq) rfl).set (t' := ⟨b.hs, b.sc, true, r.au, x, r.hq, r.qu, r.hf, r.fr⟩) 6 (.string r.qu) rfl)⟩
        case rest =>
          clear F r2 r3 r4 r5 r6 t2 t3 t4 t5 t6 f2 f3 f4 f5 f6
          obtain ⟨x, rfl, hx, F⟩ := hcut
          have q0 : wc.cell? ⟨w.heap.size + 3, 0, none⟩ = some (.bool b.hs) := blk_cell F.out.2.2.2.1 0
          have q1 : wc.cell? ⟨w.heap.size + 3, 1, none⟩ = some (.string b.sc) := blk_cell F.out.2.2.2.1 1
          have q2 : wc.cell? ⟨w.heap.size + 3, 2, none⟩ = some (.bool true) := blk_cell F.out.2.2.2.1 2
          have q3 : wc.cell? ⟨w.heap.size + 3, 3, none⟩ = some (.string r.au) := blk_cell F.out.2.2.2.1 3
          have q4 : wc.cell? ⟨w.heap.size + 3, 4, none⟩ = some (.string x) := blk_cell F.out.2.2.2.1 4
          have q5 : wc.cell? ⟨w.heap.size + 3, 5, none⟩ = some (.bool r.hq) := blk_cell F.out.2.2.2.1 5
          have q6 : wc.cell? ⟨w.heap.size + 3, 6, none⟩ = some (.string r.qu) := blk_cell F.out.2.2.2.1 6
          have q7 : wc.cell? ⟨w.heap.size + 3, 7, none⟩ = some (.bool r.hf) := blk_cell F.out.2.2.2.1 7
          have q8 : wc.cell? ⟨w.heap.size + 3, 8, none⟩ = some (.string r.fr) := blk_cell F.out.2.2.2.1 8
          have hc0 : ∀ j, wc.cell? ⟨w.heap.size + 2, j, none⟩ = (refCells ref0)[j]? := blk_cell F.out.2.2.1
          have z0 : ∀ j, wc.frozen? ⟨w.heap.size + 2, j, none⟩ = false := blk_frozen F.out.2.2.1
          have hBf := F.out.2.2.2.2
          go_wp2
          refine bodyPost_ret (v := refV ⟨b.hs, b.sc, true, r.au, x, r.hq, r.qu, r.hf, r.fr⟩) (by simp [results, Tryz.results21, go_sem, hc0, refCells, ref0]) rfl ⟨⟨b.hs, b.sc, true, r.au, x, r.hq, r.qu, r.hf, r.fr⟩, rfl, Lib.hid ?_, ?_⟩
          · rw [resolveF, if_neg (by show ¬ r.hs = true; rw [HS.out]; decide), if_pos (by show r.ha = true; exact HA.out)]; show Ref.mk _ _ _ _ _ _ _ _ _ = _; rw [hx.out]; rfl
          · go_grown
  · have HS := Lib.hid hhs
    have r0 : W.cell? ⟨w.heap.size + 1, 0, none⟩ = some (.bool r.hs) := blk_cell F.out.2.1 0
    have r1 : W.cell? ⟨w.heap.size + 1, 1, none⟩ = some (.string r.sc) := blk_cell F.out.2.1 1
    have r2 : W.cell? ⟨w.heap.size + 1, 2, none⟩ = some (.bool r.ha) := blk_cell F.out.2.1 2
    have r3 : W.cell? ⟨w.heap.size + 1, 3, none⟩ = some (.string r.au) := blk_cell F.out.2.1 3
    have r4 : W.cell? ⟨w.heap.size + 1, 4, none⟩ = some (.string r.pa) := blk_cell F.out.2.1 4
    have r5 : W.cell? ⟨w.heap.size + 1, 5, none⟩ = some (.bool r.hq) := blk_cell F.out.2.1 5
    have r6 : W.cell? ⟨w.heap.size + 1, 6, none⟩ = some (.string r.qu) := blk_cell F.out.2.1 6
    have r7 : W.cell? ⟨w.heap.size + 1, 7, none⟩ = some (.bool r.hf) := blk_cell F.out.2.1 7
    have r8 : W.cell? ⟨w.heap.size + 1, 8, none⟩ = some (.string r.fr) := blk_cell F.out.2.1 8
    rw [hhs] at r0
    clear hhs
    have t0 : W.cell? ⟨w.heap.size + 3, 0, none⟩ = some (.bool false) := blk_cell F.out.2.2.2.1 0
    have t1 : W.cell? ⟨w.heap.size + 3, 1, none⟩ = some (.string ⟨#[]⟩) := blk_cell F.out.2.2.2.1 1
    have t2 : W.cell? ⟨w.heap.size + 3, 2, none⟩ = some (.bool false) := blk_cell F.out.2.2.2.1 2
    have t3 : W.cell? ⟨w.heap.size + 3, 3, none⟩ = some (.string ⟨#[]⟩) := blk_cell F.out.2.2.2.1 3
    have t4 : W.cell? ⟨w.heap.size + 3, 4, none⟩ = some (.string ⟨#[]⟩) := blk_cell F.out.2.2.2.1 4
    have t5 : W.cell? ⟨w.heap.size + 3, 5, none⟩ = some (.bool false) := blk_cell F.out.2.2.2.1 5
    have t6 : W.cell? ⟨w.heap.size + 3, 6, none⟩ = some (.string ⟨#[]⟩) := blk_cell F.out.2.2.2.1 6
    have t7 : W.cell? ⟨w.heap.size + 3, 7, none⟩ = some (.bool r.hf) := blk_cell F.out.2.2.2.1 7
    have t8 : W.cell? ⟨w.heap.size + 3, 8, none⟩ = some (.string r.fr) := blk_cell F.out.2.2.2.1 8
    have f0 : W.frozen? ⟨w.heap.size + 3, 0, none⟩ = false := blk_frozen F.out.2.2.2.1 0
    have f1 : W.frozen? ⟨w.heap.size + 3, 1, none⟩ = false := blk_frozen F.out.2.2.2.1 1
    have f2 : W.frozen? ⟨w.heap.size + 3, 2, none⟩ = false := blk_frozen F.out.2.2.2.1 2
    have f3 : W.frozen? ⟨w.heap.size + 3, 3, none⟩ = false := blk_frozen F.out.2.2.2.1 3
    have f4 : W.frozen? ⟨w.heap.size + 3, 4, none⟩ = false := blk_frozen F.out.2.2.2.1 4
    have f5 : W.frozen? ⟨w.heap.size + 3, 5, none⟩ = false := blk_frozen F.out.2.2.2.1 5
    have f6 : W.frozen? ⟨w.heap.size + 3, 6, none⟩ = false := blk_frozen F.out.2.2.2.1 6
    have f7 : W.frozen? ⟨w.heap.size + 3, 7, none⟩ = false := blk_frozen F.out.2.2.2.1 7
    have f8 : W.frozen? ⟨w.heap.size + 3, 8, none⟩ = false := blk_frozen F.out.2.2.2.1 8
    have F3 := Lib.hid (((((((((F.out.set (t' := ⟨true, ⟨#[]⟩, false, ⟨#[]⟩, ⟨#[]⟩, false, ⟨#[]⟩, r.hf, r.fr⟩) 0 (.bool true) rfl).set (t' := ⟨true, r.sc, false, ⟨#[]⟩, ⟨#[]⟩, false, ⟨#[]⟩, r.hf, r.fr⟩) 1 (.string r.sc) rfl).set (t' := ⟨true, r.sc, r.ha, ⟨#[]⟩, ⟨#[]⟩, false, ⟨#[]⟩, r.hf, r.fr⟩) 2 (.bool r.ha) rfl).set (t' := ⟨true, r.sc, r.ha, r.au, ⟨#[]⟩, false, ⟨#[]⟩, r.hf, r.fr⟩) 3 (.string r.au) rfl).set (t' := ⟨true, r.sc, r.ha, r.au, r.pa, false, ⟨#[]⟩, r.hf, r.fr⟩) 4 (.string r.pa) rfl).set (t' := ⟨true, r.sc, r.ha, r.au, r.pa, r.hq, ⟨#[]⟩, r.hf, r.fr⟩) 5 (.bool r.hq) rfl).set (t' := ⟨true, r.sc, r.ha, r.au, r.pa, r.hq, r.qu, r.hf, r.fr⟩) 6 (.string r.qu) rfl).set (t' := ⟨true, r.sc, r.ha, r.au, r.pa, r.hq, r.qu, r.hf, r.fr⟩) 7 (.bool r.hf) rfl).set (t' := ⟨true, r.sc, r.ha, r.au, r.pa, r.hq, r.qu, r.hf, r.fr⟩) 8 (.string r.fr) rfl)
    go_upto_region 4 with (fail)
    generalize ((((((((W.setCell ⟨w.heap.size + 3, 0, none⟩ (.bool true)).setCell ⟨w.heap.size + 3, 1, none⟩ (.string r.sc)).setCell ⟨w.heap.size + 3, 2, none⟩ (.bool r.ha)).setCell ⟨w.heap.size + 3, 3, none⟩ (.string r.au)).setCell ⟨w.heap.size + 3, 4, none⟩ (.string r.pa)).setCell ⟨w.heap.size + 3, 5, none⟩ (.bool r.hq)).setCell ⟨w.heap.size + 3, 6, none⟩ (.string r.qu)).setCell ⟨w.heap.size + 3, 7, none⟩ (.bool r.hf)).setCell ⟨w.heap.size + 3, 8, none⟩ (.string r.fr) = W2 at *
    clear F r0 r1 r2 r3 r4 r5 r6 r7 r8 t0 t1 t2 t3 t4 t5 t6 t7 t8 f0 f1 f2 f3 f4 f5 f6 f7 f8
    have r4 : W2.cell? ⟨w.heap.size + 1, 4, none⟩ = some (.string r.pa) := blk_cell F3.out.2.1 4
    go_wp2_with (fail)
    refine (removeDots_any _ _ (by omega)).mono ?_
    rintro e w2 ⟨x, rfl, hx, hzx, hb2⟩
    have F2 : Hid (Four w w2 b r ⟨true, r.sc, r.ha, r.au, r.pa, r.hq, r.qu, r.hf, r.fr⟩) := Lib.hid (F3.out.below hb2)
    clear F3 r4 hb2
    have t4 : w2.cell? ⟨w.heap.size + 3, 4, none⟩ = some (.string r.pa) := blk_cell F2.out.2.2.2.1 4
    have f4 : w2.frozen? ⟨w.heap.size + 3, 4, none⟩ = false := blk_frozen F2.out.2.2.2.1 4
    have F4 : Hid (Four w (w2.setCell ⟨w.heap.size + 3, 4, none⟩ (.string x)) b r ⟨true, r.sc, r.ha, r.au, x, r.hq, r.qu, r.hf, r.fr⟩) := Lib.hid (F2.out.set (t' := ⟨true, r.sc, r.ha, r.au, x, r.hq, r.qu, r.hf, r.fr⟩) 4 (.string x) rfl)
    go_upto_region 5 with (fail)
    generalize w2.setCell ⟨w.heap.size + 3, 4, none⟩ (.string x) = w3 at *
    clear F2 t4 f4
    have q0 : w3.cell? ⟨w.heap.size + 3, 0, none⟩ = some (.bool true) := blk_cell F4.out.2.2.2.1 0
    have q1 : w3.cell? ⟨w.heap.size + 3, 1, none⟩ = some (.string r.sc) := blk_cell F4.out.2.2.2.1 1
    have q2 : w3.cell? ⟨w.heap.size + 3, 2, none⟩ = some (.bool r.ha) := blk_cell F4.out.2.2.2.1 2
    have q3 : w3.cell? ⟨w.heap.size + 3, 3, none⟩ = some (.string r.au) := blk_cell F4.out.2.2.2.1 3
    have q4 : w3.cell? ⟨w.heap.size + 3, 4, none⟩ = some (.string x) := blk_cell F4.out.2.2.2.1 4
    have q5 : w3.cell? ⟨w.heap.size + 3, 5, none⟩ = some (.bool r.hq) := blk_cell F4.out.2.2.2.1 5
    have q6 : w3.cell? ⟨w.heap.size + 3, 6, none⟩ = some (.string r.qu) := blk_cell F4.out.2.2.2.1 6
    have q7 : w3.cell? ⟨w.heap.size + 3, 7, none⟩ = some (.bool r.hf) := blk_cell F4.out.2.2.2.1 7
    have q8 : w3.cell? ⟨w.heap.size + 3, 8, none⟩ = some (.string r.fr) := blk_cell F4.out.2.2.2.1 8
    have hc0 : ∀ j, w3.cell? ⟨w.heap.size + 2, j, none⟩ = (refCells ref0)[j]? := blk_cell F4.out.2.2.1
    have z0 : ∀ j, w3.frozen? ⟨w.heap.size + 2, j, none⟩ = false := blk_frozen F4.out.2.2.1
    have hBf := F4.out.2.2.2.2
    go_wp2
    refine bodyPost_ret (v := refV ⟨true, r.sc, r.ha, r.au, x, r.hq, r.qu, r.hf, r.fr⟩) (by simp [results, Tryz.results21, go_sem, hc0, refCells, ref0]) rfl ⟨⟨true, r.sc, r.ha, r.au, x, r.hq, r.qu, r.hf, r.fr⟩, rfl, Lib.hid ?_, ?_⟩
    · rw [resolveF, if_pos (show r.l.hs = true from HS.out)]; show Ref.mk _ _ _ _ _ _ _ _ _ = Ref.mk r.hs _ _ _ _ _ _ _ _; rw [hx.out, HS.out]; rfl
    · go_grown
end Go.Proofs.YtfkgkkmcaaefnaaGreatDoor.Wk
