/-
  THE WALKS of ResolveReference.
  THE WALK of ResolveReference at a relative reference.
-/
import Derived.Test.YtfkgkkmcaaefnaaGreatDoorI12
import Derived.Test.YtfkgkkmcaaefnaaGreatDoorR3
set_option linter.unusedSimpArgs false
set_option linter.unusedVariables false
namespace Go.Proofs.YtfkgkkmcaaefnaaGreatDoor.Wk
open Go.RowKit Go.Proofs.YtfkgkkmcaaefnaaGreatDoor.Pu

theorem ba_ne' {a : ByteArray} (h : a.data.toList ≠ []) : a.toList.isEmpty = false ∧ (a.toList == []) = false := by
  constructor
  · rw [toList_data, Bool.eq_false_iff]; intro h2; exact h (List.isEmpty_iff.1 h2)
  · rw [toList_data, Bool.eq_false_iff]; intro h2; exact h (eq_of_beq h2)
theorem ok47 : okN [58, 64, 47] 47 = true := by decide

theorem rpF_len (p : L) (h : charsB [58, 64, 47] true p = true) : pctOk (rpF p) = true := po_ch _ (ch_rpF ok47 h)

theorem rpOut_size : ∀ (l : List L) (O : L) (f : Bool), (rpOut l (O, f)).length ≤ O.length + (l.map (fun x => x.length + 1)).sum + 1
  | [], O, f => by simp [rpOut]
  | [x], O, f => by
    have h1 : (rpStep x (O, f)).1.length ≤ O.length + x.length + 1 := by
      unfold rpStep
      split
      · simp; omega
      · split
        · have := dropSeg_le O; simp; omega
        · cases f <;> simp <;> omega
    unfold rpOut rpFin
    simp only [List.map_cons, List.map_nil, List.sum_cons, List.sum_nil]
    split
    · rw [List.length_append]; simp; omega
    · omega
  | x :: y :: r, O, f => by
    have h1 : (rpStep x (O, f)).1.length ≤ O.length + x.length + 1 := by
      unfold rpStep
      split
      · simp; omega
      · split
        · have := dropSeg_le O; simp; omega
        · cases f <;> simp <;> omega
    rw [rpOut_cons (by simp)]
    have h2 := rpOut_size (y :: r) (rpStep x (O, f)).1 (rpStep x (O, f)).2
    have e : rpOut (y :: r) (rpStep x (O, f)) = rpOut (y :: r) ((rpStep x (O, f)).1, (rpStep x (O, f)).2) := rfl
    rw [e]
    simp only [List.map_cons, List.sum_cons] at h2 ⊢
    omega
theorem segs_sum : ∀ (m : Nat) (q : L), q.length ≤ m → ((segs 47 q).map (fun x => x.length + 1)).sum = q.length + 1 := by
  intro m
  induction m with
  | zero => intro q hq; have : q = [] := List.length_eq_zero_iff.1 (by omega); subst this; rfl
  | succ m ih =>
    intro q hq
    by_cases hl : idx [47] q < q.length
    · rw [segs_cut 47 q hl, List.map_cons, List.sum_cons, ih _ (by rw [List.length_drop]; omega), List.length_take, List.length_drop]; omega
    · have := idx_le [47] q
      rw [segs_last 47 q (by omega)]; simp
theorem rpF_size (q : L) : (rpF q).length ≤ q.length + 3 := by
  unfold rpF
  split
  · simp
  · have h1 := rpOut_size (segs 47 q) [] true
    rw [segs_sum _ q (Nat.le_refl _)] at h1
    unfold lead
    simp only [List.length_nil] at h1
    split
    · omega
    · rw [List.length_cons]; omega
theorem full_nil (p : L) : fullF p [] = p := by unfold fullF; rw [if_pos rfl]

set_option maxHeartbeats 8000000 in
set_option maxRecDepth 100000 in
theorem resolve_abs (gb gr : Nat) (u v : UrlB) (p : ByteArray) (o : Option Addr) (w : World) (hT : Tab w) (hgb : w.heap[gb]? = some (urlObj u)) (hgr : w.heap[gr]? = some (urlObj v)) (hvu : v.us = .pointer o)
    (hc : v.sc.data.toList ≠ [] ∨ (v.sc.data.toList = [] ∧ v.ho.data.toList ≠ [])) (hp : charsB [58, 64, 47] true p.data.toList = true) (hz : p.size ≤ 1000000000000) (hq : PathQ p v.pa v.rp) :
    Calls Tryz.prog 46 #[ptr gb, ptr gr] w fun e w' => e = .returned (ptr w.heap.size) ∧ ∃ rb : ByteArray, Hid (rb.data.toList = rpF p.data.toList) ∧ ∃ pa rp : ByteArray, Hid (PathOf 1 rb pa rp) ∧ w'.heap[w.heap.size]? = some (urlObj { v with sc := (if v.sc.data.toList = [] then u.sc else v.sc), pa := pa, rp := rp }) ∧ Below w.heap.size w w' := by
  have hltb : gb < w.heap.size := (Array.getElem?_eq_some_iff.1 hgb).1
  have hltr : gr < w.heap.size := (Array.getElem?_eq_some_iff.1 hgr).1
  have hpos := hT.pos
  have HGB := Lib.hid hgb
  have HGR := Lib.hid hgr
  have HT := Lib.hid hT
  have HP := Lib.hid hp
  have HQ := Lib.hid hq
  obtain ⟨sc, op, us, ho, pa0, fr, rq, rp0, rf, fq, oh⟩ := v
  have hvu : us = .pointer o := hvu
  subst hvu
  have c0 : w.cell? ⟨gr, 0, none⟩ = some (.string sc) := blk_cell hgr 0
  have c1 : w.cell? ⟨gr, 1, none⟩ = some (.string op) := blk_cell hgr 1
  have c2 : w.cell? ⟨gr, 2, none⟩ = some (.pointer o) := blk_cell hgr 2
  have c3 : w.cell? ⟨gr, 3, none⟩ = some (.string ho) := blk_cell hgr 3
  have c4 : w.cell? ⟨gr, 4, none⟩ = some (.string pa0) := blk_cell hgr 4
  have c5 : w.cell? ⟨gr, 5, none⟩ = some (.string fr) := blk_cell hgr 5
  have c6 : w.cell? ⟨gr, 6, none⟩ = some (.string rq) := blk_cell hgr 6
  have c7 : w.cell? ⟨gr, 7, none⟩ = some (.string rp0) := blk_cell hgr 7
  have c8 : w.cell? ⟨gr, 8, none⟩ = some (.string rf) := blk_cell hgr 8
  have c9 : w.cell? ⟨gr, 9, none⟩ = some (.bool fq) := blk_cell hgr 9
  have c10 : w.cell? ⟨gr, 10, none⟩ = some (.bool oh) := blk_cell hgr 10
  have HB := Lib.hid ((Below.refl w.heap.size w).alloc (Nat.le_refl _) (urlObj ⟨sc, op, .pointer o, ho, pa0, fr, rq, rp0, rf, fq, oh⟩))
  have HK := Lib.hid (blk_new w (urlObj ⟨sc, op, .pointer o, ho, pa0, fr, rq, rp0, rf, fq, oh⟩))
  clear hgb hgr hT hp hq
  go_enter Tryz.func46, Tryz.ntmps46
  go_upto_region 2 with (fail)
  generalize w.alloc (urlObj ⟨sc, op, .pointer o, ho, pa0, fr, rq, rp0, rf, fq, oh⟩) = W at *
  have HR := Lib.hid (blk_below HGR.out HB.out hltr)
  have HB0 := Lib.hid (blk_below HGB.out HB.out hltb)
  have d0 : W.cell? ⟨gr, 0, none⟩ = some (.string sc) := blk_cell HR.out 0
  clear c0 c1 c2 c3 c4 c5 c6 c7 c8 c9 c10
  have hc : sc.data.toList ≠ [] ∨ (sc.data.toList = [] ∧ ho.data.toList ≠ []) := hc
  by_cases hsc : sc.data.toList = []
  · have hs0 : sc = ⟨#[]⟩ := ba_nil hsc
    have hho : ho.data.toList ≠ [] := by
      rcases hc with h | h
      · exact absurd hsc h
      · exact h.2
    obtain ⟨n1, n2⟩ := ba_ne' hho
    have d3 : W.cell? ⟨gr, 3, none⟩ = some (.string ho) := blk_cell HR.out 3
    have b0 : W.cell? ⟨gb, 0, none⟩ = some (.string u.sc) := blk_cell HB0.out 0
    have k0 : W.cell? ⟨w.heap.size, 0, none⟩ = some (.string sc) := blk_cell HK.out 0
    have f0 : W.frozen? ⟨w.heap.size, 0, none⟩ = false := blk_frozen HK.out 0
    have HK2 := Lib.hid (show (W.setCell ⟨w.heap.size, 0, none⟩ (.string u.sc)).heap[w.heap.size]? = some (urlObj ⟨u.sc, op, .pointer o, ho, pa0, fr, rq, rp0, rf, fq, oh⟩) from blk_set HK.out 0 (.string u.sc))
    have HB2 := Lib.hid (Below.setCell (p := ⟨w.heap.size, 0, none⟩) HB.out (Nat.le_refl _) (.string u.sc))
    have HR2 := Lib.hid (blk_far (g' := w.heap.size) HR.out 0 (.string u.sc) (by omega))
    have HT2 := Lib.hid (HT.out.up HB2.out hpos)
    subst hs0
    clear hsc hc hho
    go_upto_region 4 with (fail)
    generalize W.setCell ⟨w.heap.size, 0, none⟩ (.string u.sc) = W2 at *
    have d0 : W2.cell? ⟨gr, 0, none⟩ = some (.string ⟨#[]⟩) := blk_cell HR2.out 0
    have d3 : W2.cell? ⟨gr, 3, none⟩ = some (.string ho) := blk_cell HR2.out 3
    go_wp2_with (fail)
    refine Calls.mono (escPath_any gr _ p _ HT2.out HR2.out HP.out (by omega) HQ.out) ?_
    rintro e w3 ⟨q, rfl, rfl, hb3⟩
    have K3 := Lib.hid (blk_below HK2.out hb3 (Array.getElem?_eq_some_iff.1 HK2.out).1)
    have HB3 := Lib.hid (HB2.out.trans (hb3.mono HB2.out.size))
    clear hb3
    go_wp2_with (fail)
    refine Calls.mono (resolvePath_any q ⟨#[]⟩ _ (by omega) (by show 0 ≤ _; omega)) ?_
    rintro e w4 ⟨rb, rfl, hrb, hb4⟩
    have K4 := Lib.hid (blk_below K3.out hb4 (Array.getElem?_eq_some_iff.1 K3.out).1)
    have HB4 := Lib.hid (HB3.out.trans (hb4.mono HB3.out.size))
    have hrb2 : rb.data.toList = rpF q.data.toList := by rw [hrb.out]; show rpF (fullF _ []) = _; rw [full_nil]
    have hrz : rb.size ≤ 2000000000000 := by have := rpF_size q.data.toList; rw [← hrb2, size_len, size_len] at this; omega
    have HRB := Lib.hid hrb2
    have HT4 := Lib.hid (HT.out.up HB4.out hpos)
    clear hb4 K3 HB3 hrb hrb2
    go_wp2_with (fail)
    refine Calls.mono (setPath_any w.heap.size _ rb _ HT4.out hpos K4.out (by rw [HRB.out]; exact rpF_len _ HP.out) (by omega)) ?_
    rintro e w5 ⟨rfl, pa, rp, hpo, k5, hu5⟩
    have K5 := Lib.hid k5
    have HU5 := Lib.hid hu5
    clear k5 hu5
    go_wp2
    go_ret
    refine ⟨rfl, rb, HRB, pa, rp, hpo, ?_, HB4.out.trans HU5.out.below⟩
    first
      | exact K5.out
      | (rw [if_pos rfl]; exact K5.out)
      | simpa using K5.out
  · obtain ⟨n1, n2⟩ := ba_ne' hsc
    have HSC := Lib.hid hsc
    have HTW := Lib.hid (HT.out.up HB.out hpos)
    clear hsc hc
    go_wp2_with (fail)
    refine Calls.mono (escPath_any gr _ p _ HTW.out HR.out HP.out (by omega) HQ.out) ?_
    rintro e w3 ⟨q, rfl, rfl, hb3⟩
    have K3 := Lib.hid (blk_below HK.out hb3 (Array.getElem?_eq_some_iff.1 HK.out).1)
    have HB3 := Lib.hid (HB.out.trans (hb3.mono HB.out.size))
    clear hb3
    go_wp2_with (fail)
    refine Calls.mono (resolvePath_any q ⟨#[]⟩ _ (by omega) (by show 0 ≤ _; omega)) ?_
    rintro e w4 ⟨rb, rfl, hrb, hb4⟩
    have K4 := Lib.hid (blk_below K3.out hb4 (Array.getElem?_eq_some_iff.1 K3.out).1)
    have HB4 := Lib.hid (HB3.out.trans (hb4.mono HB3.out.size))
    have hrb2 : rb.data.toList = rpF q.data.toList := by rw [hrb.out]; show rpF (fullF _ []) = _; rw [full_nil]
    have hrz : rb.size ≤ 2000000000000 := by have := rpF_size q.data.toList; rw [← hrb2, size_len, size_len] at this; omega
    have HRB := Lib.hid hrb2
    have HT4 := Lib.hid (HT.out.up HB4.out hpos)
    clear hb4 K3 HB3 hrb hrb2
    go_wp2_with (fail)
    refine Calls.mono (setPath_any w.heap.size _ rb _ HT4.out hpos K4.out (by rw [HRB.out]; exact rpF_len _ HP.out) (by omega)) ?_
    rintro e w5 ⟨rfl, pa, rp, hpo, k5, hu5⟩
    have K5 := Lib.hid k5
    have HU5 := Lib.hid hu5
    clear k5 hu5
    go_wp2
    go_ret
    refine ⟨rfl, rb, HRB, pa, rp, hpo, ?_, HB4.out.trans HU5.out.below⟩
    first
      | exact K5.out
      | (rw [if_neg HSC.out]; exact K5.out)
      | (simp only [HSC.out]; exact K5.out)
end Go.Proofs.YtfkgkkmcaaefnaaGreatDoor.Wk
namespace Go.Proofs.YtfkgkkmcaaefnaaGreatDoor.Wk
open Go.RowKit Go.Proofs.YtfkgkkmcaaefnaaGreatDoor.Pu

theorem take_last (b : L) (hz : lastSl b ≠ 0) : b.take (lastSl b) = dropSeg b ++ [47] := by
  have hc := cut_last b hz
  have hle := lastSl_le b
  have hl : (dropSeg b).length = lastSl b - 1 := by unfold dropSeg; rw [List.length_take]; omega
  have hb : b[lastSl b - 1]? = (dropSeg b ++ 47 :: b.drop (lastSl b))[lastSl b - 1]? := congrArg (fun l : L => l[lastSl b - 1]?) hc
  rw [List.getElem?_append_right (by omega), hl, Nat.sub_self] at hb
  obtain ⟨n, hn⟩ : ∃ n, lastSl b = n + 1 := ⟨lastSl b - 1, by omega⟩
  unfold dropSeg
  rw [hn] at hb ⊢
  simp only [Nat.add_sub_cancel] at hb ⊢
  rw [List.take_add_one, hb]; rfl
theorem full_ch {b r : L} (h1 : charsB [58, 64, 47] true b = true) (h2 : charsB [58, 64, 47] true r = true) : charsB [58, 64, 47] true (fullF b r) = true := by
  unfold fullF
  split
  · exact h1
  · split
    · exact h2
    · by_cases hz : lastSl b = 0
      · rw [hz, List.take_zero]; exact h2
      · have hc := cut_last b hz
        have h3 := h1
        rw [hc, ch_split ok47, Bool.and_eq_true] at h3
        have e := take_last b hz
        rw [e, List.append_assoc]
        refine ch_app _ _ h3.1 ?_
        show charsB _ _ (47 :: r) = true
        rw [ch_else _ _ _ _ (by decide), show (47 : UInt8).toNat = 47 from rfl, ok47, h2]; rfl
theorem full_size (b r : L) : (fullF b r).length ≤ b.length + r.length := by
  unfold fullF
  split
  · omega
  · split
    · omega
    · rw [List.length_append, List.length_take]; omega

set_option maxHeartbeats 8000000 in
set_option maxRecDepth 100000 in
theorem resolve_rel (gb gr : Nat) (u v : UrlB) (p q : ByteArray) (o : Option Addr) (w : World) (hT : Tab w) (hgb : w.heap[gb]? = some (urlObj u)) (hgr : w.heap[gr]? = some (urlObj v)) (huu : u.us = .pointer o)
    (hsc : v.sc = ⟨#[]⟩) (hho : v.ho = ⟨#[]⟩) (hvus : v.us = .pointer none) (hvop : v.op = ⟨#[]⟩) (huop : u.op = ⟨#[]⟩) (hufr : u.fr = ⟨#[]⟩) (hurf : u.rf = ⟨#[]⟩) (hvrf : v.fr = ⟨#[]⟩ → v.rf = ⟨#[]⟩)
    (hp : charsB [58, 64, 47] true p.data.toList = true) (hz : p.size ≤ 1000000000000) (hpq : PathQ p u.pa u.rp) (hq : charsB [58, 64, 47] true q.data.toList = true) (hzq : q.size ≤ 1000000000000) (hqq : PathQ q v.pa v.rp) :
    Calls Tryz.prog 46 #[ptr gb, ptr gr] w fun e w' => e = .returned (ptr w.heap.size) ∧ ∃ rb : ByteArray, Hid (rb.data.toList = rpF (fullF p.data.toList q.data.toList)) ∧ ∃ pa rp : ByteArray, Hid (PathOf 1 rb pa rp) ∧
      w'.heap[w.heap.size]? = some (urlObj { v with sc := u.sc, us := u.us, ho := u.ho, rq := (if (decide (v.pa.data.toList = []) && !v.fq && decide (v.rq.data.toList = [])) = true then u.rq else v.rq), pa := pa, rp := rp }) ∧ Below w.heap.size w w' := by
  have hltb : gb < w.heap.size := (Array.getElem?_eq_some_iff.1 hgb).1
  have hltr : gr < w.heap.size := (Array.getElem?_eq_some_iff.1 hgr).1
  have hpos := hT.pos
  obtain ⟨sc, op, us, ho, pa0, fr, rq, rp0, rf, fq, oh⟩ := v
  have e1 : sc = ⟨#[]⟩ := hsc
  have e2 : ho = ⟨#[]⟩ := hho
  have e3 : us = .pointer none := hvus
  have e4 : op = ⟨#[]⟩ := hvop
  have hvrf : fr = ⟨#[]⟩ → rf = ⟨#[]⟩ := hvrf
  subst e1 e2 e3 e4
  obtain ⟨usc, uop, uus, uho, upa, ufr, urq, urp, urf, ufq, uoh⟩ := u
  have e1 : uop = ⟨#[]⟩ := huop
  have e2 : ufr = ⟨#[]⟩ := hufr
  have e3 : urf = ⟨#[]⟩ := hurf
  have e4 : uus = .pointer o := huu
  subst e1 e2 e3 e4
  have HGB := Lib.hid hgb
  have HGR := Lib.hid hgr
  have HT := Lib.hid hT
  have HP := Lib.hid hp
  have HPQ := Lib.hid hpq
  have HQ := Lib.hid hq
  have HQQ := Lib.hid hqq
  have HVRF := Lib.hid hvrf
  have c0 : w.cell? ⟨gr, 0, none⟩ = some (.string ⟨#[]⟩) := blk_cell hgr 0
  have c1 : w.cell? ⟨gr, 1, none⟩ = some (.string ⟨#[]⟩) := blk_cell hgr 1
  have c2 : w.cell? ⟨gr, 2, none⟩ = some (.pointer none) := blk_cell hgr 2
  have c3 : w.cell? ⟨gr, 3, none⟩ = some (.string ⟨#[]⟩) := blk_cell hgr 3
  have c4 : w.cell? ⟨gr, 4, none⟩ = some (.string pa0) := blk_cell hgr 4
  have c5 : w.cell? ⟨gr, 5, none⟩ = some (.string fr) := blk_cell hgr 5
  have c6 : w.cell? ⟨gr, 6, none⟩ = some (.string rq) := blk_cell hgr 6
  have c7 : w.cell? ⟨gr, 7, none⟩ = some (.string rp0) := blk_cell hgr 7
  have c8 : w.cell? ⟨gr, 8, none⟩ = some (.string rf) := blk_cell hgr 8
  have c9 : w.cell? ⟨gr, 9, none⟩ = some (.bool fq) := blk_cell hgr 9
  have c10 : w.cell? ⟨gr, 10, none⟩ = some (.bool oh) := blk_cell hgr 10
  have HB := Lib.hid ((Below.refl w.heap.size w).alloc (Nat.le_refl _) (urlObj ⟨⟨#[]⟩, ⟨#[]⟩, .pointer none, ⟨#[]⟩, pa0, fr, rq, rp0, rf, fq, oh⟩))
  have HK := Lib.hid (blk_new w (urlObj ⟨⟨#[]⟩, ⟨#[]⟩, .pointer none, ⟨#[]⟩, pa0, fr, rq, rp0, rf, fq, oh⟩))
  clear hgb hgr hT hp hq hpq hqq hvrf hsc hho hvus hvop huop hufr hurf huu
  show Calls Tryz.prog 46 #[ptr gb, ptr gr] w fun e w' => e = .returned (ptr w.heap.size) ∧ ∃ rb : ByteArray, Hid (rb.data.toList = rpF (fullF p.data.toList q.data.toList)) ∧ ∃ pa rp : ByteArray, Hid (PathOf 1 rb pa rp) ∧
      w'.heap[w.heap.size]? = some (urlObj ⟨usc, ⟨#[]⟩, .pointer o, uho, pa, fr, (if (decide (pa0.data.toList = []) && !fq && decide (rq.data.toList = [])) = true then urq else rq), rp, rf, fq, oh⟩) ∧ Below w.heap.size w w'
  obtain ⟨rqN, hrqN⟩ : ∃ rqN : ByteArray, (if (decide (pa0.data.toList = []) && !fq && decide (rq.data.toList = [])) = true then urq else rq) = rqN := ⟨_, rfl⟩
  rw [hrqN]
  have HRQN := Lib.hid hrqN
  clear hrqN
  go_enter Tryz.func46, Tryz.ntmps46
  go_upto_region 2 with (fail)
  generalize w.alloc (urlObj ⟨⟨#[]⟩, ⟨#[]⟩, .pointer none, ⟨#[]⟩, pa0, fr, rq, rp0, rf, fq, oh⟩) = W at *
  have HR := Lib.hid (blk_below HGR.out HB.out hltr)
  have HU := Lib.hid (blk_below HGB.out HB.out hltb)
  clear c0 c1 c2 c3 c4 c5 c6 c7 c8 c9 c10
  have d0 : W.cell? ⟨gr, 0, none⟩ = some (.string ⟨#[]⟩) := blk_cell HR.out 0
  have b0 : W.cell? ⟨gb, 0, none⟩ = some (.string usc) := blk_cell HU.out 0
  have k0 : W.cell? ⟨w.heap.size, 0, none⟩ = some (.string ⟨#[]⟩) := blk_cell HK.out 0
  have f0 : W.frozen? ⟨w.heap.size, 0, none⟩ = false := blk_frozen HK.out 0
  have HK2 := Lib.hid (show (W.setCell ⟨w.heap.size, 0, none⟩ (.string usc)).heap[w.heap.size]? = some (urlObj ⟨usc, ⟨#[]⟩, .pointer none, ⟨#[]⟩, pa0, fr, rq, rp0, rf, fq, oh⟩) from blk_set HK.out 0 (.string usc))
  have HB2 := Lib.hid (Below.setCell (p := ⟨w.heap.size, 0, none⟩) HB.out (Nat.le_refl _) (.string usc))
  have HR2 := Lib.hid (blk_far (g' := w.heap.size) HR.out 0 (.string usc) (by omega))
  have HU2 := Lib.hid (blk_far (g' := w.heap.size) HU.out 0 (.string usc) (by omega))
  go_upto_region 4 with (fail)
  generalize W.setCell ⟨w.heap.size, 0, none⟩ (.string usc) = W2 at *
  clear d0 b0 k0 f0 HK HB HR HU
  have d0 : W2.cell? ⟨gr, 0, none⟩ = some (.string ⟨#[]⟩) := blk_cell HR2.out 0
  have d1 : W2.cell? ⟨gr, 1, none⟩ = some (.string ⟨#[]⟩) := blk_cell HR2.out 1
  have d2 : W2.cell? ⟨gr, 2, none⟩ = some (.pointer none) := blk_cell HR2.out 2
  have d3 : W2.cell? ⟨gr, 3, none⟩ = some (.string ⟨#[]⟩) := blk_cell HR2.out 3
  have d4 : W2.cell? ⟨gr, 4, none⟩ = some (.string pa0) := blk_cell HR2.out 4
  have d5 : W2.cell? ⟨gr, 5, none⟩ = some (.string fr) := blk_cell HR2.out 5
  have d6 : W2.cell? ⟨gr, 6, none⟩ = some (.string rq) := blk_cell HR2.out 6
  have d9 : W2.cell? ⟨gr, 9, none⟩ = some (.bool fq) := blk_cell HR2.out 9
  go_upto_region 12 with (fail)
  go_cut [68] from 50 to 67 (fun v68 wx => v68 = .bool (decide (pa0.data.toList = []) && !fq && decide (rq.data.toList = [])) ∧ W2 = wx)
  case first =>
    have hp0 : decide (pa0.data.toList = []) = pa0.toList.isEmpty := by rw [toList_data]; cases pa0.data.toList <;> rfl
    have hr0 : decide (rq.data.toList = []) = rq.toList.isEmpty := by rw [toList_data]; cases rq.data.toList <;> rfl
    have HP0 := Lib.hid hp0
    have HR0 := Lib.hid hr0
    clear hp0 hr0
    cases hE1 : pa0.toList.isEmpty
    all_goals cases fq
    all_goals cases hE2 : rq.toList.isEmpty
    all_goals
      go_wp2
      go_meet
      case rel => exact ⟨by rw [HP0.out, HR0.out, hE1, hE2]; rfl, rfl⟩
  case rest =>
    obtain ⟨rfl, rfl⟩ := hcut
    generalize (decide (pa0.data.toList = []) && !fq && decide (rq.data.toList = [])) = kp at *
    go_upto_if 68 with (fail)
    go_cut [] from 68 to 88 (fun wx => Hid (wx.heap[w.heap.size]? = some (urlObj ⟨usc, ⟨#[]⟩, .pointer none, ⟨#[]⟩, pa0, fr, (if kp = true then urq else rq), rp0, rf, fq, oh⟩)) ∧ Hid (Below w.heap.size w wx))
    case first =>
      have b5 : W2.cell? ⟨gb, 5, none⟩ = some (.string ⟨#[]⟩) := blk_cell HU2.out 5
      have b6 : W2.cell? ⟨gb, 6, none⟩ = some (.string urq) := blk_cell HU2.out 6
      have b8 : W2.cell? ⟨gb, 8, none⟩ = some (.string ⟨#[]⟩) := blk_cell HU2.out 8
      have k5 : W2.cell? ⟨w.heap.size, 5, none⟩ = some (.string fr) := blk_cell HK2.out 5
      have k6 : W2.cell? ⟨w.heap.size, 6, none⟩ = some (.string rq) := blk_cell HK2.out 6
      have k8 : W2.cell? ⟨w.heap.size, 8, none⟩ = some (.string rf) := blk_cell HK2.out 8
      have g5 : W2.frozen? ⟨w.heap.size, 5, none⟩ = false := blk_frozen HK2.out 5
      have g6 : W2.frozen? ⟨w.heap.size, 6, none⟩ = false := blk_frozen HK2.out 6
      have g8 : W2.frozen? ⟨w.heap.size, 8, none⟩ = false := blk_frozen HK2.out 8
      have hne1 : gb ≠ w.heap.size := by omega
      have hne2 : gr ≠ w.heap.size := by omega
      cases kp
      · go_wp2
        go_meet
        case rel => exact ⟨HK2, HB2⟩
      · cases hE : fr.toList.isEmpty
        · go_wp2
          go_meet
          case rel => exact ⟨Lib.hid (blk_set HK2.out 6 _), Lib.hid (Below.setCell (p := ⟨w.heap.size, 6, none⟩) HB2.out (Nat.le_refl _) _)⟩
        · have hfe : fr = ⟨#[]⟩ := ba_nil (by rw [toList_data] at hE; exact List.isEmpty_iff.1 hE)
          have hre := HVRF.out hfe
          subst hfe
          subst hre
          clear hE
          go_wp2
          go_meet
          case rel => exact ⟨Lib.hid (blk_set (blk_set (blk_set HK2.out 6 _) 5 _) 8 _), Lib.hid (Below.setCell (p := ⟨w.heap.size, 8, none⟩) (Below.setCell (p := ⟨w.heap.size, 5, none⟩) (Below.setCell (p := ⟨w.heap.size, 6, none⟩) HB2.out (Nat.le_refl _) _) (Nat.le_refl _) _) (Nat.le_refl _) _)⟩
    case rest =>
      obtain ⟨HK3, HB3⟩ := hcut
      generalize (if kp = true then urq else rq) = rq2 at *
      have HR3 := Lib.hid (blk_below HGR.out HB3.out hltr)
      have HU3 := Lib.hid (blk_below HGB.out HB3.out hltb)
      clear d0 d1 d2 d3 d4 d5 d6 d9 HK2 HB2 HR2 HU2
      have b1 : wc.cell? ⟨gb, 1, none⟩ = some (.string ⟨#[]⟩) := blk_cell HU3.out 1
      have d4 : wc.cell? ⟨gr, 4, none⟩ = some (.string pa0) := blk_cell HR3.out 4
      go_upto_region 17 with (fail)
      go_cut [100] from 89 to 99 (fun v100 wx => v100 = .bool false ∧ wc = wx)
      case first =>
        cases hE1 : pa0.toList.isEmpty
        all_goals
          go_wp2
          go_meet
          case rel => exact ⟨rfl, rfl⟩
      case rest =>
        obtain ⟨rfl, rfl⟩ := hcut
        have b3 : wc.cell? ⟨gb, 3, none⟩ = some (.string uho) := blk_cell HU3.out 3
        have k3 : wc.cell? ⟨w.heap.size, 3, none⟩ = some (.string ⟨#[]⟩) := blk_cell HK3.out 3
        have g3 : wc.frozen? ⟨w.heap.size, 3, none⟩ = false := blk_frozen HK3.out 3
        have HK4 := Lib.hid (show (wc.setCell ⟨w.heap.size, 3, none⟩ (.string uho)).heap[w.heap.size]? = some (urlObj ⟨usc, ⟨#[]⟩, .pointer none, uho, pa0, fr, rq2, rp0, rf, fq, oh⟩) from blk_set HK3.out 3 (.string uho))
        have HB4 := Lib.hid (Below.setCell (p := ⟨w.heap.size, 3, none⟩) HB3.out (Nat.le_refl _) (.string uho))
        have HR4 := Lib.hid (blk_far (g' := w.heap.size) HR3.out 3 (.string uho) (by omega))
        have HU4 := Lib.hid (blk_far (g' := w.heap.size) HU3.out 3 (.string uho) (by omega))
        go_upto_region 24 with (fail)
        generalize wc.setCell ⟨w.heap.size, 3, none⟩ (.string uho) = W4 at *
        clear b1 d4 b3 k3 g3 HK3 HB3 HR3 HU3
        have b2 : W4.cell? ⟨gb, 2, none⟩ = some (.pointer o) := blk_cell HU4.out 2
        have k2 : W4.cell? ⟨w.heap.size, 2, none⟩ = some (.pointer none) := blk_cell HK4.out 2
        have g2 : W4.frozen? ⟨w.heap.size, 2, none⟩ = false := blk_frozen HK4.out 2
        have HK5 := Lib.hid (show (W4.setCell ⟨w.heap.size, 2, none⟩ (.pointer o)).heap[w.heap.size]? = some (urlObj ⟨usc, ⟨#[]⟩, .pointer o, uho, pa0, fr, rq2, rp0, rf, fq, oh⟩) from blk_set HK4.out 2 (.pointer o))
        have HB5 := Lib.hid (Below.setCell (p := ⟨w.heap.size, 2, none⟩) HB4.out (Nat.le_refl _) (.pointer o))
        have HR5 := Lib.hid (blk_far (g' := w.heap.size) HR4.out 2 (.pointer o) (by omega))
        have HU5 := Lib.hid (blk_far (g' := w.heap.size) HU4.out 2 (.pointer o) (by omega))
        go_upto_region 25 with (fail)
        generalize W4.setCell ⟨w.heap.size, 2, none⟩ (.pointer o) = W5 at *
        clear b2 k2 g2 HK4 HB4 HR4 HU4
        have HT5 := Lib.hid (HT.out.up HB5.out hpos)
        go_wp2_with (fail)
        refine Calls.mono (escPath_any gb _ p _ HT5.out HU5.out HP.out (by omega) HPQ.out) ?_
        rintro e w6 ⟨q1, rfl, rfl, hb6⟩
        have HK6 := Lib.hid (blk_below HK5.out hb6 (Array.getElem?_eq_some_iff.1 HK5.out).1)
        have HR6 := Lib.hid (blk_below HR5.out hb6 (Array.getElem?_eq_some_iff.1 HR5.out).1)
        have HB6 := Lib.hid (HB5.out.trans (hb6.mono HB5.out.size))
        have HT6 := Lib.hid (HT.out.up HB6.out hpos)
        clear hb6 HK5 HR5 HU5 HB5 HT5
        go_wp2_with (fail)
        refine Calls.mono (escPath_any gr _ q _ HT6.out HR6.out HQ.out (by omega) HQQ.out) ?_
        rintro e w7 ⟨q2, rfl, rfl, hb7⟩
        have HK7 := Lib.hid (blk_below HK6.out hb7 (Array.getElem?_eq_some_iff.1 HK6.out).1)
        have HB7 := Lib.hid (HB6.out.trans (hb7.mono HB6.out.size))
        clear hb7 HK6 HR6 HB6 HT6
        go_wp2_with (fail)
        refine Calls.mono (resolvePath_any q1 q2 _ (by omega) (by omega)) ?_
        rintro e w8 ⟨rb, rfl, hrb, hb8⟩
        have K8 := Lib.hid (blk_below HK7.out hb8 (Array.getElem?_eq_some_iff.1 HK7.out).1)
        have HB8 := Lib.hid (HB7.out.trans (hb8.mono HB7.out.size))
        have hrz : rb.size ≤ 3000000000000 := by
          have h1 := rpF_size (fullF q1.data.toList q2.data.toList)
          have h2 := full_size q1.data.toList q2.data.toList
          rw [← hrb.out, size_len] at h1
          rw [size_len, size_len] at h2
          omega
        have HT8 := Lib.hid (HT.out.up HB8.out hpos)
        clear hb8 HK7 HB7
        go_wp2_with (fail)
        refine Calls.mono (setPath_any w.heap.size _ rb _ HT8.out hpos K8.out (by rw [hrb.out]; exact rpF_len _ (full_ch HP.out HQ.out)) (by omega)) ?_
        rintro e w9 ⟨rfl, pa, rp, hpo, k9, hu9⟩
        have K9 := Lib.hid k9
        have HU9 := Lib.hid hu9
        clear k9 hu9
        go_wp2
        go_ret
        have hrq2 := HRQN.out
        subst hrq2
        exact ⟨rfl, rb, hrb, pa, rp, hpo, K9.out, HB8.out.trans HU9.out.below⟩
end Go.Proofs.YtfkgkkmcaaefnaaGreatDoor.Wk
