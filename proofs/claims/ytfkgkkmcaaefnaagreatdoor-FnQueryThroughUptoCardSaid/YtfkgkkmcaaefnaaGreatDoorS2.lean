/-
  THE WALK of the reference's Split.
-/
import Derived.Test.YtfkgkkmcaaefnaaGreatDoorS4
import Derived.RegionTactic
import Derived.ChangeAlike
import Derived.Deep.DeepCutAuto
import Derived.Deep.CutBlock
set_option linter.unusedSimpArgs false
set_option linter.unusedVariables false
namespace Go.Proofs.YtfkgkkmcaaefnaaGreatDoor.Wk
open Go.RowKit Go.Proofs.YtfkgkkmcaaefnaaGreatDoor.Pu

abbrev refV (r : RefB) : Value := .agg #[.bool r.hs, .string r.sc, .bool r.ha, .string r.au, .string r.pa, .bool r.hq, .string r.qu, .bool r.hf, .string r.fr]
abbrev refCells (r : RefB) : Array Value := #[.bool r.hs, .string r.sc, .bool r.ha, .string r.au, .string r.pa, .bool r.hq, .string r.qu, .bool r.hf, .string r.fr]


theorem blk_cell {w : World} {g : Nat} {cs : Array Value} {t : TypeId} {fr : Nat × Nat} (h : w.heap[g]? = some (.cells cs t fr)) (i : Nat) : w.cell? ⟨g, i, none⟩ = cs[i]? := by
  simp [World.cell?, h]
theorem blk_frozen {w : World} {g : Nat} {cs : Array Value} {t : TypeId} (h : w.heap[g]? = some (.cells cs t (0, 0))) (i : Nat) : w.frozen? ⟨g, i, none⟩ = false := by
  simp [World.frozen?, h]
theorem blk_set {w : World} {g : Nat} {cs : Array Value} {t : TypeId} {fr : Nat × Nat} (h : w.heap[g]? = some (.cells cs t fr)) (i : Nat) (v : Value) : (w.setCell ⟨g, i, none⟩ v).heap[g]? = some (.cells (cs.setIfInBounds i v) t fr) := by
  simp only [World.setCell, Array.getElem?_modify, h]
  simp
theorem blk_far {w : World} {g g' : Nat} {o : Option Obj} (h : w.heap[g]? = o) (i : Nat) (v : Value) (hne : g' ≠ g) : (w.setCell ⟨g', i, none⟩ v).heap[g]? = o := by
  rw [Below.heap_setCell _ _ _ _ (by simpa using hne.symm)]; exact h
theorem blk_alloc {w : World} {g : Nat} {x : Obj} (h : w.heap[g]? = some x) (o : Obj) : (w.alloc o).heap[g]? = some x := by
  rw [Below.heap_alloc _ _ _ (Array.getElem?_eq_some_iff.1 h).1]; exact h
theorem blk_below {B : Nat} {w w' : World} {g : Nat} {o : Option Obj} (h : w.heap[g]? = o) (hb : Below B w w') (hg : g < B) : w'.heap[g]? = o := by rw [hb.block g hg]; exact h
theorem blk_new (w : World) (o : Obj) : (w.alloc o).heap[w.heap.size]? = some o := by
  show (w.heap.push o)[w.heap.size]? = _
  simp

abbrev ref0 : RefB := ⟨false, ⟨#[]⟩, false, ⟨#[]⟩, ⟨#[]⟩, false, ⟨#[]⟩, false, ⟨#[]⟩⟩
set_option maxHeartbeats 4000000 in
set_option maxRecDepth 100000 in
theorem split_any (s : ByteArray) (w : World) (hs : s.size ≤ 9223372036854775000) :
    Calls Tryz.prog 10 #[.string s] w fun e w' => ∃ r : RefB, e = .returned (refV r) ∧ Hid (r.l = splitF s.data.toList) ∧ Below w.heap.size w w' := by
  have hb0 := Below.refl w.heap.size w
  obtain ⟨g, hg⟩ : ∃ g, g = w.heap.size := ⟨_, rfl⟩
  have h0 : ((w.alloc (.cells (refCells ref0) 25)).alloc (.cells (refCells ref0) 25)).heap[w.heap.size]? = some (.cells (refCells ref0) 25) := blk_alloc (blk_new _ _) _
  have h1 : ((w.alloc (.cells (refCells ref0) 25)).alloc (.cells (refCells ref0) 25)).heap[w.heap.size + 1]? = some (.cells (refCells ref0) 25) := by
    have := blk_new (w.alloc (.cells (refCells ref0) 25)) (.cells (refCells ref0) 25)
    simpa using this
  have hB : Below w.heap.size w ((w.alloc (.cells (refCells ref0) 25)).alloc (.cells (refCells ref0) 25)) := (hb0.alloc (Nat.le_refl _) _).alloc (by simp) _
  have hz : ((w.alloc (.cells (refCells ref0) 25)).alloc (.cells (refCells ref0) 25)).heap.size = w.heap.size + 2 := by simp
  have H0 := Lib.hid h0
  have H1 := Lib.hid h1
  have HZ := Lib.hid hz
  clear h0 h1 hg hz
  go_enter Tryz.func10, Tryz.ntmps10
  go_wp2_with (fail)
  refine (index_any _ _ _ (by omega) (by decide)).mono ?_
  rintro e w1 ⟨rfl, hb1⟩
  have h0 := blk_below H0.out hb1 (by rw [HZ.out]; omega)
  have h1 := blk_below H1.out hb1 (by rw [HZ.out]; omega)
  have hB1 := bt hB hb1
  have hn := idx_le [58, 47, 63, 35] s.data.toList
  rw [size_len] at hn
  have H0 := Lib.hid h0
  have H1 := Lib.hid h1
  clear h0 h1 hB hb0 hb1 HZ
  generalize hn1 : idx ([58, 47, 63, 35] : L) s.data.toList = n at *
  have HN := Lib.hid hn1
  clear hn1
  go_upto_region 3 with (fail)
  go_cut [22] (fun v22 wc => ∃ b : Bool, v22 = .bool b ∧ Hid (b = true → 0 < n ∧ s.data.toList[n]? = some 58) ∧ Hid (b = false → ¬ (0 < n ∧ s.data.toList[n]? = some 58)) ∧ wc = w1)
  case first =>
    by_cases c1 : 0 < n
    · by_cases c2 : n < s.size
      · have hx := Lib.hid (get_opt s n c2)
        go_wp2
        go_meet
        case rel => exact ⟨_, rfl, fun h => ⟨c1, by rw [hx.out]; congr; have := toNat_of_beq (n := 58) h; exact UInt8.toNat_inj.1 this⟩, fun h h2 => absurd h2.2 (by rw [hx.out]; intro h3; rw [Option.some.inj h3] at h; simp at h), rfl⟩
      · go_wp2
        go_meet
        case rel => exact ⟨false, rfl, (fun h => by cases h), fun _ h2 => absurd h2.2 (by rw [List.getElem?_eq_none (by rw [size_len]; omega)]; simp), rfl⟩
    · go_wp2
      go_meet
      case rel => exact ⟨false, rfl, (fun h => by cases h), fun _ h2 => absurd h2.1 c1, rfl⟩
  case rest =>
    obtain ⟨b, rfl, hbt, hbf, rfl⟩ := hcut
    go_upto_if 22 with (fail)
    go_cut [0] (fun v0 wc => ∃ (s1 sc : ByteArray) (b : Bool), v0 = .string s1 ∧ s1.size ≤ s.size ∧ Hid (split1 s.data.toList = optIf b (sc.data.toList, s1.data.toList)) ∧ Hid (b = false → s1 = s ∧ sc.data.toList = []) ∧ Below w.heap.size w wc ∧
      Hid (wc.heap[w.heap.size]? = some (.cells (refCells ref0) 25)) ∧ Hid (wc.heap[w.heap.size + 1]? = some (.cells (refCells { ref0 with hs := b, sc := sc }) 25)))
    case first =>
      cases b
      · go_wp2
        go_meet
        case rel => exact ⟨s, ⟨#[]⟩, false, rfl, by omega, by unfold split1; simp only [HN.out]; rw [if_neg (hbf.out (by trivial))]; rfl, fun _ => ⟨rfl, rfl⟩, hB1, H0, H1⟩
      · have hc1 : wc.cell? ⟨w.heap.size + 1, 0, none⟩ = some (.bool false) := blk_cell H1.out 0
        have hc2 : wc.cell? ⟨w.heap.size + 1, 1, none⟩ = some (.string ⟨#[]⟩) := blk_cell H1.out 1
        have hf1 : wc.frozen? ⟨w.heap.size + 1, 0, none⟩ = false := blk_frozen H1.out 0
        have hf2 : wc.frozen? ⟨w.heap.size + 1, 1, none⟩ = false := blk_frozen H1.out 1
        have hw : IntKind.i64.wrap (↑n + 1) = ↑n + 1 := IntWalk.i64_in _ (by omega)
        have hn1 : n < s.size := by have := (List.getElem?_eq_some_iff.1 (hbt.out rfl).2).1; rwa [size_len] at this
        go_wp2
        go_region
        go_wp2
        go_meet
        case rel =>
          refine ⟨s.extract (n + 1) s.size, s.extract 0 n, true, rfl, ext_size _ _ _, Lib.hid ?_, Lib.hid (fun h => by cases h), ((hB1.setCell (by simp) _).setCell (by simp) _).drew, ?_, ?_⟩
          · unfold split1; simp only [HN.out]; rw [if_pos (hbt.out (by trivial)), ext_toList, ext_toList, optIf, if_pos rfl, ← size_len, List.take_length, List.drop_zero]
          · exact blk_far (blk_far H0.out _ _ (by omega)) _ _ (by omega)
          · exact blk_set (blk_set H1.out _ _) _ _
    case rest =>
      obtain ⟨s1, sc, b, rfl, hs1, hsp1, hbf, hB, H0, H1⟩ := hcut
      clear HN hn hbt
      go_wp2_with (fail)
      refine (begins_any _ _ _ (by omega) (by decide)).mono ?_
      rintro e w2 ⟨rfl, hb2⟩
      have hB2 := bt hB hb2
      have h0 := blk_below H0.out hb2 (Array.getElem?_eq_some_iff.1 H0.out).1
      have h1 := blk_below H1.out hb2 (Array.getElem?_eq_some_iff.1 H1.out).1
      have H0 := Lib.hid h0
      have H1 := Lib.hid h1
      clear h0 h1 hB hb2
      go_upto_if 33 with (fail)
      go_cut [0] (fun v0 wc => ∃ (s2 au : ByteArray) (b2 : Bool), v0 = .string s2 ∧ s2.size ≤ s.size ∧ Hid (split2 s1.data.toList = optIf b2 (au.data.toList, s2.data.toList)) ∧ Hid (b2 = false → s2 = s1 ∧ au.data.toList = []) ∧ Below w.heap.size w wc ∧
        Hid (wc.heap[w.heap.size]? = some (.cells (refCells ref0) 25)) ∧ Hid (wc.heap[w.heap.size + 1]? = some (.cells (refCells { ref0 with hs := b, sc := sc, ha := b2, au := au }) 25)))
      case first =>
        cases hpre : ([47, 47] : L).isPrefixOf s1.data.toList
        · have HP := Lib.hid hpre
          clear hpre
          go_wp2
          go_meet
          case rel => exact ⟨s1, ⟨#[]⟩, false, rfl, by omega, by unfold split2; rw [HP.out]; rfl, fun _ => ⟨rfl, rfl⟩, hB2, H0, H1⟩
        · have hl2 : 2 ≤ s1.size := by
            have := (List.isPrefixOf_iff_prefix.1 hpre).length_le
            rw [size_len] at this; simpa using this
          have HP := Lib.hid hpre
          clear hpre
          go_wp2_with (fail)
          have hz2 : (s1.extract 2 s1.size).size ≤ s.size := Nat.le_trans (ext_size _ _ _) hs1
          generalize ht : s1.extract 2 s1.size = t at *
          have HT := Lib.hid ht
          clear ht
          refine (index_any _ _ _ (by omega) (by decide)).mono ?_
          rintro e w3 ⟨rfl, hb3⟩
          have hn := idx_le [47, 63, 35] t.data.toList
          rw [size_len] at hn
          generalize hn1 : idx ([47, 63, 35] : L) t.data.toList = n at *
          have HN := Lib.hid hn1
          clear hn1
          have hB3 := bt hB2 hb3
          have h0 := blk_below H0.out hb3 (Array.getElem?_eq_some_iff.1 H0.out).1
          have h1 := blk_below H1.out hb3 (Array.getElem?_eq_some_iff.1 H1.out).1
          have hc1 : w3.cell? ⟨w.heap.size + 1, 2, none⟩ = some (.bool false) := blk_cell h1 2
          have hc2 : w3.cell? ⟨w.heap.size + 1, 3, none⟩ = some (.string ⟨#[]⟩) := blk_cell h1 3
          have hf1 : w3.frozen? ⟨w.heap.size + 1, 2, none⟩ = false := blk_frozen h1 2
          have hf2 : w3.frozen? ⟨w.heap.size + 1, 3, none⟩ = false := blk_frozen h1 3
          have H0 := Lib.hid h0
          have H1 := Lib.hid h1
          clear h0 h1 hB2 hb3
          go_wp2
          go_region
          go_wp2
          go_meet
          case rel =>
            refine ⟨t.extract n t.size, t.extract 0 n, true, rfl, Nat.le_trans (ext_size _ _ _) hz2, Lib.hid ?_, Lib.hid (fun h => by cases h), ((hB3.setCell (by simp) _).setCell (by simp) _).drew, ?_, ?_⟩
            · have e : s1.data.toList.drop 2 = t.data.toList := by rw [← HT.out, ext_toList, ← size_len, List.take_length]
              unfold split2; rw [if_pos HP.out, e, HN.out, ext_toList, ext_toList, optIf, if_pos rfl, ← size_len, List.take_length, List.drop_zero]
            · exact blk_far (blk_far H0.out _ _ (by omega)) _ _ (by omega)
            · exact blk_set (blk_set H1.out _ _) _ _
      case rest =>
        obtain ⟨s2, au, b2, rfl, hs2, hsp2, hbf2, hB, H0, H1⟩ := hcut
        go_wp2_with (fail)
        refine (index_any _ _ _ (by omega) (by decide)).mono ?_
        rintro e w3 ⟨rfl, hb3⟩
        have hn := idx_le [63, 35] s2.data.toList
        rw [size_len] at hn
        generalize hn1 : idx ([63, 35] : L) s2.data.toList = n at *
        have HN := Lib.hid hn1
        clear hn1
        have hB3 := bt hB hb3
        have h0 := blk_below H0.out hb3 (Array.getElem?_eq_some_iff.1 H0.out).1
        have h1 := blk_below H1.out hb3 (Array.getElem?_eq_some_iff.1 H1.out).1
        have hc1 : w3.cell? ⟨w.heap.size + 1, 4, none⟩ = some (.string ⟨#[]⟩) := blk_cell h1 4
        have hf1 : w3.frozen? ⟨w.heap.size + 1, 4, none⟩ = false := blk_frozen h1 4
        have H0 := Lib.hid h0
        have H1 := Lib.hid h1
        clear h0 h1 hB hb3 hB2
        go_wp2
        go_region
        go_wp2_with (fail)
        have hz3 : (s2.extract n s2.size).size ≤ s.size := Nat.le_trans (ext_size _ _ _) hs2
        refine (begins_any _ _ _ (by omega) (by decide)).mono ?_
        rintro e w4 ⟨rfl, hb4⟩
        have hBw : Below w.heap.size w ((w3.setCell { block := w.heap.size + 1, off := 4 } (Value.string (s2.extract 0 n))).drew) := (hB3.setCell (by simp) _).drew
        have h0 : ((w3.setCell { block := w.heap.size + 1, off := 4 } (Value.string (s2.extract 0 n))).drew).heap[w.heap.size]? = _ := blk_far H0.out _ _ (by omega)
        have h1 : ((w3.setCell { block := w.heap.size + 1, off := 4 } (Value.string (s2.extract 0 n))).drew).heap[w.heap.size + 1]? = _ := blk_set H1.out _ _
        have k0 := blk_below h0 hb4 (Array.getElem?_eq_some_iff.1 h0).1
        have k1 := blk_below h1 hb4 (Array.getElem?_eq_some_iff.1 h1).1
        clear h0 h1 H0 H1
        have hB4 := bt hBw hb4
        have HPA := Lib.hid (ext_toList s2 0 n)
        have HS3 := Lib.hid (ext_toList s2 n s2.size)
        generalize s2.extract 0 n = pa at *
        generalize s2.extract n s2.size = s3 at *
        have H0 := Lib.hid k0
        have H1 := Lib.hid k1
        clear k0 k1 hBw hb4 hB3
        go_upto_if 56 with (fail)
        go_cut [0] (fun v0 wc => ∃ (s4 qu : ByteArray) (b4 : Bool), v0 = .string s4 ∧ s4.size ≤ s.size ∧ Hid (split4 s3.data.toList = optIf b4 (qu.data.toList, s4.data.toList)) ∧ Hid (b4 = false → s4 = s3 ∧ qu.data.toList = []) ∧ Below w.heap.size w wc ∧
          Hid (wc.heap[w.heap.size]? = some (.cells (refCells ref0) 25)) ∧ Hid (wc.heap[w.heap.size + 1]? = some (.cells (refCells { ref0 with hs := b, sc := sc, ha := b2, au := au, pa := pa, hq := b4, qu := qu }) 25)))
        case first =>
          cases hpre : ([63] : L).isPrefixOf s3.data.toList
          · have HP := Lib.hid hpre
            clear hpre
            go_wp2
            go_meet
            case rel => exact ⟨s3, ⟨#[]⟩, false, rfl, by omega, by unfold split4; rw [HP.out]; rfl, fun _ => ⟨rfl, rfl⟩, hB4, H0, H1⟩
          · have HP := Lib.hid hpre
            have hm1 : 1 ≤ idx [35] s3.data.toList := by
              obtain ⟨l, hl⟩ := List.isPrefixOf_iff_prefix.1 hpre
              rw [← hl, List.singleton_append, idx_miss _ _ _ (by decide)]; omega
            clear hpre
            go_wp2_with (fail)
            refine (index_any _ _ _ (by omega) (by decide)).mono ?_
            rintro e w5 ⟨rfl, hb5⟩
            have hm := idx_le [35] s3.data.toList
            rw [size_len] at hm
            generalize hn1 : idx ([35] : L) s3.data.toList = m at *
            have HM := Lib.hid hn1
            clear hn1
            have hB5 := bt hB4 hb5
            have h0 := blk_below H0.out hb5 (Array.getElem?_eq_some_iff.1 H0.out).1
            have h1 := blk_below H1.out hb5 (Array.getElem?_eq_some_iff.1 H1.out).1
            have hc1 : w5.cell? ⟨w.heap.size + 1, 5, none⟩ = some (.bool false) := blk_cell h1 5
            have hc2 : w5.cell? ⟨w.heap.size + 1, 6, none⟩ = some (.string ⟨#[]⟩) := blk_cell h1 6
            have hf1 : w5.frozen? ⟨w.heap.size + 1, 5, none⟩ = false := blk_frozen h1 5
            have hf2 : w5.frozen? ⟨w.heap.size + 1, 6, none⟩ = false := blk_frozen h1 6
            have H0 := Lib.hid h0
            have H1 := Lib.hid h1
            clear h0 h1 hB4 hb5
            go_wp2
            go_region
            go_wp2
            go_meet
            case rel =>
              refine ⟨s3.extract m s3.size, s3.extract 1 m, true, rfl, Nat.le_trans (ext_size _ _ _) hz3, Lib.hid ?_, Lib.hid (fun h => by cases h), ((hB5.setCell (by simp) _).setCell (by simp) _).drew, ?_, ?_⟩
              · unfold split4; rw [if_pos HP.out, HM.out, ext_toList, ext_toList, optIf, if_pos rfl, ← size_len, List.take_length]
              · exact blk_far (blk_far H0.out _ _ (by omega)) _ _ (by omega)
              · exact blk_set (blk_set H1.out _ _) _ _
        case rest =>
          obtain ⟨s4, qu, b4, rfl, hs4, hsp4, hbf4, hB, H0, H1⟩ := hcut
          go_wp2_with (fail)
          refine (begins_any _ _ _ (by omega) (by decide)).mono ?_
          rintro e w6 ⟨rfl, hb6⟩
          have hB6 := bt hB hb6
          have h0 := blk_below H0.out hb6 (Array.getElem?_eq_some_iff.1 H0.out).1
          have h1 := blk_below H1.out hb6 (Array.getElem?_eq_some_iff.1 H1.out).1
          have H0 := Lib.hid h0
          have H1 := Lib.hid h1
          clear h0 h1 hB hb6 hB4
          cases hpre : ([35] : L).isPrefixOf s4.data.toList
          · have HP := Lib.hid hpre
            have q0 : w6.cell? ⟨w.heap.size + 1, 0, none⟩ = some (.bool b) := blk_cell H1.out 0
            have q1 : w6.cell? ⟨w.heap.size + 1, 1, none⟩ = some (.string sc) := blk_cell H1.out 1
            have q2 : w6.cell? ⟨w.heap.size + 1, 2, none⟩ = some (.bool b2) := blk_cell H1.out 2
            have q3 : w6.cell? ⟨w.heap.size + 1, 3, none⟩ = some (.string au) := blk_cell H1.out 3
            have q4 : w6.cell? ⟨w.heap.size + 1, 4, none⟩ = some (.string pa) := blk_cell H1.out 4
            have q5 : w6.cell? ⟨w.heap.size + 1, 5, none⟩ = some (.bool b4) := blk_cell H1.out 5
            have q6 : w6.cell? ⟨w.heap.size + 1, 6, none⟩ = some (.string qu) := blk_cell H1.out 6
            have q7 : w6.cell? ⟨w.heap.size + 1, 7, none⟩ = some (.bool false) := blk_cell H1.out 7
            have q8 : w6.cell? ⟨w.heap.size + 1, 8, none⟩ = some (.string ⟨#[]⟩) := blk_cell H1.out 8
            have hc0 : ∀ j, w6.cell? ⟨w.heap.size, j, none⟩ = (refCells ref0)[j]? := blk_cell H0.out
            have z0 : ∀ j, w6.frozen? ⟨w.heap.size, j, none⟩ = false := blk_frozen H0.out
            clear hpre
            go_wp2
            refine bodyPost_ret (v := refV ⟨b, sc, b2, au, pa, b4, qu, false, ⟨#[]⟩⟩) (by simp [results, Tryz.results10, go_sem, hc0, refCells, ref0]) rfl ⟨⟨b, sc, b2, au, pa, b4, qu, false, ⟨#[]⟩⟩, rfl, ?_, ?_⟩
            · exact Lib.hid (splitF_glue hsp1.out (fun h => ⟨by rw [(hbf.out h).1], (hbf.out h).2⟩) hsp2.out (fun h => ⟨by rw [(hbf2.out h).1], (hbf2.out h).2⟩) HN.out (by rw [HPA.out, List.drop_zero]) (by rw [HS3.out, ← size_len, List.take_length]) hsp4.out (fun h => ⟨by rw [(hbf4.out h).1], (hbf4.out h).2⟩) (b5 := false) (fr := []) (by unfold split5; rw [HP.out]; rfl) (fun _ => rfl))
            · go_grown
          · have hl1 : 1 ≤ s4.size := by
              have := (List.isPrefixOf_iff_prefix.1 hpre).length_le
              rw [size_len] at this; simpa using this
            have HP := Lib.hid hpre
            have q0 : w6.cell? ⟨w.heap.size + 1, 0, none⟩ = some (.bool b) := blk_cell H1.out 0
            have q1 : w6.cell? ⟨w.heap.size + 1, 1, none⟩ = some (.string sc) := blk_cell H1.out 1
            have q2 : w6.cell? ⟨w.heap.size + 1, 2, none⟩ = some (.bool b2) := blk_cell H1.out 2
            have q3 : w6.cell? ⟨w.heap.size + 1, 3, none⟩ = some (.string au) := blk_cell H1.out 3
            have q4 : w6.cell? ⟨w.heap.size + 1, 4, none⟩ = some (.string pa) := blk_cell H1.out 4
            have q5 : w6.cell? ⟨w.heap.size + 1, 5, none⟩ = some (.bool b4) := blk_cell H1.out 5
            have q6 : w6.cell? ⟨w.heap.size + 1, 6, none⟩ = some (.string qu) := blk_cell H1.out 6
            have q7 : w6.cell? ⟨w.heap.size + 1, 7, none⟩ = some (.bool false) := blk_cell H1.out 7
            have q8 : w6.cell? ⟨w.heap.size + 1, 8, none⟩ = some (.string ⟨#[]⟩) := blk_cell H1.out 8
            have hf1 : w6.frozen? ⟨w.heap.size + 1, 7, none⟩ = false := blk_frozen H1.out 7
            have hf2 : w6.frozen? ⟨w.heap.size + 1, 8, none⟩ = false := blk_frozen H1.out 8
            have hc0 : ∀ j, w6.cell? ⟨w.heap.size, j, none⟩ = (refCells ref0)[j]? := blk_cell H0.out
            have z0 : ∀ j, w6.frozen? ⟨w.heap.size, j, none⟩ = false := blk_frozen H0.out
            clear hpre
            go_wp2
            go_region
            go_wp2
            refine bodyPost_ret (v := refV ⟨b, sc, b2, au, pa, b4, qu, true, s4.extract 1 s4.size⟩) (by simp [results, Tryz.results10, go_sem, hc0, refCells, ref0]) rfl ⟨⟨b, sc, b2, au, pa, b4, qu, true, s4.extract 1 s4.size⟩, rfl, ?_, ?_⟩
            · exact Lib.hid (splitF_glue hsp1.out (fun h => ⟨by rw [(hbf.out h).1], (hbf.out h).2⟩) hsp2.out (fun h => ⟨by rw [(hbf2.out h).1], (hbf2.out h).2⟩) HN.out (by rw [HPA.out, List.drop_zero]) (by rw [HS3.out, ← size_len, List.take_length]) hsp4.out (fun h => ⟨by rw [(hbf4.out h).1], (hbf4.out h).2⟩) (b5 := true) (by unfold split5; rw [if_pos HP.out, ext_toList, ← size_len, List.take_length]; rfl) (fun h => by cases h))
            · go_grown
end Go.Proofs.YtfkgkkmcaaefnaaGreatDoor.Wk
