/-
  THE WALK of FnQueryThrough, region by region.
-/
import Derived.Test.YtfkgkkmcaaefnaaGreatDoorN12
import Derived.Test.YtfkgkkmcaaefnaaGreatDoorN14
import Derived.BigRegion
import Derived.Deep.CutBlock
import Derived.Deep.DeepCutAuto
import Derived.BigQuiet
set_option linter.unusedSimpArgs false
set_option linter.unusedVariables false
namespace Go.Proofs.YtfkgkkmcaaefnaaGreatDoor.Wk
open Go.RowKit Go.Proofs.YtfkgkkmcaaefnaaGreatDoor.Pu Go.Maps
/-- the law's own variable -/
structure QS (w wx : World) (cur : Array Value) : Prop where
  cur : wx.heap[w.heap.size]? = some (.cells cur 28 (0, 0))
  below : Below w.heap.size w wx
theorem QS.set {w wx : World} {cur : Array Value} (h : QS w wx cur) (i : Nat) (v : Value) : QS w (wx.setCell ⟨w.heap.size, i, none⟩ v) (cur.setIfInBounds i v) :=
  ⟨blk_set h.cur i v, h.below.setCell (p := ⟨w.heap.size, i, none⟩) (Nat.le_refl _) v⟩
theorem QS.up {w wx wy : World} {cur : Array Value} (h : QS w wx cur) (hb : Below wx.heap.size wx wy) : QS w wy cur :=
  ⟨blk_below h.cur hb (Array.getElem?_eq_some_iff.1 h.cur).1, h.below.trans (hb.mono h.below.size)⟩
theorem encF_size {M : Nat} {qs : List TripB} (h : Good M 2000 qs) : (encF (plainT qs)).length ≤ 2000 * (6 * M + 2) := by
  have h1 := fold_len (6 * M + 1) (settings (plainT qs)) [] (by
    intro x hx
    rw [settings_flat] at hx
    obtain ⟨s, hs, rfl⟩ := List.mem_map.1 hx
    unfold flatP at hs
    obtain ⟨p, hp, hs⟩ := List.mem_flatMap.1 hs
    obtain ⟨y, hy, rfl⟩ := List.mem_map.1 hs
    unfold plainT at hp
    obtain ⟨q, hq, rfl⟩ := List.mem_map.1 hp
    obtain ⟨k1, k2⟩ := h.siz q hq
    have k3 := k2 y hy
    have e1 := escF_len3 32 q.1.data.toList
    have e2 := escF_len3 32 y.data.toList
    rw [size_len] at e1 e2
    unfold sx
    simp only [List.length_append, List.length_singleton]
    omega)
  have h2 : (settings (plainT qs)).length ≤ 2000 := by
    rw [settings_len]
    unfold plainT
    rw [List.map_map]
    exact h.tot
  have h3 : (settings (plainT qs)).length * (6 * M + 1 + 1) ≤ 2000 * (6 * M + 1 + 1) := Nat.mul_le_mul_right _ h2
  unfold encF
  rw [List.length_nil] at h1
  omega

theorem OwnP.set {B : Nat} {w : World} {v : Value} {qs : List TripB} (h : OwnP B w v qs) {a : Addr} (ha : a.block < B) (x : Value) : OwnP B (w.setCell a x) v qs :=
  ⟨ownsRow_setCell_below h.row ha x, fun q hq => ⟨(h.each q hq).1, ownsRow_setCell_below (h.each q hq).2 ha x⟩, h.apart⟩
theorem PArg.below {w w' : World} {v : Value} {ps : List PairB} (h : PArg w v ps) (hb : Below w.heap.size w w') : PArg w' v ps := by
  rcases h with h | ⟨b, o, d, rfl, h⟩
  · exact Or.inl h
  · exact Or.inr ⟨b, o, d, rfl, h.below hb⟩
theorem good_flat {M : Nat} {qs : List TripB} (h : Good M 2000 qs) : (flatB (plainT qs)).length ≤ 2000 ∧ ∀ s ∈ flatB (plainT qs), s.1.size ≤ M ∧ s.2.size ≤ M := by
  constructor
  · unfold flatB plainT
    rw [List.length_flatMap, List.map_map]
    simp only [Function.comp_def, List.length_map]
    exact h.tot
  · intro s hs
    unfold flatB plainT at hs
    obtain ⟨p, hp, hs⟩ := List.mem_flatMap.1 hs
    obtain ⟨q, hq, rfl⟩ := List.mem_map.1 hp
    obtain ⟨y, hy, rfl⟩ := List.mem_map.1 hs
    exact ⟨(h.siz q hq).1, (h.siz q hq).2 y hy⟩
theorem good_srt {M : Nat} {qs : List TripB} (h : Good M 2000 qs) : ((plainT qs).map fun p => p.1.toList).Pairwise fun x y => Op.bytesLess x y = true := by
  unfold plainT
  rw [List.map_map]
  exact h.srt
theorem good_ne {B M : Nat} {w : World} {v : Value} {qs : List TripB} (h : Good M 2000 qs) (ho : OwnP B w v qs) : (plainT qs).length ≤ 2000 ∧ ∀ p ∈ plainT qs, p.2 ≠ [] ∧ p.2.length ≤ 2000 := by
  obtain ⟨l1, l2⟩ := good_len h ho
  unfold plainT
  refine ⟨by rw [List.length_map]; exact l1, fun p hp => ?_⟩
  obtain ⟨q, hq, rfl⟩ := List.mem_map.1 hp
  exact ⟨(ho.each q hq).1, l2 q hq⟩
/-- the world in which a URL is stored -/
abbrev stored (W : World) (g : Nat) (u1 : UrlB) (hu : Bool) (un1 : ByteArray) (ps1 : Bool) (pw1 : ByteArray) : World :=
  ((((((((((((((((W.setCell ⟨g, 0, none⟩ (.string u1.sc)).setCell ⟨g, 1, none⟩ (.string u1.op)).setCell ⟨g, 2, none⟩ (.bool hu)).setCell ⟨g, 3, none⟩ (.string un1)).setCell ⟨g, 4, none⟩ (.bool ps1)).setCell ⟨g, 5, none⟩ (.string pw1)).setCell ⟨g, 6, none⟩ (.string u1.ho)).setCell ⟨g, 7, none⟩ (.string u1.pa)).setCell ⟨g, 8, none⟩ (.string u1.rp)).setCell ⟨g, 9, none⟩ (.bool u1.fq)).setCell ⟨g, 10, none⟩ (.string u1.rq)).setCell ⟨g, 11, none⟩ (.string u1.fr)).setCell ⟨g, 12, none⟩ (.string u1.rf)).setCell ⟨g, 13, none⟩ (.bool u1.oh)).setCell ⟨g, 14, none⟩ (.string ⟨#[]⟩)).setCell ⟨g, 15, none⟩ (.string ⟨#[]⟩))
theorem QS.stored {w wx : World} {u0 : UrlB} {hu0 ps0 : Bool} {un0 pw0 ep0 ef0 : ByteArray} (h : QS w wx (toldCells u0 hu0 un0 ps0 pw0 ep0 ef0)) (u1 : UrlB) (hu : Bool) (un1 : ByteArray) (ps1 : Bool) (pw1 : ByteArray) : QS w (stored wx w.heap.size u1 hu un1 ps1 pw1) (toldCells u1 hu un1 ps1 pw1 ⟨#[]⟩ ⟨#[]⟩) := by
  have k := ((((((((((((((((h.set 0 (.string u1.sc)).set 1 (.string u1.op)).set 2 (.bool hu)).set 3 (.string un1)).set 4 (.bool ps1)).set 5 (.string pw1)).set 6 (.string u1.ho)).set 7 (.string u1.pa)).set 8 (.string u1.rp)).set 9 (.bool u1.fq)).set 10 (.string u1.rq)).set 11 (.string u1.fr)).set 12 (.string u1.rf)).set 13 (.bool u1.oh)).set 14 (.string ⟨#[]⟩)).set 15 (.string ⟨#[]⟩))
  simp only [toldCells, List.setIfInBounds_toArray, List.set_cons_zero, List.set_cons_succ] at k
  exact k
theorem OwnP.stored {B : Nat} {w : World} {v : Value} {qs : List TripB} (h : OwnP B w v qs) {g : Nat} (hg : g < B) (u1 : UrlB) (hu : Bool) (un1 : ByteArray) (ps1 : Bool) (pw1 : ByteArray) : OwnP B (stored w g u1 hu un1 ps1 pw1) v qs :=
  ((((((((((((((((h.set (a := ⟨g, 0, none⟩) hg (.string u1.sc)).set (a := ⟨g, 1, none⟩) hg (.string u1.op)).set (a := ⟨g, 2, none⟩) hg (.bool hu)).set (a := ⟨g, 3, none⟩) hg (.string un1)).set (a := ⟨g, 4, none⟩) hg (.bool ps1)).set (a := ⟨g, 5, none⟩) hg (.string pw1)).set (a := ⟨g, 6, none⟩) hg (.string u1.ho)).set (a := ⟨g, 7, none⟩) hg (.string u1.pa)).set (a := ⟨g, 8, none⟩) hg (.string u1.rp)).set (a := ⟨g, 9, none⟩) hg (.bool u1.fq)).set (a := ⟨g, 10, none⟩) hg (.string u1.rq)).set (a := ⟨g, 11, none⟩) hg (.string u1.fr)).set (a := ⟨g, 12, none⟩) hg (.string u1.rf)).set (a := ⟨g, 13, none⟩) hg (.bool u1.oh)).set (a := ⟨g, 14, none⟩) hg (.string ⟨#[]⟩)).set (a := ⟨g, 15, none⟩) hg (.string ⟨#[]⟩))

noncomputable def qtTail : Nat → Code → Code
  | 0, c => c
  | n + 1, .seq _ c => qtTail n c
  | _ + 1, c => c
noncomputable def qtHead : Code → Code
  | .seq c _ => c
  | c => c
noncomputable def qtBody : Code := (Tryz.f8.body).getD .skip
noncomputable def qtReg1 : Code := qtHead (qtHead (qtTail 1 qtBody))
noncomputable def qtReg4 : Code := qtHead (qtTail 3 qtBody)
noncomputable def qtReg6 : Code := qtHead (qtTail 5 qtBody)
set_option maxHeartbeats 4000000 in
set_option maxRecDepth 100000 in
theorem qt_reg1 (u : UrlB) (hu : Bool) (un : ByteArray) (ps : Bool) (pw ep ef : ByteArray) (v : Value) (l : List PairB) (w W0 : World) (x0 x1 x2 x4 x5 x7 x8 x9 x10 x11 x12 x13 x14 x15 x16 x17 x18 x19 x20 x21 x22 x23 x24 x25 x26 x27 x28 x29 x30 x31 x32 x33 x34 x35 x36 x37 x38 x39 x40 x41 x42 x43 : Value) (K : Act → World → Prop) (Q : Exit → Act → World → Prop)
    (HV : Hid (PArg w v l)) (g1 : u.sc.size ≤ 2147483647) (g2 : u.op.size ≤ 2147483647) (g3 : un.size ≤ 2147483647) (g4 : pw.size ≤ 2147483647) (g5 : u.ho.size ≤ 2147483647) (g6 : u.pa.size ≤ 2147483647) (g7 : u.rp.size ≤ 2147483647) (g8 : u.rq.size ≤ 2147483647) (g9 : u.fr.size ≤ 2147483647) (g10 : u.rf.size ≤ 2147483647) (g11 : ep.size ≤ 2147483647) (g12 : ef.size ≤ 2147483647) (hl : l.length ≤ 1048576) (HZ : Hid (∀ p ∈ l, p.1.size ≤ 1048576 ∧ p.2.length ≤ 1048576 ∧ ∀ y ∈ p.2, y.size ≤ 1048576)) (Q0 : Hid (QS w W0 (toldCells u hu un ps pw ep ef)))
    (hK : ∀ (wx : World) (y11 y12 y13 y14 y15 y16 y17 : Value), Hid (QS w wx (toldCells u hu un ps pw ep ef)) → K ⟨#[x0, x1, x2, v, x4, x5, .pointer (some ⟨w.heap.size, 0, none⟩), x7, x8, x9, x10, y11, y12, y13, y14, y15, y16, y17, .bool false, x19, x20, x21, x22, x23, x24, x25, x26, x27, x28, x29, x30, x31, x32, x33, x34, x35, x36, x37, x38, x39, x40, x41, x42, x43], []⟩ wx) :
    Code.wp Tryz.prog qtReg1 (Exit.then K Q) ⟨#[x0, x1, x2, v, x4, x5, .pointer (some ⟨w.heap.size, 0, none⟩), x7, x8, x9, x10, x11, x12, x13, x14, x15, x16, x17, x18, x19, x20, x21, x22, x23, x24, x25, x26, x27, x28, x29, x30, x31, x32, x33, x34, x35, x36, x37, x38, x39, x40, x41, x42, x43], []⟩ W0 := by
  have HK := Lib.hid hK
  have HF1 := Lib.hid (fits1_any u hu un pw ps ep ef W0 g1 g2 g3 g4 g5 g6 g7 g8 g9 g10 g11 g12)
  clear hK g1 g2 g3 g4 g5 g6 g7 g8 g9 g10 g11 g12
  conv => arg 2; whnf
  have d0 : ∀ j, W0.cell? ⟨w.heap.size, j, none⟩ = (toldCells u hu un ps pw ep ef)[j]? := blk_cell Q0.out.cur
  go_wp2_with (fail)
  refine Calls.mono HF1.out ?_
  rintro e w1 ⟨rfl, hb1⟩
  have Q1 := Lib.hid (Q0.out.up hb1)
  clear HF1 Q0 hb1 d0
  go_wp2_with (fail)
  refine Calls.mono (fits2_any v l w1 (HV.out.sl.below Q1.out.below) (by omega) (fun p hp => by obtain ⟨k1, k2, k3⟩ := HZ.out p hp; exact ⟨by omega, by omega, fun y hy => by have := k3 y hy; omega⟩)) ?_
  rintro e w2 ⟨rfl, hb2⟩
  have Q2 := Lib.hid (Q1.out.up hb2)
  clear Q1 hb2
  go_wp2_with (fail)
  exact HK.out _ _ _ _ _ _ _ _ Q2
set_option maxHeartbeats 4000000 in
set_option maxRecDepth 100000 in
theorem qt_reg4 (a b : Int) (u : UrlB) (hu : Bool) (un : ByteArray) (ps : Bool) (pw ep ef : ByteArray) (v1 : Value) (qs : List TripB) (B : Nat) (w w3 : World) (x2 x3 x4 x5 x7 x8 x9 x10 x11 x12 x13 x14 x15 x16 x17 x18 x19 x20 x21 x22 x23 x24 x25 x26 x27 x28 x29 x30 x31 x32 x33 x34 x35 x36 x37 x38 x39 x40 x41 x42 x43 : Value) (K : Act → World → Prop) (Q : Exit → Act → World → Prop)
    (hu6 : u.pa.size ≤ 2147483647) (hu8 : u.rq.size ≤ 2147483647) (Q3 : Hid (QS w w3 (toldCells u hu un ps pw ep ef))) (hown : Hid (OwnP B w3 v1 qs)) (HB : Hid (w.heap.size < B))
    (hK : ∀ (wx : World) (u1 : UrlB) (un1 pw1 : ByteArray) (ps1 : Bool) (y21 y22 y23 y24 : Value), Hid (PlainOf u u1 un un1 pw pw1) → Hid (QS w wx (toldCells u1 hu un1 ps1 pw1 ⟨#[]⟩ ⟨#[]⟩)) → Hid (OwnP B wx v1 qs) → K ⟨#[.int .i64 a, .int .i64 b, x2, x3, x4, x5, .pointer (some ⟨w.heap.size, 0, none⟩), x7, x8, x9, x10, x11, x12, x13, x14, x15, x16, x17, x18, x19, x20, y21, y22, y23, y24, x25, x26, x27, x28, x29, x30, x31, x32, x33, x34, x35, x36, x37, x38, x39, x40, x41, x42, x43], []⟩ wx) :
    Code.wp Tryz.prog qtReg4 (Exit.then K Q) ⟨#[.int .i64 a, .int .i64 b, x2, x3, x4, x5, .pointer (some ⟨w.heap.size, 0, none⟩), x7, x8, x9, x10, x11, x12, x13, x14, x15, x16, x17, x18, x19, x20, x21, x22, x23, x24, x25, x26, x27, x28, x29, x30, x31, x32, x33, x34, x35, x36, x37, x38, x39, x40, x41, x42, x43], []⟩ w3 := by
  have HK := Lib.hid hK
  have HPL := Lib.hid (plain_any a b u hu un ps pw ep ef w3 hu8 hu6)
  clear hK hu6 hu8
  conv => arg 2; whnf
  have d0 : ∀ j, w3.cell? ⟨w.heap.size, j, none⟩ = (toldCells u hu un ps pw ep ef)[j]? := blk_cell Q3.out.cur
  go_wp2_with (fail)
  refine Calls.mono HPL.out ?_
  rintro e w4 ⟨pv, rfl, hpv, hb4⟩
  have Q4 := Lib.hid (Q3.out.up hb4)
  have O4 := Lib.hid (hown.out.below hb4)
  obtain ⟨u1, un1, ps1, pw1, rfl, hpo⟩ := hpv.out
  have HPO := Lib.hid hpo
  clear Q3 hb4 hown hpv hpo d0 HPL
  have d0 : ∀ j, w4.cell? ⟨w.heap.size, j, none⟩ = (toldCells u hu un ps pw ep ef)[j]? := blk_cell Q4.out.cur
  have e0 : ∀ j, w4.frozen? ⟨w.heap.size, j, none⟩ = false := blk_frozen Q4.out.cur
  have Q5 := Lib.hid (Q4.out.stored u1 hu un1 ps1 pw1)
  have O5 := Lib.hid (O4.out.stored HB.out u1 hu un1 ps1 pw1)
  unfold stored at Q5 O5
  go_wp2_with (fail)
  exact HK.out _ u1 un1 pw1 ps1 _ _ _ _ HPO Q5 O5
set_option maxHeartbeats 4000000 in
set_option maxRecDepth 100000 in
theorem qt_reg6 {N : Nat} {p4 p6 : Addr} (hu : Bool) (u1 : UrlB) (un1 pw1 t : ByteArray) (ps1 : Bool) (v1 : Value) (qs : List TripB) (B : Nat) (w W6 : World) (x0 x1 x2 x3 x4 x5 x7 x8 x9 x10 x11 x12 x13 x14 x15 x16 x17 x18 x19 x20 x21 x22 x23 x24 x25 x26 x27 x28 x29 x30 x31 x32 x33 x34 x35 x36 x37 x38 x39 x40 x41 x42 x43 : Value) (K : Act → World → Prop) (Q : Exit → Act → World → Prop)
    (HT : Hid (Tab w)) (HN : Hid (Net N w p4 p6)) (hN : N ≤ w.heap.size) (hpos : 0 < w.heap.size) (ht : Hid (t.data.toList = encF (plainT qs))) (htl : t.size ≤ 20000000000)
    (HQ : Hid (QUrl { u1 with rq := t } un1 pw1)) (HST : Hid (escF 1 u1.pa.data.toList ≠ [37, 50, 65])) (Q7 : Hid (QS w W6 (toldCells { u1 with rq := t } hu un1 ps1 pw1 ⟨#[]⟩ ⟨#[]⟩))) (O7 : Hid (OwnP B W6 v1 qs))
    (hK : ∀ (wx : World) (g9 : Nat) (u3 : UrlB) (a3 b3 p3 fb3 : ByteArray) (hu3 c3 : Bool) (y28 y29 y30 y31 y32 y33 : Value), Hid (wx.heap[g9]? = some (.cells (toldCells u3 hu3 a3 c3 b3 p3 fb3) 28)) → Hid (u3.rq.data.toList = encF (plainT qs) ∧ u3.rq.size ≤ 1000000000000) → Hid (Below w.heap.size w wx) → Hid (OwnP B wx v1 qs) → K ⟨#[x0, x1, x2, x3, x4, x5, .pointer (some ⟨w.heap.size, 0, none⟩), x7, x8, .pointer (some ⟨g9, 0, none⟩), .bool true, x11, x12, x13, x14, x15, x16, x17, x18, x19, x20, x21, x22, x23, x24, x25, x26, x27, y28, y29, y30, y31, y32, y33, x34, x35, x36, x37, x38, x39, x40, x41, x42, x43], []⟩ wx) :
    Code.wp Tryz.prog qtReg6 (Exit.then K Q) ⟨#[x0, x1, x2, x3, x4, x5, .pointer (some ⟨w.heap.size, 0, none⟩), x7, x8, x9, x10, x11, x12, x13, x14, x15, x16, x17, x18, x19, x20, x21, x22, x23, x24, x25, x26, x27, x28, x29, x30, x31, x32, x33, x34, x35, x36, x37, x38, x39, x40, x41, x42, x43], []⟩ W6 := by
  have HK := Lib.hid hK
  clear hK
  conv => arg 2; whnf
  have d0 : ∀ j, W6.cell? ⟨w.heap.size, j, none⟩ = (toldCells { u1 with rq := t } hu un1 ps1 pw1 ⟨#[]⟩ ⟨#[]⟩)[j]? := blk_cell Q7.out.cur
  go_wp2_with (fail)
  refine Calls.mono (istring_any { u1 with rq := t } hu un1 pw1 ps1 ⟨#[]⟩ ⟨#[]⟩ (strB (escF 1 u1.pa.data.toList)) (strB (escF 64 u1.fr.data.toList)) (if ps1 = true then pw1 else ⟨#[]⟩) (Lib.hid rfl) W6 (HT.out.up Q7.out.below hpos) (fun us => HQ.out.strH hu us) (fun us => HQ.out.strZ ps1 us)) ?_
  rintro e w6 ⟨t2, rfl, ht2, hb6⟩
  have Q8 := Lib.hid (Q7.out.up hb6)
  have O8 := Lib.hid (O7.out.below hb6)
  have HT2 : Hid (t2.data.toList = preF (refQ { u1 with rq := t } hu un1 ps1 pw1) ++ fragF (refQ { u1 with rq := t } hu un1 ps1 pw1)) := Lib.hid (HQ.out.text hu ps1 (by rw [ht2.out, strB_l, strB_l]))
  have ht2z : t2.size ≤ 20000000000000 := by have k := HQ.out.size hu ps1; rw [← HT2.out, size_len] at k; omega
  clear Q7 O7 hb6 ht2 d0
  go_wp2_with (fail)
  refine Calls.mono (iparse_big t2 (refQ { u1 with rq := t } hu un1 ps1 pw1) w6 (HT.out.up Q8.out.below hpos) (HN.out.up (Q8.out.below.mono hN)) (Nat.le_trans hN Q8.out.below.size) ht2z HT2.out (HQ.out.fine hu ps1) (HQ.out.le hu ps1) (Or.inr HST.out)) ?_
  rintro e w7 ⟨u3, hu3, a3, b3, c3, p3, fb3, rfl, htold, hb7⟩
  have Q9 := Lib.hid (Q8.out.up hb7)
  have O9 := Lib.hid (O8.out.below hb7)
  have HR : Hid (u3.rq.data.toList = encF (plainT qs) ∧ u3.rq.size ≤ 1000000000000) := Lib.hid ⟨(told_rq htold.out).trans ht.out, by have k := congrArg List.length (told_rq htold.out); rw [size_len] at k; rw [k]; show t.data.toList.length ≤ _; rw [size_len]; omega⟩
  clear Q8 O8 hb7 htold HT2
  have K9 := Lib.hid (blk_new w7 (.cells (toldCells u3 hu3 a3 c3 b3 p3 fb3) 28))
  have Q10 := Lib.hid (Q9.out.up ((Below.refl w7.heap.size w7).alloc (Nat.le_refl _) (.cells (toldCells u3 hu3 a3 c3 b3 p3 fb3) 28))).below
  have O10 := Lib.hid (O9.out.below ((Below.refl w7.heap.size w7).alloc (Nat.le_refl _) (.cells (toldCells u3 hu3 a3 c3 b3 p3 fb3) 28)))
  clear Q9 O9
  go_wp2_with (fail)
  exact HK.out _ _ u3 a3 b3 p3 fb3 hu3 c3 _ _ _ _ _ _ K9 HR Q10 O10
set_option maxHeartbeats 4000000 in
set_option maxRecDepth 100000 in
theorem FnQueryThrough_any {N : Nat} {p4 p6 : Addr} (a b : Int) (u : UrlB) (hu : Bool) (un : ByteArray) (ps : Bool) (pw ep ef : ByteArray) (v : Value) (l : List PairB) (w : World) (hT : Tab w) (h : Net N w p4 p6) (hN : N ≤ w.heap.size)
    (hv : PArg w v l) (hu1 : u.sc.size ≤ 1048576) (hu2 : u.op.size ≤ 1048576) (hu3 : un.size ≤ 1048576) (hu4 : pw.size ≤ 1048576) (hu5 : u.ho.size ≤ 1048576) (hu6 : u.pa.size ≤ 1048576) (hu7 : u.rp.size ≤ 1048576) (hu8 : u.rq.size ≤ 1048576) (hu9 : u.fr.size ≤ 1048576) (hu10 : u.rf.size ≤ 1048576)
    (hu11 : ep.size ≤ 1048576) (hu12 : ef.size ≤ 1048576) (hl : l.length ≤ 1048576) (hz : ∀ p ∈ l, p.1.size ≤ 1048576 ∧ p.2.length ≤ 1048576 ∧ ∀ y ∈ p.2, y.size ≤ 1048576) :
    Calls Tryz.prog 8 #[.int .i64 a, .int .i64 b, .agg (toldCells u hu un ps pw ep ef), v] w fun e w' => e = .returned (.bool true) ∧ Below w.heap.size w w' := by
  have HT := Lib.hid hT
  have HN := Lib.hid h
  have HV := Lib.hid hv
  have HZ := Lib.hid hz
  have hpos := hT.pos
  clear hT h hv hz
  have Q0 : Hid (QS w (w.alloc (.cells (toldCells u hu un ps pw ep ef) 28)) (toldCells u hu un ps pw ep ef)) := Lib.hid ⟨blk_new w _, (Below.refl w.heap.size w).alloc (Nat.le_refl _) _⟩
  go_enter Tryz.func8, Tryz.ntmps8
  go_upto_region 1 with (fail)
  generalize w.alloc (.cells (toldCells u hu un ps pw ep ef) 28) = W0 at *
  go_cut [18] from 11 to 18 (fun v18 wx => v18 = .bool false ∧ Hid (QS w wx (toldCells u hu un ps pw ep ef)))
  case first =>
    refine qt_reg1 u hu un ps pw ep ef v l w W0 _ _ _ _ _ _ _ _ _ _ _ _ _ _ _ _ _ _ _ _ _ _ _ _ _ _ _ _ _ _ _ _ _ _ _ _ _ _ _ _ _ _ _ _ HV (by omega) (by omega) (by omega) (by omega) (by omega) (by omega) (by omega) (by omega) (by omega) (by omega) (by omega) (by omega) hl HZ Q0 ?_
    intro wx y11 y12 y13 y14 y15 y16 y17 hQ
    dsimp only
    go_wp2
    go_meet
    case rel => exact ⟨rfl, hQ⟩
  case rest =>
    obtain ⟨rfl, Q2⟩ := hcut
    clear Q0
    go_wp2_with (fail)
    have hB : w.heap.size < wc.heap.size := (Array.getElem?_eq_some_iff.1 Q2.out.cur).1
    refine Calls.mono (pairs_any 1048576 v l wc (HV.out.below Q2.out.below) (by omega) (fun p hp => by obtain ⟨k1, k2, k3⟩ := HZ.out p hp; exact ⟨k1, by omega, k3⟩)) ?_
    rintro e w3 ⟨v1, qs, rfl, hown, hvn, hg, hb3⟩
    generalize wc.heap.size = B at hown hB
    have Q3 := Lib.hid (Q2.out.up hb3)
    have HB := Lib.hid hB
    clear Q2 hb3 HV HZ hB
    have hu6' : u.pa.size ≤ 2147483647 := by omega
    have hu8' : u.rq.size ≤ 2147483647 := by omega
    go_upto_region 4 with (fail)
    go_cut [] from 21 to 24 (fun wx => ∃ (u1 : UrlB) (un1 : ByteArray) (pw1 : ByteArray) (ps1 : Bool), Hid (PlainOf u u1 un un1 pw pw1) ∧ Hid (QS w wx (toldCells u1 hu un1 ps1 pw1 ⟨#[]⟩ ⟨#[]⟩)) ∧ Hid (OwnP B wx v1 qs))
    case first =>
      refine qt_reg4 a b u hu un ps pw ep ef v1 qs B w w3 _ _ _ _ _ _ _ _ _ _ _ _ _ _ _ _ _ _ _ _ _ _ _ _ _ _ _ _ _ _ _ _ _ _ _ _ _ _ _ _ _ _ _ hu6' hu8' Q3 hown HB ?_
      intro wx u1 un1 pw1 ps1 y21 y22 y23 y24 h1 h2 h3
      dsimp only
      go_wp2
      go_meet
      case rel => exact ⟨u1, un1, pw1, ps1, h1, h2, h3⟩
    case rest =>
      obtain ⟨u1, un1, pw1, ps1, HPO, Q5, O5⟩ := hcut
      clear Q3 hown hu6' hu8' hu1 hu2 hu5 hu7 hu8 hu10 hu11 hu12
      have hp5 : 0 < wc.heap.size := Nat.lt_of_lt_of_le hpos Q5.out.below.size
      go_wp2_with (fail)
      refine Calls.mono (iencode_any v1 qs wc (HT.out.up Q5.out.below hpos) O5.out hvn.out hg.out (by decide)) ?_
      rintro e w5 ⟨t, rfl, ht, hb5⟩
      have Q6 := Lib.hid (Q5.out.up hb5)
      have O6 := Lib.hid (O5.out.below hb5)
      clear Q5 O5 hb5 hp5
      have d0 : ∀ j, w5.cell? ⟨w.heap.size, j, none⟩ = (toldCells u1 hu un1 ps1 pw1 ⟨#[]⟩ ⟨#[]⟩)[j]? := blk_cell Q6.out.cur
      have e0 : ∀ j, w5.frozen? ⟨w.heap.size, j, none⟩ = false := blk_frozen Q6.out.cur
      have Q7 : Hid (QS w (w5.setCell ⟨w.heap.size, 10, none⟩ (.string t)) (toldCells { u1 with rq := t } hu un1 ps1 pw1 ⟨#[]⟩ ⟨#[]⟩)) := Lib.hid (Q6.out.set 10 (.string t))
      have O7 := Lib.hid (O6.out.set (a := ⟨w.heap.size, 10, none⟩) HB.out (.string t))
      go_upto_region 6 with (fail)
      clear d0 e0 Q6 O6
      generalize w5.setCell ⟨w.heap.size, 10, none⟩ (.string t) = W6 at *
      have htl : t.size ≤ 20000000000 := by have k := encF_size hg.out; rw [← ht.out, size_len] at k; omega
      have HQ : Hid (QUrl { u1 with rq := t } un1 pw1) := Lib.hid ⟨HPO.out.sc, HPO.out.op, HPO.out.ho, HPO.out.pa.1, HPO.out.rp, HPO.out.rf, HPO.out.oh, by show charsB _ true t.data.toList = true; rw [ht.out]; exact enc_chars _,
        by have k := HPO.out.pa.2; show u1.pa.size ≤ _; omega, by have k := congrArg ByteArray.size HPO.out.fr; show u1.fr.size ≤ _; omega, by have k := HPO.out.un; omega, by have k := HPO.out.pw; omega, htl⟩
      have HST : Hid (escF 1 u1.pa.data.toList ≠ [37, 50, 65]) := Lib.hid (by
        intro e
        rcases esc1_head HPO.out.pa.1 with h1 | h1 <;> rw [e] at h1
        · cases h1
        · exact absurd h1 (by decide))
      clear hu3 hu4 hu6 hu9 HPO
      go_cut [9, 10] from 28 to 33 (fun v9 v10 wx => v10 = .bool true ∧ ∃ (g9 : Nat) (u3 : UrlB) (a3 b3 p3 fb3 : ByteArray) (hu3 c3 : Bool), v9 = .pointer (some ⟨g9, 0, none⟩) ∧ Hid (wx.heap[g9]? = some (.cells (toldCells u3 hu3 a3 c3 b3 p3 fb3) 28)) ∧ Hid (u3.rq.data.toList = encF (plainT qs) ∧ u3.rq.size ≤ 1000000000000) ∧ Hid (Below w.heap.size w wx) ∧ Hid (OwnP B wx v1 qs))
      case first =>
        refine qt_reg6 hu u1 un1 pw1 t ps1 v1 qs B w W6 _ _ _ _ _ _ _ _ _ _ _ _ _ _ _ _ _ _ _ _ _ _ _ _ _ _ _ _ _ _ _ _ _ _ _ _ _ _ _ _ _ _ _ _ _ HT HN hN hpos ht htl HQ HST Q7 O7 ?_
        intro wx g9 u3 a3 b3 p3 fb3 hu3 c3 y28 y29 y30 y31 y32 y33 h1 h2 h3 h4
        dsimp only
        go_wp2
        go_meet
        case rel => exact ⟨rfl, g9, u3, a3, b3, p3, fb3, hu3, c3, rfl, h1, h2, h3, h4⟩
      case rest =>
        obtain ⟨rfl, g9, u3, a3, b3, p3, fb3, hu3, c3, rfl, K9, HR, Q10, O10⟩ := hcut
        clear Q7 O7 HQ HST ht htl
        go_wp2_with (fail)
        refine Calls.mono (works_any wc (HT.out.up Q10.out hpos) (HN.out.up (Q10.out.mono hN)) (Nat.le_trans hN Q10.out.size)) ?_
        rintro e w8 ⟨rfl, hb8⟩
        have K10 := Lib.hid (blk_below K9.out hb8 (Array.getElem?_eq_some_iff.1 K9.out).1)
        have Q11 := Lib.hid (Q10.out.trans (hb8.mono Q10.out.size))
        have O11 := Lib.hid (O10.out.below hb8)
        clear K9 Q10 O10 hb8
        have d9 : ∀ j, w8.cell? ⟨g9, j, none⟩ = (toldCells u3 hu3 a3 c3 b3 p3 fb3)[j]? := blk_cell K10.out
        go_wp2_with (fail)
        refine Calls.mono (queryOf_any 1048576 u3 hu3 a3 b3 c3 p3 fb3 (plainT qs) w8 (HT.out.up Q11.out hpos) HR.out.1 HR.out.2 (good_ne hg.out O11.out).1 (good_flat hg.out).1 (by decide) (good_flat hg.out).2 (good_srt hg.out) (good_ne hg.out O11.out).2) ?_
        rintro e w9 ⟨v9, rfl, hps, hb9⟩
        have Q12 := Lib.hid (Q11.out.trans (hb9.mono Q11.out.size))
        have O12 := Lib.hid (O11.out.below hb9)
        clear Q11 O11 hb9 d9 K10
        go_wp2_with (fail)
        refine Calls.mono (same_any v9 v1 (plainT qs) w9 hps.out ((O12.out.arg hvn.out).sl) (by have k := (good_ne hg.out O12.out).1; omega) (fun p hp => by have k := ((good_ne hg.out O12.out).2 p hp).2; omega)) ?_
        rintro e w10 ⟨rfl, hb10⟩
        have Q13 := Lib.hid (Q12.out.trans (hb10.mono Q12.out.size))
        clear Q12 O12 hb10 hps
        go_wp2
        go_ret
        exact ⟨rfl, Q13.out⟩
end Go.Proofs.YtfkgkkmcaaefnaaGreatDoor.Wk
