/-
  THE WALK of FnResolve.
-/
import Derived.Test.YtfkgkkmcaaefnaaGreatDoorI18
import Derived.Test.YtfkgkkmcaaefnaaGreatDoorJ1
import Derived.Test.YtfkgkkmcaaefnaaGreatDoorS8
import Derived.Test.YtfkgkkmcaaefnaaGreatDoorS9
import Derived.Test.YtfkgkkmcaaefnaaGreatDoorS10
set_option linter.unusedSimpArgs false
set_option linter.unusedVariables false
namespace Go.Proofs.YtfkgkkmcaaefnaaGreatDoor.Wk
open Go.RowKit Go.Proofs.YtfkgkkmcaaefnaaGreatDoor.Pu

theorem rdStep_len (p out : L) : (rdStep p out).1.length + (rdStep p out).2.length ≤ p.length + out.length := by
  have hd := dropSeg_le out
  unfold rdStep
  split
  · simp only [List.length_drop]; omega
  split
  · simp only [List.length_drop]; omega
  split
  · simp only [List.length_drop]; omega
  split
  · rename_i h; rw [h]; simp
  split
  · simp only [List.length_drop]; omega
  split
  · rename_i h; rw [h]; simp only [List.length_cons, List.length_nil]; omega
  split
  · simp
  · simp only [List.length_drop, List.length_append, List.length_take]; omega
theorem rdF_len : ∀ (k : Nat) (p out : L), (rdF k p out).length ≤ p.length + out.length
  | 0, p, out => by rw [rdF]; omega
  | k + 1, p, out => by
    rw [rdF]
    split
    · omega
    · have h1 := rdF_len k (rdStep p out).1 (rdStep p out).2
      have h2 := rdStep_len p out
      omega
theorem removeDots_len (p : L) : (removeDots p).length ≤ p.length := by
  have := rdF_len p.length p []
  unfold removeDots
  simpa using this
theorem resolve_le {b r : Ref} {n : Nat} (hb : b.le n) (hr : r.le n) : (resolveF b r).le (2 * n + 1) := by
  obtain ⟨b1, b2, b3, b4, b5⟩ := hb
  obtain ⟨r1, r2, r3, r4, r5⟩ := hr
  have l1 := removeDots_len r.pa
  have l2 := removeDots_len (47 :: r.pa)
  have l3 := removeDots_len (b.pa.take (lastSl b.pa) ++ r.pa)
  rw [List.length_cons] at l2
  rw [List.length_append, List.length_take] at l3
  unfold resolveF Ref.le
  split
  · simp only; refine ⟨?_, ?_, ?_, ?_, ?_⟩ <;> omega
  split
  · simp only; refine ⟨?_, ?_, ?_, ?_, ?_⟩ <;> omega
  split
  · simp only; refine ⟨?_, ?_, ?_, ?_, ?_⟩ <;> (try split) <;> omega
  · simp only; refine ⟨?_, ?_, ?_, ?_, ?_⟩ <;> (try split) <;> (try split) <;> omega

/-- the statement's first question -/
structure Ask1 (b r : Ref) : Prop where
  vb : validF b = true
  vr : validF r = true
  st : starF r = false
  hs : b.hs = true
  xb : exactF b = true
  xr : exactF r = true
  ha : b.ha = true
  hf : b.hf = false
structure Ask2 (b r : Ref) : Prop where
  emp : r.pa = [] → dotsB b.pa = false ∧ (r.hq = false → b.hq = true → b.qu ≠ [])
  dot : r.hs = true ∨ r.ha = true → dotsB r.pa = false
theorem meets_of {x y : L} (h1 : Ask1 (splitF x) (splitF y)) (h2 : Ask2 (splitF x) (splitF y)) (hx : x.length ≤ 2147483647) (hy : y.length ≤ 2147483647) : Meets (splitF x) (splitF y) where
  fb := fine_of h1.vb (exact_au h1.xb)
  fr := fine_of h1.vr (exact_au h1.xr)
  hs := h1.hs
  ha := h1.ha
  hf := h1.hf
  xb := h1.xb
  xr := h1.xr
  st := h1.st
  emp := h2.emp
  dot := h2.dot
  zb := by have := splitF_le x; exact ⟨by have := this.1; omega, by have := this.2.1; omega, by have := this.2.2.1; omega, by have := this.2.2.2.1; omega, by have := this.2.2.2.2; omega⟩
  zr := by have := splitF_le y; exact ⟨by have := this.1; omega, by have := this.2.1; omega, by have := this.2.2.1; omega, by have := this.2.2.2.1; omega, by have := this.2.2.2.2; omega⟩

/-- base and reference in two blocks of a call that began at w -/
structure Two (w : World) (g : Nat) (b r : RefB) (W : World) : Prop where
  kb : W.heap[g]? = some (.cells (refCells b) 25)
  kr : W.heap[g + 1]? = some (.cells (refCells r) 25)
  be : Below w.heap.size w W
  ge : w.heap.size ≤ g
theorem Two.lt {w W : World} {g : Nat} {b r : RefB} (h : Two w g b r W) : g + 1 < W.heap.size := (Array.getElem?_eq_some_iff.1 h.kr).1
theorem Two.below {w W W' : World} {g : Nat} {b r : RefB} (h : Two w g b r W) (hb : Below W.heap.size W W') : Two w g b r W' :=
  ⟨blk_below h.kb hb (by have := h.lt; omega), blk_below h.kr hb h.lt, h.be.trans (hb.mono h.be.size), h.ge⟩
theorem Two.cb {w W : World} {g : Nat} {b r : RefB} (h : Two w g b r W) : ∀ j, W.cell? ⟨g, j, none⟩ = (refCells b)[j]? := blk_cell h.kb
theorem Two.cr {w W : World} {g : Nat} {b r : RefB} (h : Two w g b r W) : ∀ j, W.cell? ⟨g + 1, j, none⟩ = (refCells r)[j]? := blk_cell h.kr

theorem RefB.le_up {r : RefB} {n m : Nat} (h : r.le n) (hm : n ≤ m) : r.le m := by
  obtain ⟨h1, h2, h3, h4, h5⟩ := h
  exact ⟨by omega, by omega, by omega, by omega, by omega⟩
theorem le_split {s : ByteArray} {r : RefB} (h : r.l = splitF s.data.toList) (hs : s.size ≤ 2147483647) : r.le 2147483647 := by
  have := splitF_le s.data.toList
  rw [← h] at this
  exact RefB.le_up this hs
theorem Two.new {w w2 : World} (b r : RefB) (h : Below w.heap.size w w2) : Two w w2.heap.size b r ((w2.alloc (.cells (refCells b) 25)).alloc (.cells (refCells r) 25)) where
  kb := blk_alloc (blk_new _ _) _
  kr := by
    have := blk_new (w2.alloc (.cells (refCells b) 25)) (.cells (refCells r) 25)
    simpa using this
  be := (h.alloc h.size _).alloc (Nat.le_trans h.size (by simp)) _
  ge := h.size
theorem pre_two (s : ByteArray) (h : 1 < s.size) : ((s.extract 0 2).toList == [47, 47]) = ([47, 47] : L).isPrefixOf s.data.toList := by
  rw [toList_data, ext_toList, List.drop_zero]
  match hs : s.data.toList, (by rw [← size_len] at h; exact h : 1 < s.data.toList.length) with
  | a :: c :: t, _ =>
    simp only [List.take_succ_cons, List.take_zero, List.isPrefixOf, Bool.and_true]
    rw [Bool.eq_iff_iff]
    simp only [beq_iff_eq, List.cons.injEq, and_true, Bool.and_eq_true]
    exact ⟨fun h => ⟨h.1.symm, h.2.symm⟩, fun h => ⟨h.1.symm, h.2.symm⟩⟩
theorem pre_short (s : ByteArray) (h : ¬ 1 < s.size) : ([47, 47] : L).isPrefixOf s.data.toList = false := by
  rw [Bool.eq_false_iff]; intro hp
  have := pre_len hp
  rw [size_len] at this
  exact h this

set_option maxHeartbeats 8000000 in
set_option maxRecDepth 100000 in
theorem FnResolve_any {N : Nat} {p4 p6 : Addr} (x y : ByteArray) (w : World) (hT : Tab w) (h : Net N w p4 p6) (hN : N ≤ w.heap.size) :
    Calls Tryz.prog 5 #[.string x, .string y] w fun e w' => e = .returned (.bool true) ∧ Below w.heap.size w w' := by
  have HT := Lib.hid hT
  have HN := Lib.hid h
  have hpos := hT.pos
  clear hT h
  by_cases hx : x.size ≤ 2147483647
  case neg =>
    have hx2 : (x.size : Int) > 2147483647 := by omega
    go_enter Tryz.func5, Tryz.ntmps5
    go_wp2
    go_ret
    exact ⟨rfl, Below.refl _ _⟩
  by_cases hy : y.size ≤ 2147483647
  case neg =>
    have hx2 : ¬ (x.size : Int) > 2147483647 := by omega
    have hy2 : (y.size : Int) > 2147483647 := by omega
    go_enter Tryz.func5, Tryz.ntmps5
    go_wp2
    go_ret
    exact ⟨rfl, Below.refl _ _⟩
  have hx2 : ¬ (x.size : Int) > 2147483647 := by omega
  have hy2 : ¬ (y.size : Int) > 2147483647 := by omega
  go_enter Tryz.func5, Tryz.ntmps5
  go_wp2_with (fail)
  refine Calls.mono (split_any x w (by omega)) ?_
  rintro e w1 ⟨b, rfl, hb, hb1⟩
  have HB := Lib.hid hb1
  clear hb1
  go_wp2_with (fail)
  refine Calls.mono (split_any y w1 (by omega)) ?_
  rintro e w2 ⟨r, rfl, hr, hb2⟩
  have HB2 := Lib.hid (HB.out.trans (hb2.mono HB.out.size))
  have ZB := Lib.hid (le_split hb.out hx)
  have ZR := Lib.hid (le_split hr.out hy)
  clear hb2 HB
  go_upto_region 4 with (fail)
  have W0 := Lib.hid (Two.new b r HB2.out)
  generalize (w2.alloc (.cells (refCells b) 25)).alloc (.cells (refCells r) 25) = wa at *
  generalize w2.heap.size = g at *
  clear HB2
  have cb := W0.out.cb
  have cr := W0.out.cr
  obtain ⟨bhs, bsc, bha, bau, bpa, bhq, bqu, bhf, bfr⟩ := b
  obtain ⟨rhs, rsc, rha, rau, rpa, rhq, rqu, rhf, rfr⟩ := r
  go_cut [57] from 22 to 56 (fun v57 wx => ∃ c : Bool, v57 = .bool c ∧ Hid (c = false → Ask1 (RefB.l ⟨bhs, bsc, bha, bau, bpa, bhq, bqu, bhf, bfr⟩) (RefB.l ⟨rhs, rsc, rha, rau, rpa, rhq, rqu, rhf, rfr⟩)) ∧ Hid (Two w g ⟨bhs, bsc, bha, bau, bpa, bhq, bqu, bhf, bfr⟩ ⟨rhs, rsc, rha, rau, rpa, rhq, rqu, rhf, rfr⟩ wx))
  case first =>
    go_wp2_with (fail)
    refine Calls.mono (valid_any ⟨bhs, bsc, bha, bau, bpa, bhq, bqu, bhf, bfr⟩ _ (RefB.le_up ZB.out (by decide))) ?_
    rintro e wx ⟨rfl, hbx⟩
    have W1 := Lib.hid (W0.out.below hbx)
    clear hbx W0 cb cr
    have cb := W1.out.cb
    have cr := W1.out.cr
    cases hq : validF (RefB.l ⟨bhs, bsc, bha, bau, bpa, bhq, bqu, bhf, bfr⟩)
    · go_wp2
      go_meet
      case rel => exact ⟨true, rfl, Lib.hid (fun h => by cases h), W1⟩
    have A1 := Lib.hid hq
    clear hq
    go_wp2_with (fail)
    refine Calls.mono (valid_any ⟨rhs, rsc, rha, rau, rpa, rhq, rqu, rhf, rfr⟩ _ (RefB.le_up ZR.out (by decide))) ?_
    rintro e wx ⟨rfl, hbx⟩
    have W2 := Lib.hid (W1.out.below hbx)
    clear hbx W1 cb cr
    have cb := W2.out.cb
    have cr := W2.out.cr
    cases hq : validF (RefB.l ⟨rhs, rsc, rha, rau, rpa, rhq, rqu, rhf, rfr⟩)
    · go_wp2
      go_meet
      case rel => exact ⟨true, rfl, Lib.hid (fun h => by cases h), W2⟩
    have A2 := Lib.hid hq
    clear hq
    go_wp2_with (fail)
    refine Calls.mono (star_any ⟨rhs, rsc, rha, rau, rpa, rhq, rqu, rhf, rfr⟩ _) ?_
    rintro e wx ⟨rfl, hbx⟩
    have W3 := Lib.hid (W2.out.below hbx)
    clear hbx W2 cb cr
    have cb := W3.out.cb
    have cr := W3.out.cr
    cases hq : starF (RefB.l ⟨rhs, rsc, rha, rau, rpa, rhq, rqu, rhf, rfr⟩)
    case true =>
      go_wp2
      go_meet
      case rel => exact ⟨true, rfl, Lib.hid (fun h => by cases h), W3⟩
    have A3 := Lib.hid hq
    clear hq
    cases bhs
    case false =>
      go_wp2
      go_meet
      case rel => exact ⟨true, rfl, Lib.hid (fun h => by cases h), W3⟩
    go_wp2_with (fail)
    refine Calls.mono (exact_any ⟨true, bsc, bha, bau, bpa, bhq, bqu, bhf, bfr⟩ _ (RefB.le_up ZB.out (by decide))) ?_
    rintro e wx ⟨rfl, hbx⟩
    have W4 := Lib.hid (W3.out.below hbx)
    clear hbx W3 cb cr
    have cb := W4.out.cb
    have cr := W4.out.cr
    cases hq : exactF (RefB.l ⟨true, bsc, bha, bau, bpa, bhq, bqu, bhf, bfr⟩)
    · go_wp2
      go_meet
      case rel => exact ⟨true, rfl, Lib.hid (fun h => by cases h), W4⟩
    have A4 := Lib.hid hq
    clear hq
    go_wp2_with (fail)
    refine Calls.mono (exact_any ⟨rhs, rsc, rha, rau, rpa, rhq, rqu, rhf, rfr⟩ _ (RefB.le_up ZR.out (by decide))) ?_
    rintro e wx ⟨rfl, hbx⟩
    have W5 := Lib.hid (W4.out.below hbx)
    clear hbx W4 cb cr
    have cb := W5.out.cb
    have cr := W5.out.cr
    cases hq : exactF (RefB.l ⟨rhs, rsc, rha, rau, rpa, rhq, rqu, rhf, rfr⟩)
    · go_wp2
      go_meet
      case rel => exact ⟨true, rfl, Lib.hid (fun h => by cases h), W5⟩
    have A5 := Lib.hid hq
    clear hq
    cases bha
    case false =>
      go_wp2
      go_meet
      case rel => exact ⟨true, rfl, Lib.hid (fun h => by cases h), W5⟩
    cases bhf
    case true =>
      go_wp2
      go_meet
      case rel => exact ⟨true, rfl, Lib.hid (fun h => by cases h), W5⟩
    go_wp2
    go_meet
    case rel => exact ⟨false, rfl, Lib.hid (fun _ => ⟨A1.out, A2.out, A3.out, rfl, A4.out, A5.out, rfl, rfl⟩), W5⟩
  case rest =>
    obtain ⟨c, rfl, HA, WA⟩ := hcut
    clear W0
    cases c
    case true =>
      go_wp2_with (fail)
      refine Calls.mono (works_any _ (HT.out.up WA.out.be hpos) (HN.out.up (WA.out.be.mono hN)) (Nat.le_trans hN WA.out.be.size)) ?_
      rintro e wx ⟨rfl, hbx⟩
      have HF := Lib.hid (WA.out.be.trans (hbx.mono WA.out.be.size))
      clear hbx
      go_wp2
      go_ret
      exact ⟨rfl, HF.out⟩
    have H1 := Lib.hid (HA.out rfl)
    clear HA
    have cb := WA.out.cb
    have cr := WA.out.cr
    go_upto_region 6 with (fail)
    go_cut [93] from 58 to 92 (fun v93 wx => ∃ c : Bool, v93 = .bool c ∧ Hid (c = false → Ask2 (RefB.l ⟨bhs, bsc, bha, bau, bpa, bhq, bqu, bhf, bfr⟩) (RefB.l ⟨rhs, rsc, rha, rau, rpa, rhq, rqu, rhf, rfr⟩)) ∧ Hid (Two w g ⟨bhs, bsc, bha, bau, bpa, bhq, bqu, bhf, bfr⟩ ⟨rhs, rsc, rha, rau, rpa, rhq, rqu, rhf, rfr⟩ wx))
    case first =>
      have zb : bpa.size ≤ 9223372036854775000 := Nat.le_trans ZB.out.2.2.1 (by decide)
      have zr : rpa.size ≤ 9223372036854775000 := Nat.le_trans ZR.out.2.2.1 (by decide)
      cases hE : rpa.toList.isEmpty
      case false =>
        have hne : rpa.data.toList ≠ [] := by rw [toList_data] at hE; intro h; rw [h] at hE; exact absurd hE (by decide)
        have EMP := Lib.hid (fun h => absurd h hne : (RefB.l ⟨rhs, rsc, rha, rau, rpa, rhq, rqu, rhf, rfr⟩).pa = [] → dotsB (RefB.l ⟨bhs, bsc, bha, bau, bpa, bhq, bqu, bhf, bfr⟩).pa = false ∧ ((RefB.l ⟨rhs, rsc, rha, rau, rpa, rhq, rqu, rhf, rfr⟩).hq = false → (RefB.l ⟨bhs, bsc, bha, bau, bpa, bhq, bqu, bhf, bfr⟩).hq = true → (RefB.l ⟨bhs, bsc, bha, bau, bpa, bhq, bqu, bhf, bfr⟩).qu ≠ []))
        obtain ⟨ne1, ne2⟩ := ba_ne hne
        clear hne
        cases rhs
        · cases rha
          · go_wp2
            go_meet
            case rel => exact ⟨false, rfl, Lib.hid (fun _ => ⟨EMP.out, fun h => by rcases h with h | h <;> cases h⟩), WA⟩
          · go_wp2_with (fail)
            refine Calls.mono (dots_any rpa _ zr) ?_
            rintro e wx ⟨rfl, hbx⟩
            have WZ := Lib.hid (WA.out.below hbx)
            clear hbx cb cr
            have cb := WZ.out.cb
            have cr := WZ.out.cr
            cases hd : dotsB rpa.data.toList
            · go_wp2
              go_meet
              case rel => exact ⟨false, rfl, Lib.hid (fun _ => ⟨EMP.out, fun _ => hd⟩), WZ⟩
            · go_wp2
              go_meet
              case rel => exact ⟨true, rfl, Lib.hid (fun h => by cases h), WZ⟩
        · go_wp2_with (fail)
          refine Calls.mono (dots_any rpa _ zr) ?_
          rintro e wx ⟨rfl, hbx⟩
          have WZ := Lib.hid (WA.out.below hbx)
          clear hbx cb cr
          have cb := WZ.out.cb
          have cr := WZ.out.cr
          cases hd : dotsB rpa.data.toList
          · go_wp2
            go_meet
            case rel => exact ⟨false, rfl, Lib.hid (fun _ => ⟨EMP.out, fun _ => hd⟩), WZ⟩
          · go_wp2
            go_meet
            case rel => exact ⟨true, rfl, Lib.hid (fun h => by cases h), WZ⟩
      case true =>
        have hre : rpa = ⟨#[]⟩ := ba_nil (by rw [toList_data] at hE; exact List.isEmpty_iff.1 hE)
        subst hre
        clear hE
        go_wp2_with (fail)
        refine Calls.mono (dots_any bpa _ zb) ?_
        rintro e wx ⟨rfl, hbx⟩
        have WB := Lib.hid (WA.out.below hbx)
        clear hbx cb cr
        have cb := WB.out.cb
        have cr := WB.out.cr
        cases hdb : dotsB bpa.data.toList
        case true =>
          go_wp2
          go_meet
          case rel => exact ⟨true, rfl, Lib.hid (fun h => by cases h), WB⟩
        cases rhq
        case true =>
          have EMP := Lib.hid (fun _ => ⟨hdb, fun h => by cases h⟩ : (RefB.l ⟨rhs, rsc, rha, rau, ⟨#[]⟩, true, rqu, rhf, rfr⟩).pa = [] → dotsB (RefB.l ⟨bhs, bsc, bha, bau, bpa, bhq, bqu, bhf, bfr⟩).pa = false ∧ ((RefB.l ⟨rhs, rsc, rha, rau, ⟨#[]⟩, true, rqu, rhf, rfr⟩).hq = false → (RefB.l ⟨bhs, bsc, bha, bau, bpa, bhq, bqu, bhf, bfr⟩).hq = true → (RefB.l ⟨bhs, bsc, bha, bau, bpa, bhq, bqu, bhf, bfr⟩).qu ≠ []))
          cases rhs
          · cases rha
            · go_wp2
              go_meet
              case rel => exact ⟨false, rfl, Lib.hid (fun _ => ⟨EMP.out, fun h => by rcases h with h | h <;> cases h⟩), WB⟩
            · go_wp2_with (fail)
              refine Calls.mono (dots_any ⟨#[]⟩ _ zr) ?_
              rintro e wx ⟨rfl, hbx⟩
              have WZ := Lib.hid (WB.out.below hbx)
              clear hbx cb cr
              have cb := WZ.out.cb
              have cr := WZ.out.cr
              cases hd : dotsB (⟨#[]⟩ : ByteArray).data.toList
              · go_wp2
                go_meet
                case rel => exact ⟨false, rfl, Lib.hid (fun _ => ⟨EMP.out, fun _ => hd⟩), WZ⟩
              · go_wp2
                go_meet
                case rel => exact ⟨true, rfl, Lib.hid (fun h => by cases h), WZ⟩
          · go_wp2_with (fail)
            refine Calls.mono (dots_any ⟨#[]⟩ _ zr) ?_
            rintro e wx ⟨rfl, hbx⟩
            have WZ := Lib.hid (WB.out.below hbx)
            clear hbx cb cr
            have cb := WZ.out.cb
            have cr := WZ.out.cr
            cases hd : dotsB (⟨#[]⟩ : ByteArray).data.toList
            · go_wp2
              go_meet
              case rel => exact ⟨false, rfl, Lib.hid (fun _ => ⟨EMP.out, fun _ => hd⟩), WZ⟩
            · go_wp2
              go_meet
              case rel => exact ⟨true, rfl, Lib.hid (fun h => by cases h), WZ⟩
        cases bhq
        case false =>
          have EMP := Lib.hid (fun _ => ⟨hdb, fun _ h => by cases h⟩ : (RefB.l ⟨rhs, rsc, rha, rau, ⟨#[]⟩, false, rqu, rhf, rfr⟩).pa = [] → dotsB (RefB.l ⟨bhs, bsc, bha, bau, bpa, false, bqu, bhf, bfr⟩).pa = false ∧ ((RefB.l ⟨rhs, rsc, rha, rau, ⟨#[]⟩, false, rqu, rhf, rfr⟩).hq = false → (RefB.l ⟨bhs, bsc, bha, bau, bpa, false, bqu, bhf, bfr⟩).hq = true → (RefB.l ⟨bhs, bsc, bha, bau, bpa, false, bqu, bhf, bfr⟩).qu ≠ []))
          cases rhs
          · cases rha
            · go_wp2
              go_meet
              case rel => exact ⟨false, rfl, Lib.hid (fun _ => ⟨EMP.out, fun h => by rcases h with h | h <;> cases h⟩), WB⟩
            · go_wp2_with (fail)
              refine Calls.mono (dots_any ⟨#[]⟩ _ zr) ?_
              rintro e wx ⟨rfl, hbx⟩
              have WZ := Lib.hid (WB.out.below hbx)
              clear hbx cb cr
              have cb := WZ.out.cb
              have cr := WZ.out.cr
              cases hd : dotsB (⟨#[]⟩ : ByteArray).data.toList
              · go_wp2
                go_meet
                case rel => exact ⟨false, rfl, Lib.hid (fun _ => ⟨EMP.out, fun _ => hd⟩), WZ⟩
              · go_wp2
                go_meet
                case rel => exact ⟨true, rfl, Lib.hid (fun h => by cases h), WZ⟩
          · go_wp2_with (fail)
            refine Calls.mono (dots_any ⟨#[]⟩ _ zr) ?_
            rintro e wx ⟨rfl, hbx⟩
            have WZ := Lib.hid (WB.out.below hbx)
            clear hbx cb cr
            have cb := WZ.out.cb
            have cr := WZ.out.cr
            cases hd : dotsB (⟨#[]⟩ : ByteArray).data.toList
            · go_wp2
              go_meet
              case rel => exact ⟨false, rfl, Lib.hid (fun _ => ⟨EMP.out, fun _ => hd⟩), WZ⟩
            · go_wp2
              go_meet
              case rel => exact ⟨true, rfl, Lib.hid (fun h => by cases h), WZ⟩
        cases hQ : bqu.toList.isEmpty
        case true =>
          have hbe : bqu = ⟨#[]⟩ := ba_nil (by rw [toList_data] at hQ; exact List.isEmpty_iff.1 hQ)
          subst hbe
          clear hQ
          go_wp2
          go_meet
          case rel => exact ⟨true, rfl, Lib.hid (fun h => by cases h), WB⟩
        have hqe : bqu.data.toList ≠ [] := by rw [toList_data] at hQ; intro h; rw [h] at hQ; exact absurd hQ (by decide)
        obtain ⟨ne1, ne2⟩ := ba_ne hqe
        have EMP := Lib.hid (fun _ => ⟨hdb, fun _ _ => hqe⟩ : (RefB.l ⟨rhs, rsc, rha, rau, ⟨#[]⟩, false, rqu, rhf, rfr⟩).pa = [] → dotsB (RefB.l ⟨bhs, bsc, bha, bau, bpa, true, bqu, bhf, bfr⟩).pa = false ∧ ((RefB.l ⟨rhs, rsc, rha, rau, ⟨#[]⟩, false, rqu, rhf, rfr⟩).hq = false → (RefB.l ⟨bhs, bsc, bha, bau, bpa, true, bqu, bhf, bfr⟩).hq = true → (RefB.l ⟨bhs, bsc, bha, bau, bpa, true, bqu, bhf, bfr⟩).qu ≠ []))
        clear hqe
        cases rhs
        · cases rha
          · go_wp2
            go_meet
            case rel => exact ⟨false, rfl, Lib.hid (fun _ => ⟨EMP.out, fun h => by rcases h with h | h <;> cases h⟩), WB⟩
          · go_wp2_with (fail)
            refine Calls.mono (dots_any ⟨#[]⟩ _ zr) ?_
            rintro e wx ⟨rfl, hbx⟩
            have WZ := Lib.hid (WB.out.below hbx)
            clear hbx cb cr
            have cb := WZ.out.cb
            have cr := WZ.out.cr
            cases hd : dotsB (⟨#[]⟩ : ByteArray).data.toList
            · go_wp2
              go_meet
              case rel => exact ⟨false, rfl, Lib.hid (fun _ => ⟨EMP.out, fun _ => hd⟩), WZ⟩
            · go_wp2
              go_meet
              case rel => exact ⟨true, rfl, Lib.hid (fun h => by cases h), WZ⟩
        · go_wp2_with (fail)
          refine Calls.mono (dots_any ⟨#[]⟩ _ zr) ?_
          rintro e wx ⟨rfl, hbx⟩
          have WZ := Lib.hid (WB.out.below hbx)
          clear hbx cb cr
          have cb := WZ.out.cb
          have cr := WZ.out.cr
          cases hd : dotsB (⟨#[]⟩ : ByteArray).data.toList
          · go_wp2
            go_meet
            case rel => exact ⟨false, rfl, Lib.hid (fun _ => ⟨EMP.out, fun _ => hd⟩), WZ⟩
          · go_wp2
            go_meet
            case rel => exact ⟨true, rfl, Lib.hid (fun h => by cases h), WZ⟩
    case rest =>
      obtain ⟨c, rfl, HA2, WC⟩ := hcut
      clear WA cb cr
      cases c
      case true =>
        go_wp2_with (fail)
        refine Calls.mono (works_any _ (HT.out.up WC.out.be hpos) (HN.out.up (WC.out.be.mono hN)) (Nat.le_trans hN WC.out.be.size)) ?_
        rintro e wx ⟨rfl, hbx⟩
        have HF := Lib.hid (WC.out.be.trans (hbx.mono WC.out.be.size))
        clear hbx
        go_wp2
        go_ret
        exact ⟨rfl, HF.out⟩
      have HM : Hid (Meets (splitF x.data.toList) (splitF y.data.toList)) := Lib.hid (by
        have h1 := H1.out
        have h2 := HA2.out rfl
        rw [hb.out, hr.out] at h1 h2
        exact meets_of h1 h2 hx hy)
      clear HA2 H1
      have cb := WC.out.cb
      have cr := WC.out.cr
      go_wp2_with (fail)
      refine Calls.mono (Resolve_any x y _ _ _ (HT.out.up WC.out.be hpos) (HN.out.up (WC.out.be.mono hN)) (Nat.le_trans hN WC.out.be.size) (by omega) (by omega) (split_eq _) (split_eq _) HM.out) ?_
      rintro e wx ⟨got, rfl, hgot, hbx⟩
      have WD := Lib.hid (WC.out.below hbx)
      clear hbx cb cr HM
      have cb := WD.out.cb
      have cr := WD.out.cr
      go_wp2_with (fail)
      refine Calls.mono (resolve_any ⟨bhs, bsc, bha, bau, bpa, bhq, bqu, bhf, bfr⟩ ⟨rhs, rsc, rha, rau, rpa, rhq, rqu, rhf, rfr⟩ _ (RefB.le_up ZB.out (by decide)) (RefB.le_up ZR.out (by decide))) ?_
      rintro e wx ⟨t, rfl, ht, hbx⟩
      have WE := Lib.hid (WD.out.be.trans (hbx.mono WD.out.be.size))
      have ZT := Lib.hid (show t.le 4294967295 from by
        have := resolve_le (RefB.le_iff _ _ |>.2 ZB.out) (RefB.le_iff _ _ |>.2 ZR.out)
        rw [← ht.out] at this
        exact this)
      have HG : Hid (([47, 47] : L).isPrefixOf t.pa.data.toList = false → got.data.toList = joinF (lowerR t.l)) := Lib.hid (by
        have := hgot.out
        rw [← hb.out, ← hr.out, ← ht.out] at this
        exact this)
      clear hbx cb cr hgot ht
      go_upto_region 10 with (fail)
      have WF := Lib.hid (WE.out.alloc WE.out.size (.cells (refCells t) 25))
      have KT := Lib.hid (blk_new wx (.cells (refCells t) 25))
      generalize wx.alloc (.cells (refCells t) 25) = wt at *
      generalize wx.heap.size = gt at *
      clear WE
      obtain ⟨ths, tsc, tha, tau, tpa, thq, tqu, thf, tfr⟩ := t
      have ct : ∀ j, wt.cell? ⟨gt, j, none⟩ = (refCells ⟨ths, tsc, tha, tau, tpa, thq, tqu, thf, tfr⟩)[j]? := blk_cell KT.out
      obtain ⟨pp, hpp⟩ : ∃ pp, pp = ([47, 47] : L).isPrefixOf tpa.data.toList := ⟨_, rfl⟩
      go_cut [113] from 104 to 112 (fun v113 wx => v113 = .bool pp ∧ wt = wx)
      case first =>
        by_cases hl : 1 < tpa.size
        · have h2 := pre_two tpa hl
          rw [← hpp] at h2
          have hl2 : (tpa.size : Int) > 1 := by omega
          have hl3 : (2 : Int) ≤ tpa.size := by omega
          clear hpp
          go_wp2
          go_meet
          case rel => exact ⟨rfl, rfl⟩
        · have h2 := pre_short tpa hl
          have hl2 : ¬ (tpa.size : Int) > 1 := by omega
          rw [h2] at hpp
          subst hpp
          clear h2
          go_wp2
          go_meet
          case rel => exact ⟨rfl, rfl⟩
      case rest =>
        obtain ⟨rfl, rfl⟩ := hcut
        have HPP := Lib.hid hpp
        clear hpp ct
        cases pp
        case true =>
          go_wp2_with (fail)
          refine Calls.mono (works_any _ (HT.out.up WF.out hpos) (HN.out.up (WF.out.mono hN)) (Nat.le_trans hN WF.out.size)) ?_
          rintro e wx ⟨rfl, hbx⟩
          have HF := Lib.hid (WF.out.trans (hbx.mono WF.out.size))
          clear hbx
          go_wp2
          go_ret
          exact ⟨rfl, HF.out⟩
        have HG2 := Lib.hid (HG.out HPP.out.symm)
        go_wp2_with (fail)
        refine Calls.mono (works_any _ (HT.out.up WF.out hpos) (HN.out.up (WF.out.mono hN)) (Nat.le_trans hN WF.out.size)) ?_
        rintro e wx ⟨rfl, hbx⟩
        have HF := Lib.hid (WF.out.trans (hbx.mono WF.out.size))
        have KT2 := Lib.hid (blk_below KT.out hbx (Array.getElem?_eq_some_iff.1 KT.out).1)
        have ct : ∀ j, wx.cell? ⟨gt, j, none⟩ = (refCells ⟨ths, tsc, tha, tau, tpa, thq, tqu, thf, tfr⟩)[j]? := blk_cell KT2.out
        clear hbx KT HG HPP
        go_wp2_with (fail)
        refine Calls.mono (lowerR_any ⟨ths, tsc, tha, tau, tpa, thq, tqu, thf, tfr⟩ _ (RefB.le_up ZT.out (by decide))) ?_
        rintro e wy ⟨s2, rfl, hs2, hby⟩
        have HF2 := Lib.hid (HF.out.trans (hby.mono HF.out.size))
        have hz2 : s2.size ≤ 4294967295 := by
          have h1 := ZT.out.1
          rw [← size_len, hs2.out, lowerL_len, size_len]; exact h1
        clear hby ct
        go_wp2_with (fail)
        refine Calls.mono (join_any ⟨ths, s2, tha, tau, tpa, thq, tqu, thf, tfr⟩ _ (RefB.le_up (n := 4294967295) ⟨hz2, ZT.out.2⟩ (by decide))) ?_
        rintro e wz ⟨t2, rfl, ht2, hbz⟩
        have HF3 := Lib.hid (HF2.out.trans (hbz.mono HF2.out.size))
        have he : t2 = got := ba_ext (by
          rw [ht2.out, HG2.out]
          unfold RefB.l lowerR
          simp only [hs2.out])
        subst he
        clear hbz ht2 HG2
        go_wp2
        go_ret
        exact ⟨rfl, HF3.out⟩
end Go.Proofs.YtfkgkkmcaaefnaaGreatDoor.Wk
