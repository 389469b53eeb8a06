/-
  THE WALK of parse, at a reference that is fine.
  THE WALKS of Parse; EscapedFragment.
-/
import Derived.Test.YtfkgkkmcaaefnaaGreatDoorI11
import Derived.Test.YtfkgkkmcaaefnaaGreatDoorQ3
set_option linter.unusedSimpArgs false
set_option linter.unusedVariables false
namespace Go.Proofs.YtfkgkkmcaaefnaaGreatDoor.Wk
open Go.RowKit Go.Proofs.YtfkgkkmcaaefnaaGreatDoor.Pu

abbrev url0 : UrlB := ⟨⟨#[]⟩, ⟨#[]⟩, .pointer none, ⟨#[]⟩, ⟨#[]⟩, ⟨#[]⟩, ⟨#[]⟩, ⟨#[]⟩, ⟨#[]⟩, false, false⟩
/-- a path as parse leaves it -/
def PathS (p : L) (pa rp : ByteArray) : Prop := (∃ pb : ByteArray, pb.data.toList = p ∧ PathOf 1 pb pa rp) ∨ (p = [42] ∧ pa = ⟨#[42]⟩ ∧ rp = ⟨#[]⟩)
def opqF (r : Ref) : Bool := r.hs && !r.ha && !decide (r.pa[0]? = some 47)
structure UrlOf (r : Ref) (u : UrlB) (w : World) (B : Nat) : Prop where
  sc : u.sc.data.toList = lowerL r.sc
  rq : u.rq.data.toList = r.qu
  fq : u.fq = (r.hq && decide (r.qu = []))
  opq : opqF r = true → u.op.data.toList = r.pa ∧ u.pa = ⟨#[]⟩ ∧ u.rp = ⟨#[]⟩ ∧ u.ho = ⟨#[]⟩ ∧ u.us = .pointer none ∧ u.oh = false
  hie : opqF r = false → u.op = ⟨#[]⟩ ∧ u.ho.data.toList = (authF r.au).ho ∧ UserAt B w u.us (authF r.au).hu (authF r.au).us ∧ PathS r.pa u.pa u.rp ∧ u.oh = (r.hs && !r.ha && decide (r.pa[0]? = some 47))

theorem star_pre {r : Ref} (h : preF r = [42]) : r.hs = false ∧ r.ha = false ∧ r.hq = false ∧ r.pa = [42] := by
  unfold preF restF hierF tailF at h
  cases hs : r.hs with
  | true =>
    rw [hs, if_pos rfl] at h
    have := congrArg (fun l : L => (58 : UInt8) ∈ l) h
    simp at this
  | false =>
    rw [hs] at h
    simp only [Bool.false_eq_true, if_false, List.nil_append] at h
    cases ha : r.ha with
    | true => rw [ha] at h; simp at h
    | false =>
      rw [ha] at h
      simp only [Bool.false_eq_true, if_false, List.nil_append] at h
      cases hq : r.hq with
      | true =>
        rw [hq, if_pos rfl] at h
        have := congrArg (fun l : L => (63 : UInt8) ∈ l) h
        simp at this
      | false => rw [hq] at h; exact ⟨rfl, rfl, rfl, by simpa using h⟩
theorem lower_same (l : L) : Lib.toLowerA l = lowerL l := by
  unfold Lib.toLowerA lowerL
  congr 1
  funext b
  unfold Lib.lowerB lowerC Lib.isUpperB
  simp only [Bool.and_eq_true, decide_eq_true_eq, UInt8.le_iff_toNat_le]
  rfl
theorem auth_nil : authF [] = ⟨false, [], [], true⟩ := by rfl

theorem UserAt.mono {B B' : Nat} {w : World} {up : Value} {hu : Bool} {us : L} (h : UserAt B' w up hu us) (hB : B ≤ B') : UserAt B w up hu us := by
  rcases h with h | ⟨h1, g, un, pw, ps, h2, h3, h4⟩
  · exact Or.inl h
  · exact Or.inr ⟨h1, g, un, pw, ps, h2, Nat.le_trans hB h3, h4⟩
theorem UserAt.set {B g : Nat} {w : World} {up : Value} {hu : Bool} {us : L} (h : UserAt B w up hu us) (hg : g < B) (i : Nat) (v : Value) : UserAt B (w.setCell ⟨g, i, none⟩ v) up hu us := by
  rcases h with h | ⟨h1, g2, un, pw, ps, h2, h3, h4, h5⟩
  · exact Or.inl h
  · exact Or.inr ⟨h1, g2, un, pw, ps, h2, h3, blk_far h4 _ _ (by omega), h5⟩
theorem UserAt.upd {B g : Nat} {w w' : World} {up : Value} {hu : Bool} {us : L} (h : UserAt B w up hu us) (hg : g < B) (hu' : Upd g w w') : UserAt B w' up hu us := by
  rcases h with h | ⟨h1, g2, un, pw, ps, h2, h3, h4, h5⟩
  · exact Or.inl h
  · exact Or.inr ⟨h1, g2, un, pw, ps, h2, h3, by rw [hu'.keep g2 (Array.getElem?_eq_some_iff.1 h4).1 (by omega)]; exact h4, h5⟩
theorem pre2 {r : Ref} (h : Fine r) : ([47, 47] : L).isPrefixOf (hierF r) = r.ha := by
  unfold hierF
  cases ha : r.ha with
  | true => rfl
  | false => exact (h.nau ha).2.1
theorem pre3 {r : Ref} (h : Fine r) (hs : r.hs = false) (h3 : ([47, 47, 47] : L).isPrefixOf (hierF r) = true) : r.ha = false := by
  cases ha : r.ha with
  | false => rfl
  | true =>
    exfalso
    unfold hierF at h3
    rw [ha, if_pos rfl] at h3
    have hne : r.au ≠ [] := by
      rcases h.emp ha with h | h
      · rw [hs] at h; cases h
      · exact h
    cases hau : r.au with
    | nil => exact hne hau
    | cons a t =>
      rw [hau] at h3
      have : a = 47 := by simp [List.isPrefixOf] at h3; exact h3.symm
      have := (auth_good (h.aut ha).1 a (by rw [hau]; simp)).2.2.2
      apply this; rw [‹a = 47›]; rfl
set_option maxHeartbeats 16000000 in
set_option maxRecDepth 100000 in
theorem parse_any {N : Nat} {p4 p6 : Addr} (x : ByteArray) (r : Ref) (w : World) (hT : Tab w) (h : Net N w p4 p6) (hN : N ≤ w.heap.size) (hs : x.size ≤ 20000000000000) (hx : x.data.toList = preF r) (hf : Fine r) :
    Calls Tryz.prog 57 #[.string x, .bool false] w fun e w' => e = .returned (.tuple #[ptr w.heap.size, .nilIface]) ∧ ∃ u, w'.heap[w.heap.size]? = some (urlObj u) ∧ u.fr = ⟨#[]⟩ ∧ u.rf = ⟨#[]⟩ ∧ Hid (UrlOf r u w' w.heap.size) ∧ Below w.heap.size w w' := by
  have HX := Lib.hid hx
  have HF := Lib.hid hf
  have HT := Lib.hid hT
  have HN := Lib.hid h
  have hN0 : 0 < N := by have := h.l7; omega
  have hctl : x.data.toList.all (fun c => !ctlN c.toNat) = true := List.all_eq_true.2 fun c hc => by rw [hx] at hc; rw [(pre_good hf c hc).1]; rfl
  have HCTL := Lib.hid hctl
  have HB := Lib.hid ((Below.refl w.heap.size w).alloc (Nat.le_refl _) (urlObj url0))
  have HK := Lib.hid (blk_new w (urlObj url0))
  clear hx hf hT h hctl
  go_enter Tryz.func57, Tryz.ntmps57
  go_wp2_with (fail)
  refine Calls.mono (ctl_any x w (by omega) HCTL.out) ?_
  rintro e w1 ⟨rfl, rfl⟩
  go_upto_region 5 with (fail)
  go_cut [22] from 18 to 21 (fun v22 wx => v22 = .bool false ∧ w = wx)
  case first =>
    cases hE : x.toList.isEmpty
    all_goals
      go_wp2
      all_goals
        go_meet
        case rel => exact ⟨rfl, rfl⟩
  case rest =>
    obtain ⟨rfl, rfl⟩ := hcut
    have HTW := Lib.hid (HT.out.up HB.out (by omega))
    go_upto_region 8 with (fail)
    generalize w.alloc (urlObj url0) = W at *
    go_upto_if 26 with (fail)
    cases hE : (x.toList == [42])
    rotate_left
    · have hxe : x.data.toList = [42] := by rw [toList_data] at hE; exact eq_of_beq hE
      have hst := star_pre (HX.out.symm.trans hxe)
      have HST := Lib.hid hst
      have c4 : W.cell? ⟨w.heap.size, 4, none⟩ = some (.string ⟨#[]⟩) := blk_cell HK.out 4
      have f4 : W.frozen? ⟨w.heap.size, 4, none⟩ = false := blk_frozen HK.out 4
      clear hE hxe hst
      go_wp2
      go_ret2
      obtain ⟨e1, e2, e3, e4⟩ := HST.out
      obtain ⟨n1, _, _⟩ := HF.out.nau e2
      refine ⟨rfl, { url0 with pa := ⟨#[42]⟩ }, blk_set HK.out 4 _, rfl, rfl, Lib.hid ⟨?_, ?_, ?_, ?_, ?_⟩, Below.setCell (p := ⟨w.heap.size, 4, none⟩) HB.out (Nat.le_refl _) _⟩
      · rw [HF.out.nsc e1]; rfl
      · rw [HF.out.nqu e3]
      · rw [e3]; rfl
      · intro h; unfold opqF at h; rw [e1] at h; simp at h
      · intro _
        refine ⟨rfl, by rw [n1, auth_nil], Or.inl ⟨by rw [n1, auth_nil], rfl⟩, Or.inr ⟨e4, rfl, rfl⟩, by rw [e1]; rfl⟩
    · have hxne : x.data.toList ≠ [42] := by rw [toList_data] at hE; intro h; rw [h] at hE; exact absurd hE (by decide)
      clear hE HCTL
      go_upto_region 11 with (fail)
      go_cut [6, 7] from 31 to 39 (fun v6 v7 wx => ∃ (rs sb : ByteArray), v6 = .string rs ∧ v7 = .nilIface ∧ rs.size ≤ x.size ∧ sb.size ≤ x.size ∧ Hid (rs.data.toList = restF r) ∧ Hid (sb.data.toList = r.sc) ∧ Hid (wx.heap[w.heap.size]? = some (urlObj { url0 with sc := sb })) ∧ Hid (Below w.heap.size w wx))
      case first =>
        cases hhs : r.hs
        · have hxr : x.data.toList = restF r := by rw [HX.out]; unfold preF; rw [hhs]; rfl
          go_wp2_with (fail)
          refine Calls.mono (getScheme_no x _ (by omega) (by rw [hxr]; exact no_scheme HF.out hhs)) ?_
          rintro e w2 ⟨rfl, hb2⟩
          have K2 := Lib.hid (blk_below HK.out hb2 (Array.getElem?_eq_some_iff.1 HK.out).1)
          have HB2 := Lib.hid (bt HB.out hb2)
          have c0 : w2.cell? ⟨w.heap.size, 0, none⟩ = some (.string ⟨#[]⟩) := blk_cell K2.out 0
          have f0 : w2.frozen? ⟨w.heap.size, 0, none⟩ = false := blk_frozen K2.out 0
          have HXR := Lib.hid hxr
          clear hb2 hxr
          go_wp2
          go_meet
          case rel => exact ⟨x, ⟨#[]⟩, rfl, rfl, Nat.le_refl _, Nat.zero_le _, HXR, Lib.hid (by rw [HF.out.nsc hhs]), Lib.hid (blk_set K2.out 0 _), Lib.hid (Below.setCell (p := ⟨w.heap.size, 0, none⟩) HB2.out (Nat.le_refl _) _)⟩
        · have hn : x.data.toList = r.sc ++ 58 :: restF r := by rw [HX.out]; unfold preF; rw [hhs]; simp
          have hsz : r.sc.length < x.size := by rw [← size_len, hn]; simp
          have htk : x.data.toList.take r.sc.length = r.sc := by rw [hn, List.take_left]
          have h58 : x.data.toList[r.sc.length]? = some 58 := by rw [hn, List.getElem?_append_right (Nat.le_refl _), Nat.sub_self]; rfl
          have hx1 : (x.extract 0 r.sc.length).data.toList = r.sc := by rw [ext_toList, htk, List.drop_zero]
          have hx2 : (x.extract (r.sc.length + 1) x.size).data.toList = restF r := by
            rw [ext_toList, ← size_len, List.take_length, hn, show r.sc.length + 1 = (r.sc ++ [58]).length by simp, show r.sc ++ 58 :: restF r = (r.sc ++ [58]) ++ restF r by simp, List.drop_left]
          have hz2 : (x.extract (r.sc.length + 1) x.size).size ≤ x.size := ext_size _ _ _
          have hz1 : (x.extract 0 r.sc.length).size ≤ x.size := ext_size _ _ _
          have HX1 := Lib.hid hx1
          have HX2 := Lib.hid hx2
          have HTK := Lib.hid htk
          have H58 := Lib.hid h58
          clear hn htk h58 hx1 hx2
          go_wp2_with (fail)
          refine Calls.mono (getScheme_yes x r.sc.length _ (by omega) hsz (by rw [HTK.out]; exact HF.out.sch hhs) H58.out) ?_
          rintro e w2 ⟨rfl, hb2⟩
          generalize x.extract 0 r.sc.length = sb at *
          generalize x.extract (r.sc.length + 1) x.size = rs at *
          have K2 := Lib.hid (blk_below HK.out hb2 (Array.getElem?_eq_some_iff.1 HK.out).1)
          have HB2 := Lib.hid (bt HB.out hb2)
          have c0 : w2.cell? ⟨w.heap.size, 0, none⟩ = some (.string ⟨#[]⟩) := blk_cell K2.out 0
          have f0 : w2.frozen? ⟨w.heap.size, 0, none⟩ = false := blk_frozen K2.out 0
          clear hb2
          go_wp2
          go_meet
          case rel => exact ⟨rs, sb, rfl, rfl, hz2, hz1, HX2, HX1, Lib.hid (blk_set K2.out 0 _), Lib.hid (Below.setCell (p := ⟨w.heap.size, 0, none⟩) HB2.out (Nat.le_refl _) _)⟩
      case rest =>
        obtain ⟨rs, sb, rfl, rfl, hrz, hsbz, HR, HSB, K2, HB2⟩ := hcut
        clear HK HB HTW
        have c0 : wc.cell? ⟨w.heap.size, 0, none⟩ = some (.string sb) := blk_cell K2.out 0
        go_wp2_with (fail)
        refine Calls.mono (Tryz.strings_ToLower_ascii sb _ (by omega) (fun j c hj => by
          rw [HSB.out] at hj
          cases hhs : r.hs
          · rw [HF.out.nsc hhs] at hj; simp at hj
          · exact (st_ctl c (sch_tail (HF.out.sch hhs) c (List.mem_of_getElem? hj))).2.2.2.2.2)) ?_
        rintro e w3 ⟨rfl, hb3⟩
        have K3 := Lib.hid (blk_below K2.out hb3 (Array.getElem?_eq_some_iff.1 K2.out).1)
        have HB3 := Lib.hid (bt HB2.out hb3)
        have hlo : Lib.toLowerA sb.data.toList = lowerL r.sc := by rw [HSB.out, lower_same]
        rw [hlo]
        have d0 : w3.cell? ⟨w.heap.size, 0, none⟩ = some (.string sb) := blk_cell K3.out 0
        have f0 : w3.frozen? ⟨w.heap.size, 0, none⟩ = false := blk_frozen K3.out 0
        clear hb3 c0 hlo
        obtain ⟨lo, hlo⟩ : ∃ lo : ByteArray, lo = ⟨(lowerL r.sc).toArray⟩ := ⟨_, rfl⟩
        rw [← hlo]
        have HLO := Lib.hid (show lo.data.toList = lowerL r.sc by rw [hlo])
        have K4 := Lib.hid (blk_set K3.out 0 (.string lo))
        have HB4 := Lib.hid (Below.setCell (p := ⟨w.heap.size, 0, none⟩) HB3.out (Nat.le_refl _) (.string lo))
        clear hlo K2 HB2
        go_upto_region 15 with (fail)
        generalize w3.setCell ⟨w.heap.size, 0, none⟩ (.string lo) = W4 at *
        have K4 := Lib.hid (show W4.heap[w.heap.size]? = some (urlObj { url0 with sc := lo }) from K4.out)
        clear K3 HB3 d0 f0 HSB hsbz
        go_cut [57] from 51 to 56 (fun v57 wx => v57 = .bool (r.hq && decide (r.qu = [])) ∧ W4 = wx)
        case first =>
          have hforce := force_iff HF.out
          rw [← HR.out] at hforce
          cases hsuf : ([63] : L).isSuffixOf rs.data.toList
          · have HFO := Lib.hid (show (r.hq && decide (r.qu = [])) = false by rw [← hforce, hsuf]; rfl)
            have HSUF := Lib.hid (show Lib.hasSuffix rs.data.toList [63] = false from hsuf)
            clear hforce hsuf
            go_wp2_with (fail)
            refine Calls.mono (Tryz.strings_HasSuffix rs ⟨#[63]⟩ _ (by omega)) ?_
            rintro e w5 ⟨rfl, rfl⟩
            rw [show Lib.hasSuffix rs.data.toList (⟨#[63]⟩ : ByteArray).data.toList = false from HSUF.out]
            go_wp2
            go_meet
            case rel => exact ⟨by rw [HFO.out], rfl⟩
          · have HFO := Lib.hid (show (r.hq && decide (r.qu = [])) = (((rs.data.toList.count 63 : Nat) : Int) == 1) by
              rw [← hforce, hsuf, Bool.true_and, Bool.eq_iff_iff, decide_eq_true_iff, beq_iff_eq]; omega)
            have HSUF := Lib.hid (show Lib.hasSuffix rs.data.toList [63] = true from hsuf)
            clear hforce hsuf
            go_wp2_with (fail)
            refine Calls.mono (Tryz.strings_HasSuffix rs ⟨#[63]⟩ _ (by omega)) ?_
            rintro e w5 ⟨rfl, rfl⟩
            rw [show Lib.hasSuffix rs.data.toList (⟨#[63]⟩ : ByteArray).data.toList = true from HSUF.out]
            go_wp2_with (fail)
            refine Calls.mono (count_any rs 63 _ (by omega)) ?_
            rintro e w6 ⟨rfl, rfl⟩
            generalize rs.data.toList.count 63 = cnt at *
            go_wp2
            go_meet
            case rel => exact ⟨by rw [HFO.out], rfl⟩
        case rest =>
          obtain ⟨rfl, rfl⟩ := hcut
          go_upto_if 57 with (fail)
          go_cut [6] from 57 to 74 (fun v6 wx => ∃ hb qb : ByteArray, v6 = .string hb ∧ hb.size ≤ x.size ∧ Hid (hb.data.toList = hierF r) ∧ Hid (qb.data.toList = r.qu) ∧ Hid (wx.heap[w.heap.size]? = some (urlObj { url0 with sc := lo, rq := qb, fq := (r.hq && decide (r.qu = [])) })) ∧ Hid (Below w.heap.size w wx))
          case first =>
            cases hfq : (r.hq && decide (r.qu = []))
            · have c6 : W4.cell? ⟨w.heap.size, 6, none⟩ = some (.string ⟨#[]⟩) := blk_cell K4.out 6
              have HFQ := Lib.hid hfq
              clear hfq
              go_wp2_with (fail)
              refine Calls.mono (zzCut_one rs 63 _ (by omega)) ?_
              rintro e w5 ⟨a, b, f, rfl, hcf, hza, hzb, hb5⟩
              have hc2 := hcf.out
              rw [HR.out, cutQ HF.out] at hc2
              simp only [Prod.mk.injEq] at hc2
              have HA := Lib.hid hc2.1.symm
              have HQ := Lib.hid hc2.2.1.symm
              have K5 := Lib.hid (blk_below K4.out hb5 (Array.getElem?_eq_some_iff.1 K4.out).1)
              have HB5 := Lib.hid (bt HB4.out hb5)
              have d6 : w5.cell? ⟨w.heap.size, 6, none⟩ = some (.string ⟨#[]⟩) := blk_cell K5.out 6
              have f6 : w5.frozen? ⟨w.heap.size, 6, none⟩ = false := blk_frozen K5.out 6
              clear hb5 hc2 hcf c6
              go_wp2
              go_meet
              case rel => exact ⟨a, b, rfl, by omega, HA, HQ, Lib.hid (by first | exact blk_set K5.out 6 _ | (rw [HFQ.out]; exact blk_set K5.out 6 _)), Lib.hid (Below.setCell (p := ⟨w.heap.size, 6, none⟩) HB5.out (Nat.le_refl _) _)⟩
            · have hfq2 := hfq
              rw [Bool.and_eq_true, decide_eq_true_iff] at hfq2
              have hre : rs.data.toList = hierF r ++ [63] := by rw [HR.out]; unfold restF tailF; rw [hfq2.1, hfq2.2]; rfl
              have hsz1 : 1 ≤ rs.size := by rw [← size_len, hre]; simp
              have hxt : (rs.extract 0 (rs.size - 1)).data.toList = hierF r := by
                rw [ext_toList, List.drop_zero, ← size_len, hre]; simp
              have hzt : (rs.extract 0 (rs.size - 1)).size ≤ x.size := Nat.le_trans (ext_size _ _ _) hrz
              have hw1 : ((rs.size : Int) - 1).toNat = rs.size - 1 := by omega
              have HXT := Lib.hid hxt
              have HQE := Lib.hid hfq2.2
              have HFT := Lib.hid hfq
              have c9 : W4.cell? ⟨w.heap.size, 9, none⟩ = some (.bool false) := blk_cell K4.out 9
              have f9 : W4.frozen? ⟨w.heap.size, 9, none⟩ = false := blk_frozen K4.out 9
              clear hfq hfq2 hre hxt
              go_wp2
              go_meet
              case rel => exact ⟨_, ⟨#[]⟩, rfl, hzt, HXT, Lib.hid HQE.out.symm, Lib.hid (by first | exact blk_set K4.out 9 _ | (rw [HFT.out]; exact blk_set K4.out 9 _)), Lib.hid (Below.setCell (p := ⟨w.heap.size, 9, none⟩) HB4.out (Nat.le_refl _) _)⟩
          case rest =>
            obtain ⟨hb, qb, rfl, hhz, HH, HQ, K5, HB5⟩ := hcut
            clear K4 HB4 hrz HR HX
            go_wp2_with (fail)
            refine Calls.mono (Tryz.strings_HasPrefix hb ⟨#[47]⟩ _) ?_
            rintro e w6 ⟨rfl, rfl⟩
            have hpe : Lib.hasPrefix hb.data.toList (⟨#[47]⟩ : ByteArray).data.toList = decide ((hierF r)[0]? = some 47) := by
              rw [HH.out]
              show ([47] : L).isPrefixOf (hierF r) = _
              cases hierF r with
              | nil => rfl
              | cons a t => simp [List.isPrefixOf]; rw [Bool.eq_iff_iff, beq_iff_eq, decide_eq_true_iff]; exact eq_comm
            rw [hpe]
            clear hpe
            obtain ⟨pb, hpb⟩ : ∃ pb, pb = decide ((hierF r)[0]? = some 47) := ⟨_, rfl⟩
            rw [← hpb]
            have HPB := Lib.hid hpb
            clear hpb
            go_upto_if 77 with (fail)
            go_cut [9, 10, 11] from 77 to 98 (fun v9 v10 v11 wx => (pb = true ∨ r.hs = false) ∧ wx.heap[w.heap.size]? = some (urlObj { url0 with sc := lo, rq := qb, fq := (r.hq && decide (r.qu = [])) }) ∧ Below w.heap.size w wx)
            case first =>
              cases pb
              · have hne : (hierF r)[0]? ≠ some 47 := of_decide_eq_false HPB.out.symm
                have hnha : r.ha = false := by
                  cases ha : r.ha with
                  | false => rfl
                  | true => exact absurd (by unfold hierF; rw [ha]; rfl) hne
                have hhp : hierF r = r.pa := by unfold hierF; rw [hnha]; rfl
                have c0 : w6.cell? ⟨w.heap.size, 0, none⟩ = some (.string lo) := blk_cell K5.out 0
                cases hhs : r.hs
                · have hlo : lo = ⟨#[]⟩ := ba_nil (by rw [HLO.out, HF.out.nsc hhs]; rfl)
                  have HHS := Lib.hid hhs
                  have HHP := Lib.hid hhp
                  have HNH := Lib.hid hnha
                  subst hlo
                  clear hne hhp hhs hnha
                  go_wp2_with (fail)
                  refine Calls.mono (zzCut_one hb 47 _ (by omega)) ?_
                  rintro e w7 ⟨a, b, f, rfl, hcf, hza, hzb, hb7⟩
                  have hseg : hasC 58 a.data.toList = false := by
                    have hor := (HF.out.nau HNH.out).2.2
                    rw [HHS.out] at hor
                    have hidx : idx [58] (r.pa.take (idx [47] r.pa)) = idx [47] r.pa := by simpa using hor
                    have hc2 := hcf.out
                    rw [HH.out, HHP.out] at hc2
                    have hle := idx_le [47] r.pa
                    have ha : a.data.toList = r.pa.take (idx [47] r.pa) := by
                      unfold cutF at hc2
                      split at hc2
                      · simp only [Prod.mk.injEq] at hc2; exact hc2.1.symm
                      · simp only [Prod.mk.injEq] at hc2; rw [← hc2.1, List.take_of_length_le (by omega)]
                    unfold hasC
                    rw [ha, hidx, decide_eq_false_iff_not, List.length_take]; omega
                  have K7 := Lib.hid (blk_below K5.out hb7 (Array.getElem?_eq_some_iff.1 K5.out).1)
                  have HB7 := Lib.hid (bt HB5.out hb7)
                  clear hb7 hcf c0
                  go_wp2_with (fail)
                  refine Calls.mono (zzContains_one a 58 _ (by omega)) ?_
                  rintro e w8 ⟨rfl, rfl⟩
                  rw [hseg]
                  go_wp2
                  go_meet
                  case rel => exact ⟨Or.inr HHS.out, K7.out, HB7.out⟩
                · have hlone : lo.data.toList ≠ [] := by
                    rw [HLO.out]
                    intro h
                    have : r.sc = [] := by unfold lowerL at h; simpa using h
                    have h2 := HF.out.sch hhs
                    rw [this] at h2; exact absurd h2 (by decide)
                  have hn1 : (lo.toList == []) = false := by rw [toList_data, Bool.eq_false_iff]; intro h; exact hlone (eq_of_beq h)
                  have hn2 : lo.toList.isEmpty = false := by rw [toList_data, Bool.eq_false_iff]; intro h; exact hlone (List.isEmpty_iff.1 h)
                  have hop : opqF r = true := by unfold opqF; rw [hhs, hnha, ← hhp, decide_eq_false hne]; rfl
                  have HOP := Lib.hid hop
                  have HHP := Lib.hid hhp
                  have c1 : w6.cell? ⟨w.heap.size, 1, none⟩ = some (.string ⟨#[]⟩) := blk_cell K5.out 1
                  have f1 : w6.frozen? ⟨w.heap.size, 1, none⟩ = false := blk_frozen K5.out 1
                  clear hne hhp hhs hnha hlone hop
                  go_wp2
                  go_ret2
                  refine ⟨rfl, { url0 with sc := lo, op := hb, rq := qb, fq := (r.hq && decide (r.qu = [])) }, blk_set K5.out 1 _, rfl, rfl, Lib.hid ⟨HLO.out, HQ.out, rfl, ?_, ?_⟩, Below.setCell (p := ⟨w.heap.size, 1, none⟩) HB5.out (Nat.le_refl _) _⟩
                  · intro _
                    exact ⟨by rw [← HHP.out]; exact HH.out, rfl, rfl, rfl, rfl, rfl⟩
                  · intro h; rw [HOP.out] at h; exact absurd h (by decide)
              · go_wp2
                go_meet
                case rel => exact ⟨Or.inl (by first | rfl | trivial), K5.out, HB5.out⟩
            case rest =>
              obtain ⟨hor, k6, hb6⟩ := hcut
              have HOR := Lib.hid hor
              have K6 := Lib.hid k6
              have HB6 := Lib.hid hb6
              clear hor k6 hb6 K5 HB5
              go_upto_region 28 with (fail)
              go_cut [116] from 99 to 115 (fun v116 wx => v116 = .bool r.ha ∧ wc = wx)
              case first =>
                have c0 : wc.cell? ⟨w.heap.size, 0, none⟩ = some (.string lo) := blk_cell K6.out 0
                have hp2 : Lib.hasPrefix hb.data.toList (⟨#[47, 47]⟩ : ByteArray).data.toList = r.ha := by rw [HH.out]; exact pre2 HF.out
                have HP2 := Lib.hid hp2
                clear hp2
                cases hhs : r.hs
                · have hlo : lo = ⟨#[]⟩ := ba_nil (by rw [HLO.out, HF.out.nsc hhs]; rfl)
                  subst hlo
                  obtain ⟨b3, hb3⟩ : ∃ b3, b3 = Lib.hasPrefix hb.data.toList (⟨#[47, 47, 47]⟩ : ByteArray).data.toList := ⟨_, rfl⟩
                  have HB3 := Lib.hid hb3
                  have H3 := Lib.hid (show b3 = true → r.ha = false from fun h => pre3 HF.out hhs (by rw [hb3, HH.out] at h; exact h))
                  clear hb3
                  go_wp2_with (fail)
                  refine Calls.mono (Tryz.strings_HasPrefix hb ⟨#[47, 47, 47]⟩ _) ?_
                  rintro e w8 ⟨rfl, rfl⟩
                  rw [← HB3.out]
                  cases b3
                  · go_wp2_with (fail)
                    refine Calls.mono (Tryz.strings_HasPrefix hb ⟨#[47, 47]⟩ _) ?_
                    rintro e w9 ⟨rfl, rfl⟩
                    rw [HP2.out]
                    go_wp2
                    go_meet
                    case rel => exact ⟨rfl, rfl⟩
                  · have HNA := Lib.hid (H3.out rfl)
                    go_wp2
                    go_meet
                    case rel => exact ⟨by rw [HNA.out], rfl⟩
                · have hlone : lo.data.toList ≠ [] := by
                    rw [HLO.out]
                    intro h
                    have : r.sc = [] := by unfold lowerL at h; simpa using h
                    have h2 := HF.out.sch hhs
                    rw [this] at h2; exact absurd h2 (by decide)
                  have hn1 : (lo.toList == []) = false := by rw [toList_data, Bool.eq_false_iff]; intro h; exact hlone (eq_of_beq h)
                  have hn2 : lo.toList.isEmpty = false := by rw [toList_data, Bool.eq_false_iff]; intro h; exact hlone (List.isEmpty_iff.1 h)
                  clear hlone
                  go_wp2_with (fail)
                  refine Calls.mono (Tryz.strings_HasPrefix hb ⟨#[47, 47]⟩ _) ?_
                  rintro e w9 ⟨rfl, rfl⟩
                  rw [HP2.out]
                  go_wp2
                  go_meet
                  case rel => exact ⟨rfl, rfl⟩
              case rest =>
                obtain ⟨rfl, rfl⟩ := hcut
                have HNop := Lib.hid (show opqF r = false by
                  rcases HOR.out with h | h
                  · have h2 := of_decide_eq_true (HPB.out.symm.trans h)
                    unfold opqF
                    cases hhs : r.hs
                    · rfl
                    · cases ha : r.ha
                      · have : hierF r = r.pa := by unfold hierF; rw [ha]; rfl
                        rw [← this, decide_eq_true h2]; rfl
                      · rfl
                  · unfold opqF; rw [h]; rfl)
                clear HOR HPB
                go_upto_if 116 with (fail)
                go_cut [6, 7, 12, 13] from 116 to 159 (fun v6 v7 v12 v13 wx => ∃ (pb hob : ByteArray) (up : Value) (oh : Bool), v6 = .string pb ∧ pb.size ≤ x.size ∧ Hid (pb.data.toList = r.pa) ∧ Hid (hob.data.toList = (authF r.au).ho) ∧ Hid (UserAt (w.heap.size + 1) wx up (authF r.au).hu (authF r.au).us) ∧ Hid (oh = (r.hs && !r.ha && decide (r.pa[0]? = some 47))) ∧ Hid (wx.heap[w.heap.size]? = some (urlObj { url0 with sc := lo, us := up, ho := hob, rq := qb, fq := (r.hq && decide (r.qu = [])), oh := oh })) ∧ Hid (Below w.heap.size w wx))
                case first =>
                  cases hha : r.ha
                  · have hhp : hierF r = r.pa := by unfold hierF; rw [hha]; rfl
                    have hpb : hb.data.toList = r.pa := by rw [HH.out, hhp]
                    have hau : r.au = [] := (HF.out.nau hha).1
                    have HPB := Lib.hid hpb
                    have HAU := Lib.hid hau
                    have HHA := Lib.hid hha
                    have c0 : wc.cell? ⟨w.heap.size, 0, none⟩ = some (.string lo) := blk_cell K6.out 0
                    clear hhp hpb hau
                    cases hhs : r.hs
                    · have hlo : lo = ⟨#[]⟩ := ba_nil (by rw [HLO.out, HF.out.nsc hhs]; rfl)
                      subst hlo
                      go_wp2
                      go_meet
                      case rel => exact ⟨hb, ⟨#[]⟩, .pointer none, false, rfl, hhz, HPB, Lib.hid (by rw [HAU.out, auth_nil]), Lib.hid (by rw [HAU.out, auth_nil]; exact Or.inl ⟨rfl, rfl⟩), Lib.hid (by rw [hhs]; rfl), K6, HB6⟩
                    · have hlone : lo.data.toList ≠ [] := by
                        rw [HLO.out]
                        intro h
                        have : r.sc = [] := by unfold lowerL at h; simpa using h
                        have h2 := HF.out.sch hhs
                        rw [this] at h2; exact absurd h2 (by decide)
                      have hn1 : (lo.toList == []) = false := by rw [toList_data, Bool.eq_false_iff]; intro h; exact hlone (eq_of_beq h)
                      have hn2 : lo.toList.isEmpty = false := by rw [toList_data, Bool.eq_false_iff]; intro h; exact hlone (List.isEmpty_iff.1 h)
                      have h47 : r.pa[0]? = some 47 := by
                        have := HNop.out
                        unfold opqF at this
                        rw [hhs, HHA.out] at this
                        simpa using this
                      have hpx : Lib.hasPrefix hb.data.toList (⟨#[47]⟩ : ByteArray).data.toList = true := by
                        rw [HPB.out]
                        cases hpa : r.pa with
                        | nil => rw [hpa] at h47; simp at h47
                        | cons a t => rw [hpa] at h47; have : a = 47 := by simpa using h47
                                      rw [this]; rfl
                      have HPX := Lib.hid hpx
                      have H47 := Lib.hid h47
                      have c10 : wc.cell? ⟨w.heap.size, 10, none⟩ = some (.bool false) := blk_cell K6.out 10
                      have f10 : wc.frozen? ⟨w.heap.size, 10, none⟩ = false := blk_frozen K6.out 10
                      clear hlone hpx h47
                      go_wp2_with (fail)
                      refine Calls.mono (Tryz.strings_HasPrefix hb ⟨#[47]⟩ _) ?_
                      rintro e w9 ⟨rfl, rfl⟩
                      rw [HPX.out]
                      go_wp2
                      go_meet
                      case rel => exact ⟨hb, ⟨#[]⟩, .pointer none, true, rfl, hhz, HPB, Lib.hid (by rw [HAU.out, auth_nil]), Lib.hid (by rw [HAU.out, auth_nil]; exact Or.inl ⟨rfl, rfl⟩), Lib.hid (by rw [hhs, HHA.out, H47.out]; simp), Lib.hid (blk_set K6.out 10 _), Lib.hid (Below.setCell (p := ⟨w.heap.size, 10, none⟩) HB6.out (Nat.le_refl _) _)⟩
                  · have hhp : hierF r = 47 :: 47 :: (r.au ++ r.pa) := by unfold hierF; rw [hha]; rfl
                    have haut := HF.out.aut hha
                    have hno47 : ∀ c ∈ r.au, c ≠ 47 := fun c hc e => (auth_good haut.1 c hc).2.2.2 (by rw [e]; rfl)
                    have hx2 : (hb.extract 2 hb.size).data.toList = r.au ++ r.pa := by rw [ext_toList, ← size_len, List.take_length, HH.out, hhp]; rfl
                    have hz2 : (hb.extract 2 hb.size).size ≤ x.size := Nat.le_trans (ext_size _ _ _) hhz
                    have hl2 : 2 ≤ hb.size := by rw [← size_len, HH.out, hhp]; simp
                    have hidx : idx [47] (r.au ++ r.pa) = r.au.length := by
                      unfold idx
                      rw [tw_len _ r.au r.pa (List.all_eq_true.2 fun c hc => by rw [inB_one]; simpa using hno47 c hc)]
                      rcases haut.2 with h | h
                      · exact Or.inl h
                      · cases hpa : r.pa with
                        | nil => exact Or.inl rfl
                        | cons a t => rw [hpa] at h; exact Or.inr ⟨a, t, rfl, by rw [inB_one]; simpa using h⟩
                    have HX2 := Lib.hid hx2
                    have HIDX := Lib.hid hidx
                    have HAUT := Lib.hid haut
                    have HHA := Lib.hid hha
                    have c0 : wc.cell? ⟨w.heap.size, 0, none⟩ = some (.string lo) := blk_cell K6.out 0
                    clear hhp hno47 hx2 hidx haut hha
                    go_upto_region 31 with (fail)
                    generalize hb.extract 2 hb.size = ab0 at *
                    go_wp2_with (fail)
                    refine Calls.mono (zzIndex_one ab0 47 _ (by omega)) ?_
                    rintro e w9 ⟨rfl, rfl⟩
                    obtain ⟨zi, hzi⟩ : ∃ zi : Int, zi = zzi 47 ab0.data.toList := ⟨_, rfl⟩
                    rw [← hzi]
                    have HZI := Lib.hid hzi
                    clear hzi
                    go_upto_if 122 with (fail)
                    go_cut [6, 12] from 122 to 128 (fun v6 v12 wx => ∃ pb ab : ByteArray, v6 = .string pb ∧ v12 = .string ab ∧ pb.size ≤ x.size ∧ ab.size ≤ x.size ∧ Hid (pb.data.toList = r.pa) ∧ Hid (ab.data.toList = r.au) ∧ Hid (wx.heap[w.heap.size]? = wc.heap[w.heap.size]?) ∧ Hid (Below w.heap.size w wx))
                    case first =>
                      by_cases hpe : r.pa = []
                      · have hz : zi = -1 := by
                          rw [HZI.out]; unfold zzi
                          rw [if_neg]
                          rw [HX2.out, HIDX.out, hpe]; simp
                        have HPE := Lib.hid hpe
                        subst hz
                        clear hpe
                        go_wp2
                        go_meet
                        case rel => exact ⟨⟨#[]⟩, ab0, rfl, rfl, Nat.zero_le _, hz2, Lib.hid HPE.out.symm, Lib.hid (by rw [HX2.out, HPE.out, List.append_nil]), Lib.hid rfl, HB6⟩
                      · have hlt : r.au.length < (r.au ++ r.pa).length := by
                          have := List.length_pos_iff.2 hpe
                          simp; omega
                        have hz : zi = (r.au.length : Int) := by
                          rw [HZI.out]; unfold zzi
                          rw [HX2.out, HIDX.out, if_pos hlt]
                        have hns : r.au.length < ab0.size := by rw [← size_len, HX2.out]; exact hlt
                        have hxa : (ab0.extract 0 r.au.length).data.toList = r.au := by rw [ext_toList, HX2.out, List.take_left, List.drop_zero]
                        have hxp : (ab0.extract r.au.length ab0.size).data.toList = r.pa := by rw [ext_toList, ← size_len, List.take_length, HX2.out, List.drop_left]
                        have hza : (ab0.extract 0 r.au.length).size ≤ x.size := Nat.le_trans (ext_size _ _ _) hz2
                        have hzp : (ab0.extract r.au.length ab0.size).size ≤ x.size := Nat.le_trans (ext_size _ _ _) hz2
                        have HXA := Lib.hid hxa
                        have HXP := Lib.hid hxp
                        subst hz
                        clear hlt hxa hxp hpe HZI
                        generalize r.au.length = n at *
                        have hge : 0 ≤ (n : Int) := by omega
                        go_wp2
                        go_quiet (fail)
                        go_wp2
                        go_meet
                        case rel => exact ⟨_, _, rfl, rfl, hzp, hza, HXP, HXA, Lib.hid rfl, Lib.hid (bdN HB6.out _)⟩
                    case rest =>
                      obtain ⟨pb, ab, rfl, rfl, hpz, haz, HPB, HAB, HKE, HBx⟩ := hcut
                      have KX := Lib.hid (HKE.out.trans K6.out)
                      clear K6 HB6 HKE c0 K4
                      have c0 : wc.cell? ⟨w.heap.size, 0, none⟩ = some (.string lo) := blk_cell KX.out 0
                      have HTX := Lib.hid (HT.out.up HBx.out (by omega))
                      have HNX := Lib.hid (HN.out.up (HBx.out.mono hN))
                      have hsx : w.heap.size + 1 ≤ wc.heap.size := (Array.getElem?_eq_some_iff.1 KX.out).1
                      go_wp2_with (fail)
                      refine Calls.mono (parseAuth_any lo ab (authF r.au).hu (authF r.au).us (authF r.au).ho _ HTX.out HNX.out (Nat.le_trans hN HBx.out.size) (by omega) (by rw [HAB.out, ← HAUT.out.1])) ?_
                      rintro e w9 ⟨up, t, rfl, ht, hus, hb9⟩
                      obtain ⟨o, rfl⟩ : ∃ o : Option Addr, up = .pointer o := by
                        rcases hus.out with ⟨_, h⟩ | ⟨_, g, _, _, _, h, _⟩
                        · exact ⟨_, h⟩
                        · exact ⟨_, h⟩
                      have K9 := Lib.hid (blk_below KX.out hb9 (by omega))
                      have HB9 := Lib.hid (HBx.out.trans (hb9.mono HBx.out.size))
                      have HUS := Lib.hid (((hus.out.mono hsx).set (g := w.heap.size) (by omega) 2 (.pointer o)).set (g := w.heap.size) (by omega) 3 (.string t))
                      have d2 : w9.cell? ⟨w.heap.size, 2, none⟩ = some (.pointer none) := blk_cell K9.out 2
                      have f2 : w9.frozen? ⟨w.heap.size, 2, none⟩ = false := blk_frozen K9.out 2
                      have d3 : w9.cell? ⟨w.heap.size, 3, none⟩ = some (.string ⟨#[]⟩) := blk_cell K9.out 3
                      have f3 : w9.frozen? ⟨w.heap.size, 3, none⟩ = false := blk_frozen K9.out 3
                      clear hb9 hus c0 KX HTX HNX
                      go_wp2
                      go_meet
                      case rel => exact ⟨pb, t, .pointer o, false, rfl, hpz, HPB, ht, HUS, Lib.hid (by rw [HHA.out]; simp), Lib.hid (blk_set (blk_set K9.out 2 (.pointer o)) 3 (.string t)), Lib.hid (Below.setCell (p := ⟨w.heap.size, 3, none⟩) (Below.setCell (p := ⟨w.heap.size, 2, none⟩) HB9.out (Nat.le_refl _) (.pointer o)) (Nat.le_refl _) (.string t))⟩
                case rest =>
                  obtain ⟨pb, hob, up, oh, rfl, hpz, HPA, HHO, HUS, HOH, K7, HB7⟩ := hcut
                  have HT7 := Lib.hid (HT.out.up HB7.out (by omega))
                  clear K6 HB6 HH hhz K4
                  go_wp2_with (fail)
                  refine Calls.mono (setPath_any w.heap.size _ pb _ HT7.out (by omega) K7.out (by rw [HPA.out]; exact po_ch _ HF.out.pat) (by omega)) ?_
                  rintro e w8 ⟨rfl, pa, rp, hpo, k8, hu8⟩
                  have K8 := Lib.hid k8
                  have HU8 := Lib.hid hu8
                  clear k8 hu8
                  go_wp2
                  go_ret2
                  refine ⟨rfl, _, K8.out, rfl, rfl, Lib.hid ⟨HLO.out, HQ.out, rfl, ?_, ?_⟩, HB7.out.trans HU8.out.below⟩
                  · intro h; rw [HNop.out] at h; exact absurd h (by decide)
                  · intro _
                    exact ⟨rfl, HHO.out, (HUS.out.upd (by omega) HU8.out).mono (by omega), Or.inl ⟨pb, HPA.out, hpo.out⟩, HOH.out⟩
end Go.Proofs.YtfkgkkmcaaefnaaGreatDoor.Wk
namespace Go.Proofs.YtfkgkkmcaaefnaaGreatDoor.Wk
open Go.RowKit Go.Proofs.YtfkgkkmcaaefnaaGreatDoor.Pu

def FragS (p : L) (fr rf : ByteArray) : Prop := ∃ fb : ByteArray, fb.data.toList = p ∧ PathOf 64 fb fr rf
theorem frag_nil : FragS [] ⟨#[]⟩ ⟨#[]⟩ := ⟨⟨#[]⟩, rfl, rfl, Or.inl ⟨rfl, rfl⟩⟩
theorem cutH {r : Ref} (h : Fine r) : cutF 35 (preF r ++ fragF r) = (preF r, r.fr, r.hf) := by
  have hno : ∀ c ∈ preF r, c ≠ 35 := fun c hc e => (pre_good h c hc).2 (by rw [e]; rfl)
  unfold cutF fragF
  cases hq : r.hf with
  | false =>
    simp only [Bool.false_eq_true, if_false, List.append_nil]
    have : ¬ idx [35] (preF r) < (preF r).length := by
      intro hl
      exact hno _ (List.mem_of_getElem? (idx_at 35 _ hl)) rfl
    rw [if_neg this, h.nfr hq]
  | true =>
    simp only [if_true]
    have hi : idx [35] (preF r ++ 35 :: r.fr) = (preF r).length := by
      unfold idx
      rw [tw_len _ (preF r) (35 :: r.fr) (List.all_eq_true.2 fun c hc => by rw [inB_one]; simpa using hno c hc) (Or.inr ⟨35, r.fr, rfl, by rw [inB_one]; simp⟩)]
    rw [hi, if_pos (by simp)]
    simp

set_option maxHeartbeats 4000000 in
set_option maxRecDepth 100000 in
theorem Parse_any {N : Nat} {p4 p6 : Addr} (x : ByteArray) (r : Ref) (w : World) (hT : Tab w) (h : Net N w p4 p6) (hN : N ≤ w.heap.size) (hs : x.size ≤ 20000000000000) (hx : x.data.toList = preF r ++ fragF r) (hf : Fine r) :
    Calls Tryz.prog 36 #[.string x] w fun e w' => ∃ g u, e = .returned (.tuple #[ptr g, .nilIface]) ∧ w.heap.size ≤ g ∧ w'.heap[g]? = some (urlObj u) ∧ Hid (FragS r.fr u.fr u.rf) ∧ Hid (UrlOf r u w' g) ∧ Below w.heap.size w w' := by
  have HX := Lib.hid hx
  have HF := Lib.hid hf
  have HT := Lib.hid hT
  have HN := Lib.hid h
  have hN0 : 0 < N := by have := h.l7; omega
  clear hx hf hT h
  go_enter Tryz.func36, Tryz.ntmps36
  go_wp2_with (fail)
  refine Calls.mono (zzCut_one x 35 _ (by omega)) ?_
  rintro e w1 ⟨a, b, f, rfl, hcf, hza, hzb, hb1⟩
  have hc2 := hcf.out
  rw [HX.out, cutH HF.out] at hc2
  simp only [Prod.mk.injEq] at hc2
  have HA := Lib.hid hc2.1.symm
  have HBb := Lib.hid hc2.2.1.symm
  have HB1 := Lib.hid hb1
  have HT1 := Lib.hid (HT.out.up hb1 HT.out.pos)
  have HN1 := Lib.hid (HN.out.up (hb1.mono hN))
  clear hb1 hc2 hcf
  go_wp2_with (fail)
  refine Calls.mono (parse_any a r _ HT1.out HN1.out (Nat.le_trans hN HB1.out.size) (by omega) HA.out HF.out) ?_
  rintro e w2 ⟨rfl, u, k2, hfr, hrf, hu, hb2⟩
  have K2 := Lib.hid k2
  have HU := Lib.hid (And.intro hfr (And.intro hrf hu.out))
  have HB2 := Lib.hid (HB1.out.trans (hb2.mono HB1.out.size))
  have HT2 := Lib.hid (HT1.out.up hb2 HT1.out.pos)
  have hg : w.heap.size ≤ w1.heap.size := HB1.out.size
  have hp1 : 0 < w1.heap.size := HT1.out.pos
  clear k2 hfr hrf hu hb2
  go_upto_if 28 with (fail)
  cases hE : b.toList.isEmpty
  · have hne : b.data.toList ≠ [] := by rw [toList_data] at hE; intro h; rw [h] at hE; exact absurd hE (by decide)
    have HNE := Lib.hid hne
    clear hE hne
    go_wp2_with (fail)
    refine Calls.mono (setFragment_any w1.heap.size u b _ HT2.out hp1 K2.out (by rw [HBb.out]; exact po_ch _ HF.out.fra) (by omega)) ?_
    rintro e w3 ⟨rfl, fr, rf, hpo, k3, hu3⟩
    have K3 := Lib.hid k3
    have HU3 := Lib.hid hu3
    clear k3 hu3
    go_wp2
    go_ret2
    obtain ⟨_, _, hU⟩ := HU.out
    refine ⟨w1.heap.size, _, rfl, hg, K3.out, Lib.hid ⟨b, HBb.out, hpo.out⟩, Lib.hid ⟨hU.sc, hU.rq, hU.fq, hU.opq, fun h => ?_⟩, HB2.out.trans (HU3.out.below.mono hg)⟩
    obtain ⟨h1, h2, h3, h4, h5⟩ := hU.hie h
    refine ⟨h1, h2, ?_, h4, h5⟩
    rcases h3 with h3 | ⟨h6, g2, un, pw, ps, h7, h8, h9, h10⟩
    · exact Or.inl h3
    · have hne2 : g2 ≠ w1.heap.size := by
        intro e
        rw [e, K2.out] at h9
        simp at h9
      exact Or.inr ⟨h6, g2, un, pw, ps, h7, h8, by rw [HU3.out.keep g2 (Array.getElem?_eq_some_iff.1 h9).1 hne2]; exact h9, h10⟩
  · have hbe : b.data.toList = [] := by rw [toList_data] at hE; exact List.isEmpty_iff.1 hE
    have HBE := Lib.hid hbe
    clear hE hbe
    go_wp2
    go_ret2
    obtain ⟨h1, h2, hU⟩ := HU.out
    exact ⟨w1.heap.size, u, rfl, hg, K2.out, Lib.hid (by rw [← HBb.out, HBE.out, h1, h2]; exact frag_nil), Lib.hid hU, HB2.out⟩

set_option maxHeartbeats 2000000 in
set_option maxRecDepth 100000 in
theorem escFrag_any (g : Nat) (u : UrlB) (p : ByteArray) (w : World) (hT : Tab w) (hg : w.heap[g]? = some (urlObj u)) (hp : charsB [58, 64, 47, 63] true p.data.toList = true) (hz : p.size ≤ 40000000000000) (hq : PathOf 64 p u.fr u.rf) :
    Calls Tryz.prog 70 #[ptr g] w fun e w' => ∃ q : ByteArray, e = .returned (.string q) ∧ q = p ∧ Below w.heap.size w w' := by
  have hlt : g < w.heap.size := (Array.getElem?_eq_some_iff.1 hg).1
  have c4 : w.cell? ⟨g, 5, none⟩ = some (.string u.fr) := blk_cell hg 5
  have c7 : w.cell? ⟨g, 8, none⟩ = some (.string u.rf) := blk_cell hg 8
  have HG := Lib.hid hg
  have HT := Lib.hid hT
  have HV := Lib.hid (veL_frag hp)
  have HP := Lib.hid (po_ch _ hp)
  have hb0 := Below.refl w.heap.size w
  clear hg hT hp
  generalize u.fr = pa at *
  generalize u.rf = rp at *
  obtain ⟨hd, h | h⟩ := hq
  · obtain ⟨rfl, he⟩ := h
    have hps : pa.size ≤ p.size := dec_size hd
    have HE := Lib.hid he
    clear he hd
    go_enter Tryz.func70, Tryz.ntmps70
    go_wp2_with (fail)
    refine (escape_any pa 64 w HT.out (by decide) (by omega)).mono ?_
    rintro e w1 ⟨q, rfl, hq, hb1⟩
    have HQ := Lib.hid (ba_ext (hq.out.trans HE.out))
    clear hq
    go_wp2
    go_ret
    exact ⟨q, rfl, HQ.out, hb1⟩
  · obtain ⟨rfl, he⟩ := h
    have hne : rp.data.toList ≠ [] := by
      intro h0
      rw [h0] at hd he
      have : pa.data.toList = [] := hd
      rw [this] at he
      exact he rfl
    have hn1 : (rp.toList == []) = false := by rw [toList_data, Bool.eq_false_iff]; intro h; exact hne (eq_of_beq h)
    have hn2 : rp.toList.isEmpty = false := by rw [toList_data, Bool.eq_false_iff]; intro h; exact hne (List.isEmpty_iff.1 h)
    have HD := Lib.hid hd
    clear he hd hne
    go_enter Tryz.func70, Tryz.ntmps70
    go_wp2_with (go_at_call 98; refine (validEnc_any rp 64 w HT.out (by decide) (by omega) HV.out).mono ?_; rintro e w1 ⟨rfl, rfl⟩)
    refine (unescape_any rp 64 w HT.out (by decide) (by decide) (by decide) (by omega) HP.out).mono ?_
    rintro e w1 ⟨t, rfl, ht, hb1⟩
    have ht2 : t = pa := ba_ext (ht.out.trans HD.out.symm)
    have e4 : w1.cell? ⟨g, 5, none⟩ = some (.string pa) := (hb1.cell (p := ⟨g, 5, none⟩) hlt).trans c4
    have e7 : w1.cell? ⟨g, 8, none⟩ = some (.string rp) := (hb1.cell (p := ⟨g, 8, none⟩) hlt).trans c7
    subst ht2
    clear c4 c7 ht
    go_wp2
    go_ret
    exact ⟨_, rfl, rfl, hb1⟩
end Go.Proofs.YtfkgkkmcaaefnaaGreatDoor.Wk
