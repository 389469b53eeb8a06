/-
  THE WALK of resolvePath.
-/
import Derived.Test.YtfkgkkmcaaefnaaGreatDoorR2
import Derived.Test.YtfkgkkmcaaefnaaGreatDoorU1
set_option linter.unusedSimpArgs false
set_option linter.unusedVariables false
namespace Go.Proofs.YtfkgkkmcaaefnaaGreatDoor.Wk
open Go.RowKit Go.Proofs.YtfkgkkmcaaefnaaGreatDoor.Pu

set_option maxHeartbeats 8000000 in
set_option maxRecDepth 100000 in
theorem resolvePath_any (b r : ByteArray) (w : World) (hb : b.size ≤ 20000000000000) (hr : r.size ≤ 20000000000000) :
    Calls Tryz.prog 78 #[.string b, .string r] w fun e w' => ∃ t : ByteArray, e = .returned (.string t) ∧ Hid (t.data.toList = rpF (fullF b.data.toList r.data.toList)) ∧ Below w.heap.size w w' := by
  have hb0 := Lib.hid (Below.refl w.heap.size w)
  have hls := lastC_le 47 b.data.toList
  rw [size_len] at hls
  go_enter Tryz.func78, Tryz.ntmps78
  go_upto_region 2 with (fail)
  go_upto_if 14 with (fail)
  go_cut [5] (fun v5 wx => ∃ f : ByteArray, v5 = .string f ∧ f.size ≤ 40000000000000 ∧ Hid (f.data.toList = fullF b.data.toList r.data.toList) ∧ Below w.heap.size w wx)
  case first =>
    cases hE : r.toList.isEmpty
    · have hr0 : r.data.toList ≠ [] := by rw [toList_data] at hE; intro h; rw [h] at hE; exact absurd hE (by decide)
      have hpos : 0 < r.size := by rw [← size_len]; exact List.length_pos_iff.2 hr0
      have hx := Lib.hid (get_opt r 0 hpos)
      have HR := Lib.hid hr0
      clear hr0 hE
      by_cases h47 : r[0].toNat = 47
      · have e0 : ((r[0].toNat : Int) == 47) = true := by rw [beq_iff_eq]; omega
        have H47 := Lib.hid h47
        clear h47
        go_wp2
        go_meet
        case rel =>
          refine ⟨r, rfl, by omega, Lib.hid ?_, hb0.out⟩
          unfold fullF
          rw [if_neg HR.out, if_pos]
          rw [hx.out]; congr; exact UInt8.toNat_inj.1 H47.out
      · have e0 : ((r[0].toNat : Int) == 47) = false := by rw [beq_eq_false_iff_ne]; omega
        have H47 := Lib.hid h47
        clear h47
        have HLS := Lib.hid (show fullF b.data.toList r.data.toList = b.data.toList.take (lastC 47 b.data.toList) ++ r.data.toList by
          unfold fullF
          rw [if_neg HR.out, if_neg, lastC_47]
          intro h
          rw [hx.out] at h
          exact H47.out (by rw [Option.some.inj h]; rfl))
        go_wp2_with (fail)
        refine (lastIndex_any 47 b _ (by omega)).mono ?_
        rintro e w1 ⟨rfl, rfl⟩
        generalize lastC 47 b.data.toList = n at *
        have hw1 : (n : Int) - 1 + 1 = n := by omega
        go_wp2
        go_meet
        case rel =>
          refine ⟨b.extract 0 n ++ r, rfl, ?_, Lib.hid ?_, hb0.out⟩
          · rw [ByteArray.size_append, ByteArray.size_extract]; omega
          · rw [HLS.out, ByteArray.data_append, Array.toList_append, ext_toList, List.drop_zero]
    · have hr0 : r.data.toList = [] := by rw [toList_data] at hE; exact List.isEmpty_iff.1 hE
      have HR := Lib.hid hr0
      clear hr0
      go_wp2
      go_meet
      case rel => exact ⟨b, rfl, by omega, Lib.hid (by unfold fullF; rw [if_pos HR.out]), hb0.out⟩
  case rest =>
    obtain ⟨f, rfl, hfz, HF, hB⟩ := hcut
    clear hb0 hls
    go_upto_if 29 with (fail)
    cases hE : f.toList.isEmpty
    rotate_left
    · have hf0 : f.data.toList = [] := by rw [toList_data] at hE; exact List.isEmpty_iff.1 hE
      have HF0 := Lib.hid hf0
      clear hf0
      go_wp2
      go_ret
      exact ⟨⟨#[]⟩, rfl, Lib.hid (by rw [← HF.out, HF0.out]; rfl), hB⟩
    · have hf0 : f.data.toList ≠ [] := by rw [toList_data] at hE; intro h; rw [h] at hE; exact absurd hE (by decide)
      obtain ⟨i0, hi, hz0, hz1, hz2⟩ := info_parts info5
      have HF0 := Lib.hid hf0
      clear hf0 hE
      obtain ⟨W, hmk, hown, hgr⟩ := run_make_own (P := Tryz.prog) wc w.heap.size 89 5 i0 (.int .u8 0) 1 Tryz.underlying89 hi hz0 hz1 .i64 .i64 (f.size + 1) (by rw [hz2]; omega) (by unfold maxLen; omega) hB.size
      have hw1 : ((f.size + 1 : Nat) : Int) = (f.size : Int) + 1 := by omega
      rw [hw1] at hmk
      have hBW := hB.grown hgr hB.size (fun k hk => by cases hk)
      have HOWN := Lib.hid hown
      have HBW := Lib.hid hBW
      clear hown hBW hgr hB
      go_wp2_with (at_builtin; refine wpList_append_own _ rfl _ _ 89 rfl w.heap.size 5 i0 (.int .u8 0) 1 1 Tryz.underlying89 hi hz0 hz1 hz2 rfl (by decide) _ _ _ rfl (HOWN.out.alloc _) ⟨W.heap.size, 0, none⟩ 1 1 [.int .u8 47] rfl rfl ?c1 ?c2 ?c3 ?c4 ?c5 ?_)
      case c1 =>
        intro j u hj
        match j, hj with
        | 0, hj => simp at hj; subst hj; simp [Addr.add]
      case c2 => intro u hu; simp at hu; subst hu; rfl
      case c3 => unfold maxLen; omega
      case c4 => omega
      case c5 => have := HBW.out.size; simp; omega
      intro v' w2 hown' hgrow _
      obtain ⟨g, cap, hv', hd⟩ := dstAt.of (B := w.heap.size) (w := w2) (v := v') (n := 0 + 1) (O := []) rfl hown'
      rw [show (([] : L).length + 1) = 1 from rfl] at hv'
      subst hv'
      have hB2 : Below w.heap.size w w2 := (HBW.out.alloc HBW.out.size _).grown hgrow (by have := HBW.out.size; simp; omega) (fun k hk => (HOWN.out.lt k hk).1)
      have HD := Lib.hid hd
      have HB2 := Lib.hid hB2
      clear hown' hgrow hd hB2 HOWN HBW hmk
      go_wp2
      go_loopw [7, 8, 9, 10, 11, 12] (fun x7 x8 x9 x10 x11 x12 wr => ∃ (O : L) (g cap : Nat) (el rem : ByteArray) (fd fi : Bool), x7 = .slice (some ⟨g, 0, none⟩) (O.length + 1) cap ∧ x8 = .string el ∧ x9 = .string rem ∧ x10 = .bool fd ∧ x11 = .bool fi ∧ Hid (dstAt w.heap.size wr g cap O) ∧ O.length + rem.size ≤ f.size + (if fd = true then 0 else 1) ∧ Hid (fd = true → rpOut (segs 47 rem.data.toList) (O, fi) = rpOut (segs 47 f.data.toList) ([], true)) ∧ Hid (fd = false → (if isDot el.data.toList = true then O ++ [47] else O) = rpOut (segs 47 f.data.toList) ([], true)) ∧ Hid (Below w.heap.size w wr)) (fun _ _ s9 s10 _ _ _ => 2 * strSize s9 + boolN s10)
      case atStart => exact ⟨[], g, cap, ⟨#[]⟩, f, true, true, rfl, rfl, rfl, rfl, rfl, HD, by simp, Lib.hid (fun _ => rfl), Lib.hid (fun h => by cases h), HB2⟩
      case round =>
        clear HD HB2
        obtain ⟨O, g, cap, el, rem, fd, fi, rfl, rfl, rfl, rfl, rfl, hd, hlen, hrt, hrf, hB⟩ := hrel
        have hcap := hd.out.cap
        cases fd
        · have hrf2 := hrf.out rfl
          have HRF := Lib.hid hrf2
          clear hrt hrf hrf2
          simp only [Bool.false_eq_true, if_false] at hlen
          have HD := hd
          have hBs := hB.out.size
          have hO : O.length ≤ 40000000000001 := by omega
          clear hd hlen hcap
          go_upto_region 31 with (fail)
          go_cut [77] (fun v77 wx => v77 = .bool (isDot el.data.toList) ∧ wx = wr)
          case first =>
            by_cases h1 : el.data.toList = [46]
            · have e1 : (el.toList == [46]) = true := by rw [toList_data, h1]; rfl
              have hx : isDot el.data.toList = true := (isDot_iff _).2 (Or.inl h1)
              have HX := Lib.hid hx
              clear h1 hx
              go_wp2
              go_meet
              case rel => exact ⟨by rw [HX.out], rfl⟩
            · have e1 : (el.toList == [46]) = false := by rw [toList_data, Bool.eq_false_iff]; intro h; exact h1 (eq_of_beq h)
              by_cases h2 : el.data.toList = [46, 46]
              · have e2 : (el.toList == [46, 46]) = true := by rw [toList_data, h2]; rfl
                have hx : isDot el.data.toList = true := (isDot_iff _).2 (Or.inr h2)
                have HX := Lib.hid hx
                clear h1 h2 hx
                go_wp2
                go_meet
                case rel => exact ⟨by rw [HX.out], rfl⟩
              · have e2 : (el.toList == [46, 46]) = false := by rw [toList_data, Bool.eq_false_iff]; intro h; exact h2 (eq_of_beq h)
                have hx : isDot el.data.toList = false := by rw [Bool.eq_false_iff, ne_eq, isDot_iff]; rintro (h | h); exact h1 h; exact h2 h
                have HX := Lib.hid hx
                clear h1 h2 hx
                go_wp2
                go_meet
                case rel => exact ⟨by rw [HX.out], rfl⟩
          case rest =>
            obtain ⟨rfl, rfl⟩ := hcut
            generalize isDot el.data.toList = bd at *
            go_upto_if 77 with (fail)
            go_cut [7] (fun v7 wx => ∃ (O2 : L) (g cap : Nat), v7 = .slice (some ⟨g, 0, none⟩) (O2.length + 1) cap ∧ Hid (dstAt w.heap.size wx g cap O2) ∧ O2.length ≤ 40000000000002 ∧ Hid (O2 = rpOut (segs 47 f.data.toList) ([], true)) ∧ Hid (Below w.heap.size w wx))
            case first =>
              cases bd
              · go_wp2
                go_meet
                case rel => exact ⟨O, g, cap, rfl, HD, by omega, Lib.hid (by have := HRF.out; simpa using this), hB⟩
              · go_wp2_with (at_builtin; refine wpList_append_own _ rfl _ _ 89 rfl w.heap.size 5 i0 (.int .u8 0) 1 1 Tryz.underlying89 hi hz0 hz1 hz2 rfl (by decide) _ _ _ rfl (World.ownsRow.alloc HD.out _) ⟨wc.heap.size, 0, none⟩ 1 1 [.int .u8 47] rfl rfl ?q1 ?q2 ?q3 ?q4 ?q5 ?_)
                case q2 => rfl
                case q3 => unfold maxLen; omega
                case q4 => omega
                case q5 => omega
                intro v' w4 hown' hgrow _
                obtain ⟨g4, cap4, hv', hd4⟩ := dstAt.of (B := w.heap.size) (w := w4) (v := v') (n := O.length + 1 + 1) (O := O ++ [47]) (by simp) (by
                  have e : Lib.byteCells (47 :: (O ++ [47])) = Lib.byteCells (47 :: O) ++ [.int .u8 47] := by unfold Lib.byteCells; simp
                  rw [e]; exact hown')
                subst hv'
                have HD4 := Lib.hid hd4
                have HB4 := Lib.hid ((hB.out.alloc hBs _).grown hgrow (by simp; omega) (fun k hk => (World.ownsRow.lt HD.out k hk).1))
                clear hown' hgrow hd4
                go_wp2
                go_meet
                case rel => exact ⟨O ++ [47], g4, cap4, rfl, HD4, by simp; omega, Lib.hid (by have := HRF.out; simpa using this), HB4⟩
            case rest =>
              obtain ⟨O2, g, cap, rfl, HD2, hO2, HRO, HB2⟩ := hcut
              have hcap := HD2.out.cap
              have hRP := Lib.hid (show rpF (fullF b.data.toList r.data.toList) = lead O2 by
                unfold rpF; rw [← HF.out, if_neg HF0.out, HRO.out])
              have HRP := hRP
              clear HRF hRP HRO HD hB hO hBs
              cases O2 with
              | nil =>
                obtain ⟨tt, htt⟩ : ∃ tt : ByteArray, tt = ⟨#[47]⟩ := ⟨_, rfl⟩
                have hback : (convert 89 9 (.slice (some ⟨g, 0, none⟩) 1 cap)).run Tryz.prog wc = .ok (.string tt) wc := by
                  rw [htt]
                  exact run_convert_bytes_back (P := Tryz.prog) wc 89 9 5 ⟨g, 0, none⟩ cap [47] Tryz.underlying89 Tryz.underlying5 Tryz.underlying9
                    (fun j hj => by
                      rw [show (⟨g, 0, none⟩ : Addr).add j = ⟨g, j, none⟩ by unfold Addr.add; split <;> simp_all]
                      exact HD2.out.cell (List.getElem?_eq_getElem hj))
                have HT := Lib.hid htt
                clear HD2 htt
                go_wp2
                go_ret
                exact ⟨tt, rfl, Lib.hid (by rw [HRP.out, HT.out]; rfl), HB2.out⟩
              | cons c O3 =>
                rw [List.length_cons] at hcap hO2
                have hc1 : wc.cell? ⟨g, 1, none⟩ = some (.int .u8 (c.toNat : Int)) := HD2.out.cell (c := c) rfl
                have hcne : ¬ cap = 1 := by omega
                have hcz : ¬ cap - 1 = 0 := by omega
                by_cases h47 : c = 47
                · obtain ⟨tt, htt⟩ : ∃ tt : ByteArray, tt = ⟨(c :: O3).toArray⟩ := ⟨_, rfl⟩
                  have hback : (convert 89 9 (.slice (some ⟨g, 1, none⟩) (O3.length + 1) (cap - 1))).run Tryz.prog wc = .ok (.string tt) wc := by
                    rw [htt]
                    exact run_convert_bytes_back (P := Tryz.prog) wc 89 9 5 ⟨g, 1, none⟩ (cap - 1) (c :: O3) Tryz.underlying89 Tryz.underlying5 Tryz.underlying9
                      (fun j hj => by
                        rw [show (⟨g, 1, none⟩ : Addr).add j = ⟨g, j + 1, none⟩ by unfold Addr.add; split <;> simp_all; omega]
                        exact HD2.out.cell (by rw [List.getElem?_cons_succ]; exact List.getElem?_eq_getElem hj))
                  have e0 : ((c.toNat : Int) == 47) = true := by rw [h47]; rfl
                  have HT := Lib.hid htt
                  have H47 := Lib.hid h47
                  clear HD2 htt h47
                  go_wp2
                  go_ret
                  exact ⟨tt, rfl, Lib.hid (by rw [HRP.out, HT.out]; unfold lead; rw [if_pos (by rw [H47.out]; rfl)]), HB2.out⟩
                · obtain ⟨tt, htt⟩ : ∃ tt : ByteArray, tt = ⟨(47 :: c :: O3).toArray⟩ := ⟨_, rfl⟩
                  have hback : (convert 89 9 (.slice (some ⟨g, 0, none⟩) (O3.length + 1 + 1) cap)).run Tryz.prog wc = .ok (.string tt) wc := by
                    rw [htt]
                    exact run_convert_bytes_back (P := Tryz.prog) wc 89 9 5 ⟨g, 0, none⟩ cap (47 :: c :: O3) Tryz.underlying89 Tryz.underlying5 Tryz.underlying9
                      (fun j hj => by
                        rw [show (⟨g, 0, none⟩ : Addr).add j = ⟨g, j, none⟩ by unfold Addr.add; split <;> simp_all]
                        exact HD2.out.cell (List.getElem?_eq_getElem hj))
                  have e0 : ((c.toNat : Int) == 47) = false := by rw [beq_eq_false_iff_ne]; intro e; apply h47; apply UInt8.toNat_inj.1; show c.toNat = 47; omega
                  have HT := Lib.hid htt
                  have H47 := Lib.hid h47
                  clear HD2 htt h47
                  go_wp2
                  go_ret
                  exact ⟨tt, rfl, Lib.hid (by rw [HRP.out, HT.out]; unfold lead; rw [if_neg (by simpa using H47.out)]), HB2.out⟩
        · simp only [if_true, Nat.add_zero] at hlen
          go_wp2_with (fail)
          refine (zzCut_one rem 47 _ (by omega)).mono ?_
          rintro e w3 ⟨a, bb, fd', rfl, hcut, ha, hbb, hb3⟩
          have hB3 := Lib.hid (bt hB.out hb3)
          have hlen2 := cutF_len hcut.out
          rw [size_len, size_len, size_len] at hlen2
          have hif1 : (if fd' = true then 1 else 0) + (if fd' = true then 0 else 1) = 1 := by cases fd' <;> rfl
          have hif2 : boolN (.bool fd') = if fd' = true then 1 else 0 := by cases fd' <;> rfl
          have HIF := Lib.hid (And.intro hif1 hif2)
          clear hif1 hif2
          have hrp := fun O f => round_rp hcut.out O f
          have HRP := Lib.hid hrp
          clear hrp
          have hd3 : dstAt w.heap.size w3 g cap O := hd.out.below hb3
          by_cases h1 : a.data.toList = [46]
          · have e1 : (a.toList == [46]) = true := by rw [toList_data, h1]; rfl
            have H1 := Lib.hid h1
            clear h1
            go_wp2
            go_roundw
            case rel =>
              refine ⟨O, g, cap, a, bb, fd', false, rfl, rfl, rfl, rfl, rfl, Lib.hid hd3, by cases fd' <;> simp at hlen2 ⊢ <;> omega, Lib.hid (fun h => ?_), Lib.hid (fun h => ?_), hB3⟩
              · have := HRP.out O fi
                rw [if_pos h, hrt.out trivial] at this
                rw [this, H1.out]; rfl
              · have := HRP.out O fi
                rw [if_neg (by rw [h]; decide), hrt.out trivial] at this
                rw [this, H1.out]; rfl
            case measure => cases fd' <;> simp [strSize, boolN] at hlen2 ⊢ <;> omega
          · have e1 : (a.toList == [46]) = false := by rw [toList_data, Bool.eq_false_iff]; intro h; exact h1 (eq_of_beq h)
            have H1 := Lib.hid h1
            clear h1
            by_cases h2 : a.data.toList = [46, 46]
            · have e2 : (a.toList == [46, 46]) = true := by rw [toList_data, h2]; rfl
              have H2 := Lib.hid h2
              clear h2
              have hls := lastSl_le O
              have hw2 : (lastSl O : Int) - 1 + 1 = lastSl O := by omega
              have hstep : rpStep a.data.toList (O, fi) = (dropSeg O, decide (dropSeg O = [])) := by rw [H2.out]; rfl
              have HS := Lib.hid hstep
              have hdl : (dropSeg O).length = lastSl O - 1 := by unfold dropSeg; rw [List.length_take]; omega
              have HREL : ∀ fi', fi' = decide (dropSeg O = []) → (Hid (fd' = true → rpOut (segs 47 bb.data.toList) (dropSeg O, fi') = rpOut (segs 47 f.data.toList) ([], true)) ∧ Hid (fd' = false → (if isDot a.data.toList = true then dropSeg O ++ [47] else dropSeg O) = rpOut (segs 47 f.data.toList) ([], true))) := by
                rintro fi' rfl
                constructor
                · intro h
                  have := HRP.out O fi
                  rw [if_pos h, hrt.out trivial, HS.out] at this
                  exact this.symm
                · intro h
                  have := HRP.out O fi
                  rw [if_neg (by rw [h]; decide), hrt.out trivial, HS.out] at this
                  exact this.symm
              have HREL := Lib.hid HREL
              clear hstep
              have hoth : Hid (dstAt w.heap.size w3 g cap (dropSeg O)) := Lib.hid (hd3.cut (lastSl O - 1) (by omega))
              by_cases hz : lastSl O = 0
              · have hdn : dropSeg O = [] := by unfold dropSeg; rw [hz]; rfl
                have hge : ¬ (0 ≤ (lastSl O : Int) - 1) := by omega
                have HDN := Lib.hid hdn
                have HLZ : Hid (∀ off, (off = 1 ∨ O = []) → ∀ c2, Calls Tryz.prog 102 #[.slice (some ⟨g, off, none⟩) O.length c2, .int .u8 47] w3 fun e w' => e = .returned (.int .i64 (-1)) ∧ w3 = w') := Lib.hid (by
                  intro off hoff c2
                  refine (lastIdx_any g off c2 O w3 (by omega) (fun j c hj => ?_)).mono ?_
                  · rcases hoff with rfl | rfl
                    · exact hd3.cell (by rw [Nat.add_comm]; exact hj)
                    · simp at hj
                  · rintro e w4 ⟨rfl, rfl⟩
                    exact ⟨by rw [hz]; rfl, rfl⟩)
                have HD3 := Lib.hid hd3
                clear hd3 hdn hls hw2 hdl
                go_wp2_with (fail)
                · have hO : O = [] := List.length_eq_zero_iff.1 (by omega)
                  refine Calls.mono (HLZ.out 0 (Or.inr hO) 0) ?_
                  rintro e w4 ⟨rfl, rfl⟩
                  go_wp2
                  refine ⟨⟨dropSeg O, g, _, a, bb, fd', true, ?_, rfl, rfl, rfl, rfl, hoth, ?_, (HREL.out true (by rw [HDN.out]; rfl)).1, (HREL.out true (by rw [HDN.out]; rfl)).2, hB3⟩, ?_⟩
                  · have hcap1 : cap = 1 := by omega
                    rw [HDN.out, hcap1]; rfl
                  · rw [HDN.out]; cases fd' <;> simp at hlen2 ⊢ <;> omega
                  · show 2 * bb.size + boolN (.bool fd') < 2 * rem.size + 1
                    have := HIF.out.2; omega
                · refine Calls.mono (HLZ.out 1 (Or.inl rfl) (cap - 1)) ?_
                  rintro e w4 ⟨rfl, rfl⟩
                  go_wp2
                  refine ⟨⟨dropSeg O, g, _, a, bb, fd', true, ?_, rfl, rfl, rfl, rfl, hoth, ?_, (HREL.out true (by rw [HDN.out]; rfl)).1, (HREL.out true (by rw [HDN.out]; rfl)).2, hB3⟩, ?_⟩
                  · rw [HDN.out]; rfl
                  · rw [HDN.out]; cases fd' <;> simp at hlen2 ⊢ <;> omega
                  · show 2 * bb.size + boolN (.bool fd') < 2 * rem.size + 1
                    have := HIF.out.2; omega
              · have hge : 0 ≤ (lastSl O : Int) - 1 := by omega
                have hnil : decide (dropSeg O = []) = ((lastSl O : Int) == 1) := by
                  rw [Bool.eq_iff_iff, decide_eq_true_iff, beq_iff_eq, ← List.length_eq_zero_iff, hdl]; omega
                have HNIL := Lib.hid hnil
                have HLZ := lastIdx_any g 1 (cap - 1) O w3 (by omega) (fun j c hj => hd3.cell (by rw [Nat.add_comm]; exact hj))
                have HLZ := Lib.hid HLZ
                have hlc : lastSl O ≤ cap := by omega
                have HD3 := Lib.hid hd3
                have HDL := Lib.hid hdl
                have hc1 : ¬ cap = 1 := by omega
                clear hd3 hdl hnil
                go_wp2_with (fail)
                refine Calls.mono HLZ.out ?_
                rintro e w4 ⟨rfl, rfl⟩
                go_wp2
                refine ⟨⟨dropSeg O, g, cap, a, bb, fd', _, ?_, rfl, rfl, rfl, rfl, hoth, ?_, (HREL.out _ HNIL.out.symm).1, (HREL.out _ HNIL.out.symm).2, hB3⟩, ?_⟩
                · rw [HDL.out, Nat.sub_add_cancel (by omega)]
                · rw [HDL.out]; cases fd' <;> simp at hlen2 ⊢ <;> omega
                · show 2 * bb.size + boolN (.bool fd') < 2 * rem.size + 1
                  have := HIF.out.2; omega
            · have e2 : (a.toList == [46, 46]) = false := by rw [toList_data, Bool.eq_false_iff]; intro h; exact h2 (eq_of_beq h)
              have hnd : ¬ isDot a.data.toList = true := by rw [isDot_iff]; rintro (h | h); exact H1.out h; exact h2 h
              have HND := Lib.hid hnd
              have hstep : rpStep a.data.toList (O, fi) = (if fi = true then O ++ a.data.toList else O ++ 47 :: a.data.toList, false) := by unfold rpStep; rw [if_neg H1.out, if_neg h2]
              have HS := Lib.hid hstep
              clear h2 hnd hstep
              have HREL : ∀ O', O' = (if fi = true then O ++ a.data.toList else O ++ 47 :: a.data.toList) → (Hid (fd' = true → rpOut (segs 47 bb.data.toList) (O', false) = rpOut (segs 47 f.data.toList) ([], true)) ∧ Hid (fd' = false → (if isDot a.data.toList = true then O' ++ [47] else O') = rpOut (segs 47 f.data.toList) ([], true))) := by
                rintro O' rfl
                constructor
                · intro h
                  have := HRP.out O fi
                  rw [if_pos h, hrt.out trivial, HS.out] at this
                  exact this.symm
                · intro h
                  have := HRP.out O fi
                  rw [if_neg (by rw [h]; decide), hrt.out trivial, HS.out] at this
                  exact this.symm
              have HREL := Lib.hid HREL
              have hsz3 : w.heap.size ≤ w3.heap.size := hB3.out.size
              clear hrt hrf HRP HS hcut
              cases fi
              · have HD3 := Lib.hid hd3
                clear hd3
                go_wp2_with (at_builtin; refine wpList_append_own _ rfl _ _ 89 rfl w.heap.size 5 i0 (.int .u8 0) 1 1 Tryz.underlying89 hi hz0 hz1 hz2 rfl (by decide) _ _ _ rfl (World.ownsRow.alloc HD3.out _) ⟨w3.heap.size, 0, none⟩ 1 1 [.int .u8 47] rfl rfl ?c1 ?c2 ?c3 ?c4 ?c5 ?_)
                case c1 =>
                  intro j u hj
                  match j, hj with
                  | 0, hj => simp at hj; subst hj; simp [Addr.add]
                case c2 => intro u hu; simp at hu; subst hu; rfl
                case c3 => unfold maxLen; omega
                case c4 => omega
                case c5 => simp; omega
                intro v' w4 hown' hgrow _
                obtain ⟨g4, cap4, hv', hd4⟩ := dstAt.of (B := w.heap.size) (w := w4) (v := v') (n := O.length + 1 + 1) (O := O ++ [47]) (by simp) (by
                  have e : Lib.byteCells (47 :: (O ++ [47])) = Lib.byteCells (47 :: O) ++ [.int .u8 47] := by unfold Lib.byteCells; simp
                  rw [e]; exact hown')
                subst hv'
                have HD4 := Lib.hid hd4
                have HB4 := Lib.hid ((hB3.out.alloc hsz3 _).grown hgrow (by simp; omega) (fun k hk => (World.ownsRow.lt HD3.out k hk).1))
                clear hown' hgrow hd4
                go_wp2_with (at_builtin; refine Lib.wpList_append_own_string _ rfl _ _ 89 9 rfl w.heap.size 5 i0 Tryz.underlying89 Tryz.underlying9 hi hz0 hz1 hz2 _ _ _ rfl HD4.out a rfl ?d3 ?d4 ?d5 ?_)
                case d3 => unfold maxLen; simp only [List.length_append, List.length_cons, List.length_nil]; omega
                case d4 => simp only [List.length_append, List.length_cons, List.length_nil]; omega
                case d5 => exact HB4.out.size
                intro v5 w5 hown5 hgrow5 _
                obtain ⟨g5, cap5, hv5, hd5⟩ := dstAt.of (B := w.heap.size) (w := w5) (v := v5) (n := O.length + 1 + 1 + a.size) (O := (O ++ [47]) ++ a.data.toList) (by simp only [List.length_append, size_len, List.length_cons, List.length_nil]; omega) (by
                  have e : Lib.byteCells (47 :: ((O ++ [47]) ++ a.data.toList)) = Lib.byteCells (47 :: (O ++ [47])) ++ Lib.strCells a := by unfold Lib.byteCells Lib.strCells; rw [← List.cons_append, List.map_append]
                  rw [e]; exact hown5)
                subst hv5
                have HD5 := Lib.hid hd5
                have HB5 := Lib.hid (HB4.out.grown hgrow5 HB4.out.size (fun k hk => (World.ownsRow.lt HD4.out k hk).1))
                clear hown5 hgrow5 hd5
                go_wp2
                refine ⟨⟨(O ++ [47]) ++ a.data.toList, g5, cap5, a, bb, fd', false, rfl, rfl, rfl, rfl, rfl, HD5, ?_, (HREL.out _ (by rw [if_neg (by decide)]; simp)).1, (HREL.out _ (by rw [if_neg (by decide)]; simp)).2, HB5⟩, ?_⟩
                · simp only [List.length_append, size_len, List.length_cons, List.length_nil]; have := HIF.out.1; omega
                · show 2 * bb.size + boolN (.bool fd') < 2 * rem.size + 1
                  have := HIF.out.2; omega
              · have HD3 := Lib.hid hd3
                clear hd3
                go_wp2_with (at_builtin; refine Lib.wpList_append_own_string _ rfl _ _ 89 9 rfl w.heap.size 5 i0 Tryz.underlying89 Tryz.underlying9 hi hz0 hz1 hz2 _ _ _ rfl HD3.out a rfl ?d3 ?d4 ?d5 ?_)
                case d3 => unfold maxLen; omega
                case d4 => omega
                case d5 => exact hB3.out.size
                intro v5 w5 hown5 hgrow5 _
                obtain ⟨g5, cap5, hv5, hd5⟩ := dstAt.of (B := w.heap.size) (w := w5) (v := v5) (n := O.length + 1 + a.size) (O := O ++ a.data.toList) (by simp only [List.length_append, size_len, List.length_cons, List.length_nil]; omega) (by
                  have e : Lib.byteCells (47 :: (O ++ a.data.toList)) = Lib.byteCells (47 :: O) ++ Lib.strCells a := by unfold Lib.byteCells Lib.strCells; rw [← List.cons_append, List.map_append]
                  rw [e]; exact hown5)
                subst hv5
                have HD5 := Lib.hid hd5
                have HB5 := Lib.hid (hB3.out.grown hgrow5 hB3.out.size (fun k hk => (World.ownsRow.lt HD3.out k hk).1))
                clear hown5 hgrow5 hd5
                go_wp2
                refine ⟨⟨O ++ a.data.toList, g5, cap5, a, bb, fd', false, rfl, rfl, rfl, rfl, rfl, HD5, ?_, (HREL.out _ (by simp)).1, (HREL.out _ (by simp)).2, HB5⟩, ?_⟩
                · simp only [List.length_append, size_len, List.length_cons, List.length_nil]; have := HIF.out.1; omega
                · show 2 * bb.size + boolN (.bool fd') < 2 * rem.size + 1
                  have := HIF.out.2; omega
end Go.Proofs.YtfkgkkmcaaefnaaGreatDoor.Wk
