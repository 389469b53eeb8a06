/-
  THE WALK of String, at a URL with a host whose path may be rootless.
  THE SHELF's CONTRACTS that these proofs use, laid over this program by the kit's own command in its plain mode (lay-shelf.mjs, lay-plain.mjs), and sifted.
  THE WALKS of joinPath, JoinPath.
  THE WALKS of JoinPath.
  THE WALK of FnJoinClean.
-/
import Derived.Test.YtfkgkkmcaaefnaaGreatDoorI14
import Derived.Shelf.Path.JoinRules
import Derived.Test.YtfkgkkmcaaefnaaGreatDoorProg
import Derived.Test.YtfkgkkmcaaefnaaGreatDoorK4
import Derived.Lib.CleanLen
import Derived.Laws.AppendOwn
import Derived.OwnWalk
import Derived.Test.YtfkgkkmcaaefnaaGreatDoorJ1
import Derived.Test.YtfkgkkmcaaefnaaGreatDoorS8
set_option linter.unusedSimpArgs false
set_option linter.unusedVariables false
namespace Go.Proofs.YtfkgkkmcaaefnaaGreatDoor.Wk
open Go.RowKit Go.Proofs.YtfkgkkmcaaefnaaGreatDoor.Pu

/-- a slash is written between a host and a path that begins with none -/
def rootB (u : UrlB) (p : L) : Bool := decide (p ≠ []) && decide (p[0]? ≠ some 47) && decide (u.ho.data.toList ≠ [])
def bodyS2 (u : UrlB) (hu : Bool) (ui : L) (p : L) : L := if u.op.data.toList ≠ [] then u.op.data.toList else authS u hu ui ++ ((if rootB u p = true then [47] else []) ++ p)
structure StrH2 (u : UrlB) (hu : Bool) (p fb : ByteArray) : Prop where
  sc : u.sc.data.toList ≠ []
  pq : u.op.data.toList = [] → PathQ p u.pa u.rp ∧ charsB [58, 64, 47] true p.data.toList = true
  ho : u.ho.data.toList.all (fun c => hostN c.toNat) = true
  fq : PathOf 64 fb u.fr u.rf ∧ charsB [58, 64, 47, 63] true fb.data.toList = true
  lost : u.op.data.toList = [] → u.oh = true → u.ho.data.toList = [] → hu = false → ([47, 47] : L).isPrefixOf p.data.toList = false

set_option maxHeartbeats 16000000 in
set_option maxRecDepth 100000 in
theorem String2_any (g : Nat) (u : UrlB) (hu : Bool) (p fb un pw : ByteArray) (ps : Bool) (w : World) (hT : Tab w) (hg : w.heap[g]? = some (urlObj u)) (hus : UserS w u.us hu un pw ps) (hh : StrH2 u hu p fb) (hz : StrZ u p fb un pw) :
    Calls Tryz.prog 37 #[ptr g] w fun e w' => ∃ t : ByteArray, e = .returned (.string t) ∧ Hid (t.data.toList = u.sc.data.toList ++ [58] ++ bodyS2 u hu (uiF hu un pw ps) p.data.toList ++ qryS u ++ frgS u fb.data.toList) ∧ Below w.heap.size w w' := by
  have hlt : g < w.heap.size := (Array.getElem?_eq_some_iff.1 hg).1
  have hpos := hT.pos
  obtain ⟨z1, z2, z3, z4, z5, z6, z7, z8, z9, z10⟩ := hz
  have HG := Lib.hid hg
  have HT := Lib.hid hT
  have HUS := Lib.hid hus
  have HH := Lib.hid hh
  have HB := Lib.hid ((Below.refl w.heap.size w).alloc (Nat.le_refl _) (.cells #[.pointer none, .slice none 0 0] 91))
  have HK := Lib.hid (blk_new w (.cells #[.pointer none, .slice none 0 0] 91))
  clear hg hT hus hh
  go_enter Tryz.func37, Tryz.ntmps37
  go_upto_region 2 with (fail)
  generalize w.alloc (.cells #[.pointer none, .slice none 0 0] 91) = W at *
  have k := blk_below HG.out HB.out hlt
  have c0 : W.cell? ⟨g, 0, none⟩ = some (.string u.sc) := blk_cell k 0
  have c1 : W.cell? ⟨g, 1, none⟩ = some (.string u.op) := blk_cell k 1
  clear k
  go_upto_if 23 with (fail)
  go_cut [4, 5, 6, 7] from 23 to 89 (fun v4 v5 v6 v7 wx => ∃ n : Nat, v4 = .int .i64 n ∧ n ≤ 10000000000000 ∧ Hid (wx.heap[w.heap.size]? = some (.cells #[.pointer none, .slice none 0 0] 91)) ∧ Hid (Below w.heap.size w wx))
  case first =>
    cases hop : u.op.toList.isEmpty
    · go_wp2
      go_meet
      case rel => exact ⟨u.sc.size + u.op.size, by go_num, by omega, HK, HB⟩
    · have k := blk_below HG.out HB.out hlt
      have c2 : W.cell? ⟨g, 2, none⟩ = some u.us := blk_cell k 2
      have c3 : W.cell? ⟨g, 3, none⟩ = some (.string u.ho) := blk_cell k 3
      have c4 : W.cell? ⟨g, 4, none⟩ = some (.string u.pa) := blk_cell k 4
      have c10 : W.cell? ⟨g, 10, none⟩ = some (.bool u.oh) := blk_cell k 10
      obtain ⟨e1, e2⟩ := ba_ne HH.out.sc
      clear k
      generalize u.oh = oh at *
      cases oh
      · rcases HUS.out with ⟨hu0, hu1⟩ | ⟨hu0, gu, hu1, hgu⟩
        · rw [hu1] at c2
          clear hu1
          go_wp2_with (fail)
          refine Calls.mono (username_nil _) ?_
          rintro e w1 ⟨rfl, rfl⟩
          go_wp2_with (fail)
          refine Calls.mono (password_nil _) ?_
          rintro e w1 ⟨rfl, rfl⟩
          go_wp2
          go_meet
          case rel => exact ⟨u.sc.size + (0 + 0 + u.ho.size) + u.pa.size, by go_num, by omega, HK, HB⟩
        · rw [hu1] at c2
          have hku := blk_below hgu HB.out (Array.getElem?_eq_some_iff.1 hgu).1
          have HKU := Lib.hid hku
          clear hu1 hgu hku
          go_wp2_with (fail)
          refine Calls.mono (username_any gu un pw ps _ HKU.out) ?_
          rintro e w1 ⟨rfl, rfl⟩
          go_wp2_with (fail)
          refine Calls.mono (password_any gu un pw ps _ HKU.out) ?_
          rintro e w1 ⟨m, rfl, rfl⟩
          go_wp2
          go_meet
          case rel => exact ⟨u.sc.size + (un.size + pw.size + u.ho.size) + u.pa.size, by go_num, by omega, HK, Lib.hid (bdN HB.out m)⟩
      · go_wp2
        go_meet
        case rel => exact ⟨u.sc.size + u.pa.size, by go_num, by omega, HK, HB⟩
  case rest =>
    obtain ⟨n, rfl, hn, HK1, HB1⟩ := hcut
    clear HK HB c0 c1
    have k := blk_below HG.out HB1.out hlt
    have c0 : wc.cell? ⟨g, 0, none⟩ = some (.string u.sc) := blk_cell k 0
    have c6 : wc.cell? ⟨g, 6, none⟩ = some (.string u.rq) := blk_cell k 6
    have c8 : wc.cell? ⟨g, 8, none⟩ = some (.string u.rf) := blk_cell k 8
    clear k
    go_upto_region 10 with (fail)
    go_cut [4] from 90 to 102 (fun v4 wx => v4 = .int .i64 ((n + (u.rq.size + u.rf.size) : Nat) : Int) ∧ Hid (wx.heap[w.heap.size]? = some (.cells #[.pointer none, .slice none 0 0] 91)) ∧ Hid (Below w.heap.size w wx))
    case first =>
      go_wp2
      go_quiet (fail)
      go_wp2
      go_meet
      case rel => exact ⟨by go_num, HK1, Lib.hid (bdN HB1.out _)⟩
    case rest =>
      obtain ⟨rfl, HK2, HB2⟩ := hcut
      generalize hnq : n + (u.rq.size + u.rf.size) = nq at *
      have hnz : nq ≤ 20000000000000 := by omega
      clear HK1 HB1 c0 c6 c8 hnq
      have hgrow := Tryz.Builder_Grow_fresh w.heap.size w.heap.size (nq + 12) wc (Nat.le_refl _) HK2.out HB2.out.size (by omega)
      rw [show (((nq + 12 : Nat)) : Int) = (nq : Int) + 12 from rfl] at hgrow
      have HGR := Lib.hid hgrow
      clear hgrow
      go_wp2_with (fail)
      refine Calls.mono HGR.out ?_
      rintro e w1 ⟨rfl, hbd, hb1⟩
      have HBD := Lib.hid (show BD w w1 [] from ⟨hbd, HB2.out.trans hb1⟩)
      clear hbd hb1 HGR HK2 HB2
      have k := blk_below HG.out HBD.out.2 hlt
      have c0 : w1.cell? ⟨g, 0, none⟩ = some (.string u.sc) := blk_cell k 0
      obtain ⟨e1, e2⟩ := ba_ne HH.out.sc
      clear k
      go_wp2_with (fail)
      refine Calls.mono (bd_str w w1 [] u.sc HBD.out (by simp; omega)) ?_
      rintro e w2 ⟨rfl, h2⟩
      clear c0 HBD
      go_wp2_with (fail)
      refine Calls.mono (bd_byte w w2 _ 58 h2 (by simp [size_len]; omega)) ?_
      rintro e w3 ⟨rfl, h3⟩
      rw [List.nil_append] at h3
      have HBD := Lib.hid h3
      clear h2 h3
      have k := blk_below HG.out HBD.out.2 hlt
      have c0 : w3.cell? ⟨g, 0, none⟩ = some (.string u.sc) := blk_cell k 0
      have c1 : w3.cell? ⟨g, 1, none⟩ = some (.string u.op) := blk_cell k 1
      clear k
      go_upto_if 122 with (fail)
      go_cut [8, 9, 10, 11, 12, 13] from 122 to 258 (fun v8 v9 v10 v11 v12 v13 wx => ∃ cur : L, Hid (cur = u.sc.data.toList ++ [58] ++ bodyS2 u hu (uiF hu un pw ps) p.data.toList) ∧ cur.length ≤ 90000000000000 ∧ Hid (BD w wx cur))
      case first =>
        cases hop : u.op.toList.isEmpty
        · have hop1 : u.op.data.toList ≠ [] := by rw [toList_data] at hop; intro h; rw [h] at hop; exact absurd hop (by decide)
          have HOP := Lib.hid hop1
          clear hop1 hop
          go_wp2_with (fail)
          refine Calls.mono (bd_str w w3 _ u.op HBD.out (by simp [size_len]; omega)) ?_
          rintro e w4 ⟨rfl, h4⟩
          have H4 := Lib.hid h4
          clear h4
          go_wp2
          go_meet
          case rel => exact ⟨_, Lib.hid (by unfold bodyS2; rw [if_pos HOP.out]), by simp [size_len]; omega, H4⟩
        · have hop1 : u.op.data.toList = [] := by rw [toList_data] at hop; exact List.isEmpty_iff.1 hop
          have HOP := Lib.hid hop1
          clear hop1 hop
          go_upto_if 146 with (fail)
          go_cut [8, 9] from 146 to 203 (fun v8 v9 wx => ∃ cur : L, Hid (cur = u.sc.data.toList ++ [58] ++ authS u hu (uiF hu un pw ps)) ∧ cur.length ≤ 80000000000000 ∧ Hid (BD w wx cur))
          case first =>
            have k := blk_below HG.out HBD.out.2 hlt
            have c2 : w3.cell? ⟨g, 2, none⟩ = some u.us := blk_cell k 2
            have c3 : w3.cell? ⟨g, 3, none⟩ = some (.string u.ho) := blk_cell k 3
            have c4 : w3.cell? ⟨g, 4, none⟩ = some (.string u.pa) := blk_cell k 4
            have c10 : w3.cell? ⟨g, 10, none⟩ = some (.bool u.oh) := blk_cell k 10
            have heH : u.ho.toList.isEmpty = decide (u.ho.data.toList = []) := by rw [toList_data]; cases u.ho.data.toList <;> rfl
            have heP : u.pa.toList.isEmpty = decide (u.pa.data.toList = []) := by rw [toList_data]; cases u.pa.data.toList <;> rfl
            have HEH := Lib.hid heH
            have HEP := Lib.hid heP
            clear k heH heP c1
            go_upto_region 19 with (fail)
            go_cut [164] from 146 to 163 (fun v164 wx => v164 = .bool (u.oh && decide (u.ho.data.toList = []) && !hu) ∧ w3 = wx)
            case first =>
              have HOHC := Lib.hid c10
              clear c4
              rcases HUS.out with ⟨hu0, hu1⟩ | ⟨hu0, gu, hu1, hgu⟩
              all_goals
                rw [hu1] at c2
                have HU0 := Lib.hid hu0
                clear hu1 hu0
                generalize hoh : u.oh = oh at *
                cases oh
                all_goals cases hE : u.ho.toList.isEmpty
                all_goals
                  go_wp2
                  go_meet
                  case rel => exact ⟨by first | rfl | (rw [HU0.out, ← HEH.out, hE]; rfl), rfl⟩
            case rest =>
              obtain ⟨rfl, rfl⟩ := hcut
              obtain ⟨b1, hb1⟩ : ∃ b1, b1 = (u.oh && decide (u.ho.data.toList = []) && !hu) := ⟨_, rfl⟩
              rw [← hb1]
              have HB1 := Lib.hid hb1
              clear hb1 c10
              cases b1
              · go_upto_region 20 with (fail)
                go_cut [183] from 164 to 182 (fun v183 wx => v183 = .bool (decide (u.ho.data.toList ≠ []) || decide (u.pa.data.toList ≠ []) || hu) ∧ w3 = wx)
                case first =>
                  have heH2 : decide (u.ho.data.toList ≠ []) = !u.ho.toList.isEmpty := by rw [HEH.out]; cases u.ho.data.toList <;> rfl
                  have heP2 : decide (u.pa.data.toList ≠ []) = !u.pa.toList.isEmpty := by rw [HEP.out]; cases u.pa.data.toList <;> rfl
                  have HEH2 := Lib.hid heH2
                  have HEP2 := Lib.hid heP2
                  clear heH2 heP2
                  rcases HUS.out with ⟨hu0, hu1⟩ | ⟨hu0, gu, hu1, hgu⟩
                  all_goals
                    rw [hu1] at c2
                    have HU0 := Lib.hid hu0
                    clear hu1 hu0
                    cases hE : u.ho.toList.isEmpty
                    all_goals cases hP : u.pa.toList.isEmpty
                    all_goals
                      go_wp2
                      go_meet
                      case rel => exact ⟨by first | rfl | (rw [HU0.out, HEH2.out, HEP2.out, hE, hP]; rfl), rfl⟩
                case rest =>
                  obtain ⟨rfl, rfl⟩ := hcut
                  obtain ⟨b2, hb2⟩ : ∃ b2, b2 = (decide (u.ho.data.toList ≠ []) || decide (u.pa.data.toList ≠ []) || hu) := ⟨_, rfl⟩
                  rw [← hb2]
                  have HB2 := Lib.hid hb2
                  clear hb2 c4 c3 c2
                  go_upto_if 183 with (fail)
                  go_cut [] from 183 to 184 (fun wx => ∃ cur : L, Hid (cur = u.sc.data.toList ++ [58] ++ (if b2 = true then [47, 47] else [])) ∧ cur.length ≤ 2000000000000 ∧ Hid (BD w wx cur))
                  case first =>
                    cases b2
                    · go_wp2
                      go_meet
                      case rel => exact ⟨_, Lib.hid (by simp), by simp [size_len]; omega, HBD⟩
                    · go_wp2_with (fail)
                      refine Calls.mono (bd_str w w3 _ ⟨#[47, 47]⟩ HBD.out (by simp [size_len]; show _ + 2 ≤ _; omega)) ?_
                      rintro e w4 ⟨rfl, h4⟩
                      have H4 := Lib.hid h4
                      clear h4
                      go_wp2
                      go_meet
                      case rel => exact ⟨_, Lib.hid (by simp), by simp [size_len]; omega, H4⟩
                  case rest =>
                    obtain ⟨cur, HC, hcl, HBD2⟩ := hcut
                    have k := blk_below HG.out HBD2.out.2 hlt
                    have c2 : wc.cell? ⟨g, 2, none⟩ = some u.us := blk_cell k 2
                    clear k HBD
                    go_upto_region 23 with (fail)
                    go_cut [8, 190] from 185 to 189 (fun v8 v190 wx => v8 = u.us ∧ v190 = .bool hu ∧ wc = wx)
                    case first =>
                      rcases HUS.out with ⟨hu0, hu1⟩ | ⟨hu0, gu, hu1, hgu⟩
                      all_goals
                        have HU0 := Lib.hid hu0
                        have HU1 := Lib.hid hu1
                        rw [hu1]
                        clear hu1 hu0 c2
                        go_wp2
                        go_meet
                        case rel => exact ⟨HU1.out.symm, by rw [HU0.out], rfl⟩
                    case rest =>
                      obtain ⟨rfl, rfl, rfl⟩ := hcut
                      go_upto_if 190 with (fail)
                      go_cut [8] from 190 to 194 (fun v8 wx => ∃ cur2 : L, Hid (cur2 = cur ++ uiF hu un pw ps) ∧ cur2.length ≤ 9000000000000 ∧ Hid (BD w wx cur2))
                      case first =>
                        rcases HUS.out with ⟨hu0, hu1⟩ | ⟨hu0, gu, hu1, hgu⟩
                        · have HU0 := Lib.hid hu0
                          rw [hu1, hu0]
                          clear hu1 hu0 c2
                          go_wp2
                          go_meet
                          case rel => exact ⟨cur, Lib.hid (by rw [HU0.out]; unfold uiF; simp), by omega, HBD2⟩
                        · have HU0 := Lib.hid hu0
                          rw [hu1, hu0]
                          have HKU := Lib.hid (blk_below hgu HBD2.out.2 (Array.getElem?_eq_some_iff.1 hgu).1)
                          have HTU := Lib.hid (HT.out.up HBD2.out.2 hpos)
                          have hul := ui_len (hu := hu) (ps := ps) z9 z10
                          rw [hu0] at hul
                          have HUL := Lib.hid hul
                          clear hu1 hu0 c2 hgu hul
                          go_wp2_with (fail)
                          refine Calls.mono (ustr_any gu un pw ps _ HTU.out HKU.out (by omega) (by omega)) ?_
                          rintro e w5 ⟨q, rfl, hq, hb5⟩
                          have hq2 : q.size + 1 ≤ 6000000000010 := by
                            have := HUL.out
                            unfold uiF at this
                            rw [if_pos rfl, ← hq.out] at this
                            simpa [size_len] using this
                          have HBD3 := Lib.hid (HBD2.out.below hb5)
                          clear hb5
                          go_wp2_with (fail)
                          refine Calls.mono (bd_str w w5 cur q HBD3.out (by omega)) ?_
                          rintro e w6 ⟨rfl, h6⟩
                          have H6 := Lib.hid h6
                          clear h6 HBD3
                          go_wp2_with (fail)
                          refine Calls.mono (bd_byte w w6 _ 64 H6.out (by simp [size_len]; omega)) ?_
                          rintro e w7 ⟨rfl, h7⟩
                          have H7 := Lib.hid h7
                          clear h7 H6
                          go_wp2
                          go_meet
                          case rel => exact ⟨_, Lib.hid (by rw [HU0.out]; unfold uiF; rw [if_pos rfl, hq.out, List.append_assoc]), by simp [size_len]; omega, H7⟩
                      case rest =>
                        obtain ⟨cur2, HC2, hcl2, HBD4⟩ := hcut
                        have k := blk_below HG.out HBD4.out.2 hlt
                        have c3 : wc.cell? ⟨g, 3, none⟩ = some (.string u.ho) := blk_cell k 3
                        have HTH := Lib.hid (HT.out.up HBD4.out.2 hpos)
                        have HAE := Lib.hid (auth_eq (ui := uiF hu un pw ps) HB1.out HB2.out (fun h => by unfold uiF; rw [h]; rfl))
                        clear k HBD2 c2
                        cases hE : u.ho.toList.isEmpty
                        · have hne : u.ho.data.toList ≠ [] := by rw [toList_data] at hE; intro h; rw [h] at hE; exact absurd hE (by decide)
                          go_wp2_with (fail)
                          refine Calls.mono (escape_any u.ho 4 _ HTH.out (by decide) (by omega)) ?_
                          rintro e w5 ⟨q, rfl, hq, hb5⟩
                          have HQH := Lib.hid (hq.out.trans (host_esc HH.out.ho))
                          have hqz : q.size = u.ho.size := by rw [← size_len, HQH.out, size_len]
                          have HBD5 := Lib.hid (HBD4.out.below hb5)
                          clear hb5 c3 hq
                          go_wp2_with (fail)
                          refine Calls.mono (bd_str w w5 cur2 q HBD5.out (by omega)) ?_
                          rintro e w6 ⟨rfl, h6⟩
                          have H6 := Lib.hid h6
                          clear h6 HBD5 hqz
                          go_wp2
                          go_meet
                          case rel =>
                            refine ⟨_, Lib.hid ?_, ?_, H6⟩
                            · rw [HAE.out, HC2.out, HC.out, HQH.out]; simp
                            · rw [List.length_append, HQH.out, size_len]; omega
                        · have he : u.ho.data.toList = [] := by rw [toList_data] at hE; exact List.isEmpty_iff.1 hE
                          have HE := Lib.hid he
                          clear he
                          go_wp2
                          go_meet
                          case rel => exact ⟨cur2, Lib.hid (by rw [HAE.out, HC2.out, HC.out, HE.out]; simp), by omega, HBD4⟩
              · go_wp2
                go_meet
                case rel => exact ⟨_, Lib.hid (by unfold authS; rw [if_pos HB1.out.symm, List.append_nil]), by simp [size_len]; omega, HBD⟩
          case rest =>
            obtain ⟨cur, HC, hcl, HBD2⟩ := hcut
            have k := blk_below HG.out HBD2.out.2 hlt
            have HTH := Lib.hid (HT.out.up HBD2.out.2 hpos)
            have HPQ := Lib.hid (HH.out.pq HOP.out)
            have K := Lib.hid k
            clear k HBD c1 c0
            go_wp2_with (fail)
            refine Calls.mono (escPath_any g u p _ HTH.out K.out HPQ.out.2 (by omega) HPQ.out.1) ?_
            rintro e w5 ⟨q, rfl, rfl, hb5⟩
            have HBD5 := Lib.hid (HBD2.out.below hb5)
            have k := blk_below HG.out HBD5.out.2 hlt
            have c2 : w5.cell? ⟨g, 2, none⟩ = some u.us := blk_cell k 2
            have c3 : w5.cell? ⟨g, 3, none⟩ = some (.string u.ho) := blk_cell k 3
            have c10 : w5.cell? ⟨g, 10, none⟩ = some (.bool u.oh) := blk_cell k 10
            clear hb5 k HBD2 K HTH
            go_upto_region 30 with (fail)
            go_cut [227] from 206 to 226 (fun v227 wx => v227 = .bool false ∧ w5 = wx)
            case first =>
              have HLO := Lib.hid (HH.out.lost HOP.out)
              generalize hoh : u.oh = oh at *
              cases oh
              · go_wp2
                go_meet
                case rel => exact ⟨rfl, rfl⟩
              · cases hE : u.ho.toList.isEmpty
                · go_wp2
                  go_meet
                  case rel => exact ⟨rfl, rfl⟩
                · have he : u.ho.data.toList = [] := by rw [toList_data] at hE; exact List.isEmpty_iff.1 hE
                  rcases HUS.out with ⟨hu0, hu1⟩ | ⟨hu0, gu, hu1, hgu⟩
                  · have hpx : Lib.hasPrefix q.data.toList (⟨#[47, 47]⟩ : ByteArray).data.toList = false := HLO.out rfl he hu0
                    have HPX := Lib.hid hpx
                    rw [hu1] at c2
                    clear hu1 hu0 he hpx
                    go_wp2_with (fail)
                    refine Calls.mono (Tryz.strings_HasPrefix q ⟨#[47, 47]⟩ _) ?_
                    rintro e w6 ⟨rfl, rfl⟩
                    rw [HPX.out]
                    go_wp2
                    go_meet
                    case rel => exact ⟨rfl, rfl⟩
                  · rw [hu1] at c2
                    clear hu1 hu0 he hgu
                    go_wp2
                    go_meet
                    case rel => exact ⟨rfl, rfl⟩
            case rest =>
              obtain ⟨rfl, rfl⟩ := hcut
              go_upto_region 33 with (fail)
              obtain ⟨bb, hbb⟩ : ∃ bb, bb = rootB u q.data.toList := ⟨_, rfl⟩
              have HBB := Lib.hid hbb
              go_cut [244] from 227 to 243 (fun v244 wx => v244 = .bool bb ∧ w5 = wx)
              case first =>
                clear hbb
                cases hQ : q.toList.isEmpty
                · have hqne : q.data.toList ≠ [] := by rw [toList_data] at hQ; intro h; rw [h] at hQ; exact absurd hQ (by decide)
                  have hqp : 0 < q.size := by rw [← size_len]; exact List.length_pos_iff.2 hqne
                  by_cases h47 : q[0].toNat = 47
                  · have hb47 : ((q[0].toNat : Int) == 47) = true := by rw [beq_iff_eq]; omega
                    have hb48 : ((q[0].toNat : Int) != 47) = false := by rw [bne, hb47]; rfl
                    have hb0 : bb = false := by
                      rw [HBB.out]; unfold rootB
                      rw [get_opt q 0 hqp, show q[0] = 47 from UInt8.toNat_inj.1 h47]; simp
                    subst hb0
                    clear h47 hqne
                    go_wp2
                    go_meet
                    case rel => exact ⟨rfl, rfl⟩
                  · have hb47 : ((q[0].toNat : Int) == 47) = false := by rw [beq_eq_false_iff_ne]; omega
                    have hb48 : ((q[0].toNat : Int) != 47) = true := by rw [bne, hb47]; rfl
                    have hne47 : q.data.toList[0]? ≠ some 47 := by
                      rw [get_opt q 0 hqp]; intro h; exact h47 (by rw [Option.some.inj h]; rfl)
                    cases hO : u.ho.toList.isEmpty
                    · have hone : u.ho.data.toList ≠ [] := by rw [toList_data] at hO; intro h; rw [h] at hO; exact absurd hO (by decide)
                      have hb0 : bb = true := by
                        rw [HBB.out]; unfold rootB
                        rw [decide_eq_true hqne, decide_eq_true hne47, decide_eq_true hone]; rfl
                      subst hb0
                      clear h47 hqne hone hne47
                      go_wp2
                      go_meet
                      case rel => exact ⟨rfl, rfl⟩
                    · have hoe : u.ho.data.toList = [] := by rw [toList_data] at hO; exact List.isEmpty_iff.1 hO
                      have hb0 : bb = false := by
                        rw [HBB.out]; unfold rootB
                        rw [hoe]; simp
                      subst hb0
                      clear h47 hqne hoe hne47
                      go_wp2
                      go_meet
                      case rel => exact ⟨rfl, rfl⟩
                · have hqe : q.data.toList = [] := by rw [toList_data] at hQ; exact List.isEmpty_iff.1 hQ
                  have hb0 : bb = false := by
                    rw [HBB.out]; unfold rootB
                    rw [hqe]; rfl
                  subst hb0
                  clear hqe
                  go_wp2
                  go_meet
                  case rel => exact ⟨rfl, rfl⟩
              case rest =>
                obtain ⟨rfl, rfl⟩ := hcut
                have hcne : ((cur.length : Int) == 0) = false := by
                  rw [beq_eq_false_iff_ne]
                  have := HC.out
                  have : cur.length ≠ 0 := by rw [this]; simp
                  omega
                have hcne2 : (((cur.length + 1 : Nat) : Int) == 0) = false := by rw [beq_eq_false_iff_ne]; omega
                have hcne3 : ((cur.length : Int) + 1 == 0) = false := by rw [beq_eq_false_iff_ne]; omega
                clear c2 c3 c10 hbb
                cases bb
                · go_wp2_with (fail)
                  refine Calls.mono (Tryz.Builder_Len w.heap.size w.heap.size (Lib.byteCells cur) _ (.inr HBD5.out.1)) ?_
                  rintro e w6 ⟨rfl, rfl⟩
                  rw [Lib.byteCells_length]
                  go_wp2_with (fail)
                  refine Calls.mono (bd_str w _ cur q HBD5.out (by omega)) ?_
                  rintro e w7 ⟨rfl, h7⟩
                  have H7 := Lib.hid h7
                  clear h7 HBD5
                  go_wp2
                  go_meet
                  case rel => exact ⟨_, Lib.hid (by unfold bodyS2; rw [if_neg (by rw [HOP.out]; simp), HC.out, ← HBB.out]; simp), by simp [size_len]; omega, H7⟩
                · go_wp2_with (fail)
                  refine Calls.mono (bd_byte w _ cur 47 HBD5.out (by omega)) ?_
                  rintro e w6 ⟨rfl, h6⟩
                  have H6 := Lib.hid h6
                  clear h6 HBD5
                  go_wp2_with (fail)
                  refine Calls.mono (Tryz.Builder_Len w.heap.size w.heap.size (Lib.byteCells (cur ++ [47])) _ (.inr H6.out.1)) ?_
                  rintro e w6 ⟨rfl, rfl⟩
                  rw [Lib.byteCells_length, List.length_append, List.length_singleton]
                  go_wp2_with (fail)
                  refine Calls.mono (bd_str w _ _ q H6.out (by simp; omega)) ?_
                  rintro e w7 ⟨rfl, h7⟩
                  have H7 := Lib.hid h7
                  clear h7 H6
                  go_wp2
                  go_meet
                  case rel => exact ⟨_, Lib.hid (by unfold bodyS2; rw [if_neg (by rw [HOP.out]; simp), HC.out, ← HBB.out]; simp), by simp [size_len]; omega, H7⟩
      case rest =>
        obtain ⟨cur, HC, hcl, HBD2⟩ := hcut
        have k := blk_below HG.out HBD2.out.2 hlt
        have c6 : wc.cell? ⟨g, 6, none⟩ = some (.string u.rq) := blk_cell k 6
        have c9 : wc.cell? ⟨g, 9, none⟩ = some (.bool u.fq) := blk_cell k 9
        clear k c0 c1 HBD
        go_upto_region 40 with (fail)
        go_cut [269] from 259 to 268 (fun v269 wx => v269 = .bool (u.fq || decide (u.rq.data.toList ≠ [])) ∧ wc = wx)
        case first =>
          have he2 : decide (u.rq.data.toList ≠ []) = !u.rq.toList.isEmpty := by rw [toList_data]; cases u.rq.data.toList <;> rfl
          have HE2 := Lib.hid he2
          clear he2
          generalize hfq : u.fq = fq at *
          cases fq
          all_goals cases hQ : u.rq.toList.isEmpty
          all_goals
            go_wp2
            go_meet
            case rel => exact ⟨by first | rfl | (rw [HE2.out, hQ]; rfl), rfl⟩
        case rest =>
          obtain ⟨rfl, rfl⟩ := hcut
          obtain ⟨b3, hb3⟩ : ∃ b3, b3 = (u.fq || decide (u.rq.data.toList ≠ [])) := ⟨_, rfl⟩
          rw [← hb3]
          have HB3 := Lib.hid hb3
          clear hb3 c9
          go_upto_if 269 with (fail)
          go_cut [] from 269 to 275 (fun wx => ∃ cur2 : L, Hid (cur2 = cur ++ qryS u) ∧ cur2.length ≤ 100000000000000 ∧ Hid (BD w wx cur2))
          case first =>
            cases b3
            · go_wp2
              go_meet
              case rel => exact ⟨cur, Lib.hid (by unfold qryS; rw [← HB3.out]; simp), by omega, HBD2⟩
            · go_wp2_with (fail)
              refine Calls.mono (bd_byte w wc cur 63 HBD2.out (by omega)) ?_
              rintro e w4 ⟨rfl, h4⟩
              have H4 := Lib.hid h4
              have k := blk_below HG.out H4.out.2 hlt
              have c6 : w4.cell? ⟨g, 6, none⟩ = some (.string u.rq) := blk_cell k 6
              clear h4 k HBD2
              go_wp2_with (fail)
              refine Calls.mono (bd_str w w4 _ u.rq H4.out (by simp; omega)) ?_
              rintro e w5 ⟨rfl, h5⟩
              have H5 := Lib.hid h5
              clear h5 H4
              go_wp2
              go_meet
              case rel => exact ⟨_, Lib.hid (by unfold qryS; rw [← HB3.out]; simp), by simp [size_len]; omega, H5⟩
          case rest =>
            obtain ⟨cur2, HC2, hcl2, HBD3⟩ := hcut
            have k := blk_below HG.out HBD3.out.2 hlt
            have c5 : wc.cell? ⟨g, 5, none⟩ = some (.string u.fr) := blk_cell k 5
            clear k c6 HBD2
            go_upto_if 280 with (fail)
            go_cut [] from 280 to 284 (fun wx => ∃ cur3 : L, Hid (cur3 = cur2 ++ frgS u fb.data.toList) ∧ Hid (BD w wx cur3))
            case first =>
              cases hE : u.fr.toList.isEmpty
              · have hne : u.fr.data.toList ≠ [] := by rw [toList_data] at hE; intro h; rw [h] at hE; exact absurd hE (by decide)
                have HNE := Lib.hid hne
                clear hne hE
                go_wp2_with (fail)
                refine Calls.mono (bd_byte w wc cur2 35 HBD3.out (by omega)) ?_
                rintro e w4 ⟨rfl, h4⟩
                have H4 := Lib.hid h4
                have K := Lib.hid (blk_below HG.out H4.out.2 hlt)
                have HTH := Lib.hid (HT.out.up H4.out.2 hpos)
                clear h4 HBD3 c5
                go_wp2_with (fail)
                refine Calls.mono (escFrag_any g u fb _ HTH.out K.out HH.out.fq.2 (by omega) HH.out.fq.1) ?_
                rintro e w5 ⟨q, rfl, rfl, hb5⟩
                have H5 := Lib.hid (H4.out.below hb5)
                clear hb5 H4 K HTH
                go_wp2_with (fail)
                refine Calls.mono (bd_str w w5 _ q H5.out (by simp; omega)) ?_
                rintro e w6 ⟨rfl, h6⟩
                have H6 := Lib.hid h6
                clear h6 H5
                go_wp2
                go_meet
                case rel => exact ⟨_, Lib.hid (by unfold frgS; rw [if_pos HNE.out]; simp), H6⟩
              · have he : u.fr.data.toList = [] := by rw [toList_data] at hE; exact List.isEmpty_iff.1 hE
                have HE := Lib.hid he
                clear he
                go_wp2
                go_meet
                case rel => exact ⟨cur2, Lib.hid (by unfold frgS; rw [if_neg (by rw [HE.out]; simp)]; simp), HBD3⟩
            case rest =>
              obtain ⟨cur3, HC3, HBD4⟩ := hcut
              clear c5 HBD3
              go_wp2_with (fail)
              refine Calls.mono (Tryz.Builder_String_any w.heap.size w.heap.size cur3 _ (.inr HBD4.out.1) HBD4.out.2.size) ?_
              rintro e w4 ⟨rfl, hb4⟩
              have HB4 := Lib.hid (HBD4.out.2.trans hb4)
              obtain ⟨t, ht⟩ : ∃ t : ByteArray, t = ⟨cur3.toArray⟩ := ⟨_, rfl⟩
              rw [← ht]
              have HT4 := Lib.hid ht
              clear hb4 ht
              go_wp2
              go_ret
              exact ⟨t, rfl, Lib.hid (by rw [HT4.out, ← HC.out, ← HC2.out, ← HC3.out]), HB4.out⟩
end Go.Proofs.YtfkgkkmcaaefnaaGreatDoor.Wk
namespace Go.Proofs
open Go.Shelf
def Tryz.laysPah31_ren : Go.Shelf.Ren := ⟨fun | 31 => 103 | 30 => 120 | 46 => 143 | 47 => 144 | 48 => 145 | n => n, fun | 26 => 39 | 9 => 9 | 3 => 3 | 0 => 0 | 4 => 4 | 30 => 89 | 5 => 5 | 42 => 177 | 48 => 192 | n => n, fun | n => n⟩
theorem Tryz.laysPah31 : Go.Proofs.Lays.ph31 Tryz.prog Tryz.laysPah31_ren := {
  mixed := by kernel_rfl
  f30 := Tryz.func120.trans (congrArg some (by kernel_rfl))
  f31 := Tryz.func103.trans (congrArg some (by kernel_rfl))
  f46 := Tryz.func143.trans (congrArg some (by kernel_rfl))
  f47 := Tryz.func144.trans (congrArg some (by kernel_rfl))
  f48 := Tryz.func145.trans (congrArg some (by kernel_rfl))
  t0 := Tryz.underlying0
  a0 := Tryz.isAgg0
  z0 := Tryz.sizeOf0
  v0 := Tryz.zeroValue0
  t3 := Tryz.underlying3
  a3 := Tryz.isAgg3
  z3 := Tryz.sizeOf3
  v3 := Tryz.zeroValue3
  t4 := Tryz.underlying4
  a4 := Tryz.isAgg4
  z4 := Tryz.sizeOf4
  v4 := Tryz.zeroValue4
  t5 := Tryz.underlying5
  a5 := Tryz.isAgg5
  z5 := Tryz.sizeOf5
  v5 := Tryz.zeroValue5
  t9 := Tryz.underlying9
  a9 := Tryz.isAgg9
  z9 := Tryz.sizeOf9
  v9 := Tryz.zeroValue9
  t26 := Tryz.underlying39
  a26 := Tryz.isAgg39
  z26 := Tryz.sizeOf39
  v26 := Tryz.zeroValue39
  t30 := Tryz.underlying89
  a30 := Tryz.isAgg89
  z30 := Tryz.sizeOf89
  v30 := Tryz.zeroValue89
  t42 := Tryz.underlying177
  a42 := Tryz.isAgg177
  z42 := Tryz.sizeOf177
  v42 := Tryz.zeroValue177
  t48 := Tryz.underlying192
  a48 := Tryz.isAgg192
  z48 := Tryz.sizeOf192
  v48 := Tryz.zeroValue192
  info5 := by kernel_rfl }
open Go.RowKit Go.Lib in
theorem Tryz.path_Join_rules (bk o c : Nat) (xs : List ByteArray) (w : World) (hcells : ∀ (j : Nat) x, xs[j]? = some x → w.cell? ⟨bk, o + j, none⟩ = some (.string x)) (hbk : bk < w.heap.size) (hlen : Pa.lens (xs.map (·.data.toList)) + xs.length ≤ 281474976710656) :
    Calls Tryz.prog 103 #[.slice (some ⟨bk, o, none⟩) xs.length c] w fun e w' => e = .returned (.string ⟨(Pa.join (xs.map (·.data.toList))).toArray⟩) ∧ Below w.heap.size w w' := Any.path_Join_rules Tryz.laysPah31 bk o c xs w hcells hbk hlen
end Go.Proofs
namespace Go.Proofs.YtfkgkkmcaaefnaaGreatDoor.Wk
open Go.RowKit Go.Proofs.YtfkgkkmcaaefnaaGreatDoor.Pu

theorem info9 : (Tryz.prog.info? 9).map (fun i => (i.zero, i.size, i.bytes)) = some (some (.string ⟨#[]⟩), 1, 16) := by kernel_rfl
theorem addr_add (b o j : Nat) : (⟨b, o, none⟩ : Addr).add j = ⟨b, o + j, none⟩ := by
  unfold Addr.add
  split
  · rename_i h; rw [h]; rfl
  · rfl
/-- a row of strings -/
def RowS (w : World) (g : Nat) (ys : List ByteArray) : Prop := ∃ cur : Array Value, w.heap[g]? = some (.cells cur 9 (0, 0)) ∧ ∀ (j : Nat) y, ys[j]? = some y → cur[j]? = some (.string y)
theorem RowS.cell {w : World} {g : Nat} {ys : List ByteArray} (h : RowS w g ys) {j : Nat} {y : ByteArray} (hj : ys[j]? = some y) : w.cell? ⟨g, j, none⟩ = some (.string y) := by
  obtain ⟨cur, h1, h2⟩ := h
  rw [blk_cell h1]; exact h2 j y hj
theorem RowS.free {w : World} {g : Nat} {ys : List ByteArray} (h : RowS w g ys) (j : Nat) : w.frozen? ⟨g, j, none⟩ = false := by
  obtain ⟨cur, h1, h2⟩ := h
  exact blk_frozen h1 j
theorem RowS.lt {w : World} {g : Nat} {ys : List ByteArray} (h : RowS w g ys) : g < w.heap.size := by
  obtain ⟨cur, h1, h2⟩ := h
  exact (Array.getElem?_eq_some_iff.1 h1).1
theorem RowS.below {w w' : World} {B g : Nat} {ys : List ByteArray} (h : RowS w g ys) (hb : Below B w w') (hg : g < B) : RowS w' g ys := by
  obtain ⟨cur, h1, h2⟩ := h
  exact ⟨cur, blk_below h1 hb hg, h2⟩
theorem RowS.set0 {w : World} {g : Nat} {y : ByteArray} {ys : List ByteArray} (h : RowS w g (y :: ys)) (z : ByteArray) : RowS (w.setCell ⟨g, 0, none⟩ (.string z)) g (z :: ys) := by
  obtain ⟨cur, h1, h2⟩ := h
  refine ⟨_, blk_set h1 0 _, fun j x hj => ?_⟩
  have h0 := (Array.getElem?_eq_some_iff.1 (h2 0 y rfl)).1
  cases j with
  | zero =>
    have : z = x := by simpa using hj
    rw [← this, Array.getElem?_setIfInBounds_self, if_pos h0]
  | succ j =>
    rw [Array.getElem?_setIfInBounds_ne (by omega)]
    exact h2 (j + 1) x (by simpa using hj)
theorem RowS.of_owns {w : World} {base n : Nat} {v : Value} {ys : List ByteArray} (h : w.ownsRow base 9 1 v n (ys.map Value.string)) (hn : n ≠ 0) : ∃ g cap, v = .slice (some ⟨g, 0, none⟩) n cap ∧ base ≤ g ∧ RowS w g ys ∧ n ≤ cap ∧ cap ≤ maxLen := by
  obtain ⟨_, ⟨_, h0⟩ | ⟨g, cap, cur, h1, h2, h3, h4, h5, h6, h7⟩⟩ := h
  · exact absurd h0 hn
  · refine ⟨g, cap, h1, h2, ⟨cur, h3, fun j y hj => ?_⟩, h4, h5⟩
    have : (ys.map Value.string)[j]? = some (.string y) := by rw [List.getElem?_map, hj]; rfl
    rw [← h7, List.getElem?_take] at this
    split at this
    · rw [← Array.getElem?_toList]; exact this
    · cases this

/-- q is p, joined to the elements xs -/
def Joined (q p : L) (xs : List ByteArray) : Prop := ∃ ls, q = jPath p (xs.map (·.data.toList)) ls
theorem len_le_lens {xs : List ByteArray} {x : ByteArray} (h : x ∈ xs) : x.size ≤ Lib.Pa.lens (xs.map (·.data.toList)) := by
  induction xs with
  | nil => cases h
  | cons a t ih =>
    unfold Lib.Pa.lens at *
    rw [List.map_cons, List.map_cons, List.sum_cons]
    rcases List.mem_cons.1 h with rfl | h
    · rw [size_len]; omega
    · have := ih h; omega
theorem suf_ends (l : L) : Lib.hasSuffix l (⟨#[47]⟩ : ByteArray).data.toList = endsB l := by
  show ([47] : L).isSuffixOf l = _
  unfold endsB
  rw [Bool.eq_iff_iff, decide_eq_true_iff, List.isSuffixOf_iff_suffix]
  constructor
  · rintro ⟨t, rfl⟩; simp
  · intro h
    rcases List.eq_nil_or_concat l with rfl | ⟨t, x, rfl⟩
    · simp at h
    · simp only [List.concat_eq_append] at h ⊢
      have : x = 47 := by simpa using h
      exact ⟨t, by rw [this]⟩
set_option maxHeartbeats 4000000 in
set_option maxRecDepth 100000 in
theorem joinPath_any (g : Nat) (u : UrlB) (p : ByteArray) (bk o c : Nat) (xs : List ByteArray) (w : World) (hT : Tab w) (hg : w.heap[g]? = some (urlObj u)) (hp : charsB [58, 64, 47] true p.data.toList = true) (hz : p.size ≤ 4000000) (hq : PathQ p u.pa u.rp) (ou : Option Addr) (hus : u.us = .pointer ou)
    (hcells : ∀ (j : Nat) x, xs[j]? = some x → w.cell? ⟨bk, o + j, none⟩ = some (.string x)) (hbk : bk < w.heap.size) (hne : xs ≠ []) (hn : xs.length ≤ 4000000) (hsum : Lib.Pa.lens (xs.map (·.data.toList)) ≤ 100000000) (hc : ∀ x ∈ xs, charsB [58, 64, 47] true x.data.toList = true) (h0 : p.data.toList = [] ∨ p.data.toList[0]? = some 47) :
    Calls Tryz.prog 80 #[ptr g, .slice (some ⟨bk, o, none⟩) xs.length c] w fun e w' => ∃ (g' : Nat) (pa rp q : ByteArray), e = .returned (.tuple #[ptr g', .nilIface]) ∧ w'.heap[g']? = some (urlObj { u with pa := pa, rp := rp }) ∧ Hid (PathOf 1 q pa rp) ∧ Hid (charsB [58, 64, 47] true q.data.toList = true) ∧ Hid (q.size ≤ 200000001) ∧ Hid (Joined q.data.toList p.data.toList xs) ∧ w.heap.size ≤ g' ∧ Below w.heap.size w w' := by
  have hlt : g < w.heap.size := (Array.getElem?_eq_some_iff.1 hg).1
  have HG := Lib.hid hg
  have HT := Lib.hid hT
  have HP := Lib.hid hp
  have HQ := Lib.hid hq
  have HC := Lib.hid hcells
  have HCH := Lib.hid hc
  have HNE := Lib.hid hne
  have H0 := Lib.hid h0
  clear hg hT hp hq hcells hc hne h0
  obtain ⟨i0, hi, hz0, hz1, hz2⟩ := info_parts info9
  have hpos : 0 < w.heap.size := HT.out.pos
  go_enter Tryz.func80, Tryz.ntmps80
  go_wp2_with (fail)
  refine Calls.mono (escPath_any g u p _ HT.out HG.out HP.out (by omega) HQ.out) ?_
  rintro e w1 ⟨q, rfl, rfl, hb1⟩
  have HB1 := Lib.hid hb1
  have hlt1 : bk < w1.heap.size := Nat.lt_of_lt_of_le hbk hb1.size
  have HK1 := Lib.hid (blk_new w1 (.cells #[.string q] 9))
  have HB1a := Lib.hid (hb1.alloc hb1.size (.cells #[.string q] 9))
  have HNW := Lib.hid (show ∀ (j : Nat) (v : Value), (xs.map Value.string)[j]? = some v → (w1.alloc (.cells #[.string q] 9)).cell? ((⟨bk, o, none⟩ : Addr).add j) = some v from by
    intro j v hj
    rw [List.getElem?_map] at hj
    obtain ⟨x, hx, rfl⟩ := Option.map_eq_some_iff.1 hj
    have := (HB1a.out.cell (p := ⟨bk, o + j, none⟩) hbk).trans (HC.out j x hx)
    rw [addr_add]; exact this)
  have HOW := Lib.hid (show (w1.alloc (.cells #[.string q] 9)).ownsRow w.heap.size 9 1 (.slice (some ⟨w1.heap.size, 0, none⟩) 1 1) 1 [.string q] from
    ⟨rfl, Or.inr ⟨_, 1, _, rfl, HB1.out.size, HK1.out, Nat.le_refl _, by decide, rfl, rfl⟩⟩)
  have hsz1 : w.heap.size ≤ (w1.alloc (.cells #[.string q] 9)).heap.size := HB1a.out.size
  clear hb1
  go_wp2_with (at_builtin; refine wpList_append_own _ rfl (.tmp 11) (.tmp 12) 39 rfl w.heap.size 9 i0 (.string ⟨#[]⟩) 1 16 Tryz.underlying39 hi hz0 hz1 hz2 rfl (by decide) _ _ _ rfl HOW.out ⟨bk, o, none⟩ xs.length c (xs.map Value.string) rfl (by rw [List.length_map, Nat.mul_one]) HNW.out ?c2 ?c3 ?c4 hsz1 ?_)
  case c2 => intro v hv; obtain ⟨x, _, rfl⟩ := List.mem_map.1 hv; rfl
  case c3 => unfold maxLen; omega
  case c4 => omega
  intro v' w2 hown hgrow _
  obtain ⟨g1, cap, rfl, hg1, hrow, hcap, hcap2⟩ := RowS.of_owns (ys := q :: xs) (n := xs.length + 1) (by rw [Nat.add_comm xs.length 1]; exact hown) (by omega)
  have HB2 := Lib.hid (HB1a.out.grown hgrow hsz1 (by intro k hk; cases hk; exact HB1.out.size))
  have HR2 := Lib.hid hrow
  have hz2 : w.heap.size ≤ w2.heap.size := HB2.out.size
  have hlp : (q.data.toList = [] ∧ q = ⟨#[]⟩) ∨ (q.data.toList ≠ [] ∧ q.data.toList[0]? = some 47) := by
    rcases H0.out with h | h
    · exact Or.inl ⟨h, ba_nil h⟩
    · exact Or.inr ⟨by intro e; rw [e] at h; simp at h, h⟩
  have HLP := Lib.hid hlp
  clear hown hgrow hrow hlp HOW HNW HK1 HB1a
  have c0 : w2.cell? ⟨g1, 0, none⟩ = some (.string q) := HR2.out.cell (j := 0) rfl
  have f0 : w2.frozen? ⟨g1, 0, none⟩ = false := HR2.out.free 0
  have hl1 : (0 : Int) < ((xs.length + 1 : Nat) : Int) := by omega
  have hl2 : (0 : Int) < (xs.length : Int) + 1 := by omega
  have hce : Hid (∀ e ∈ xs.map (·.data.toList), charsB [58, 64, 47] true e = true) := Lib.hid (by
    intro e he
    obtain ⟨x, hx, rfl⟩ := List.mem_map.1 he
    exact HCH.out x hx)
  obtain ⟨L0, hL0⟩ : ∃ L0 : L, L0 = Lib.Pa.join ((if q.data.toList = [] then [47] else q.data.toList) :: xs.map (·.data.toList)) := ⟨_, rfl⟩
  have HL0 := Lib.hid hL0
  have hjl : L0.length ≤ 200000000 := by
    have h1 := Lib.Pa.join_length_le ((if q.data.toList = [] then [47] else q.data.toList) :: xs.map (·.data.toList))
    have h2 : (if q.data.toList = [] then [47] else q.data.toList).length ≤ 4000000 := by
      split
      · decide
      · rw [size_len]; exact hz
    rw [← hL0, List.length_cons, List.length_map] at h1
    unfold Lib.Pa.lens at h1 hsum
    rw [List.map_cons, List.sum_cons] at h1
    omega
  have hj1 : ∃ G : List L, Hid (L0 = 47 :: J G) := by
    obtain ⟨G, _, _, g3⟩ := join_clean (if q.data.toList = [] then [47] else q.data.toList) (xs.map (·.data.toList)) (by split <;> simp_all) (by
      rcases HLP.out with ⟨h, _⟩ | ⟨h, h2⟩
      · rw [if_pos h]; rfl
      · rw [if_neg h]; exact h2) (by split; rfl; exact HP.out) hce.out
    exact ⟨G, Lib.hid (by rw [hL0, g3])⟩
  obtain ⟨G, HG1⟩ := hj1
  clear hL0
  go_wp2_with (fail)
  refine Calls.mono (Tryz.strings_HasPrefix q ⟨#[47]⟩ _) ?_
  rintro e wx ⟨rfl, rfl⟩
  obtain ⟨b, hb⟩ : ∃ b, b = Lib.hasPrefix q.data.toList (⟨#[47]⟩ : ByteArray).data.toList := ⟨_, rfl⟩
  rw [← hb]
  have HBq := Lib.hid (show (b = false ∧ q.data.toList = [] ∧ q = ⟨#[]⟩) ∨ (b = true ∧ q.data.toList ≠ []) from by
    rcases HLP.out with ⟨h, h2⟩ | ⟨h, h2⟩
    · exact Or.inl ⟨by rw [hb, h]; rfl, h, h2⟩
    · refine Or.inr ⟨?_, h⟩
      rw [hb]
      cases hd : q.data.toList with
      | nil => exact absurd hd h
      | cons a t =>
        rw [hd] at h2
        have : a = 47 := by simpa using h2
        rw [this]; rfl)
  clear hb HLP
  go_upto_if 18 with (fail)
  go_cut [6] from 19 to 29 (fun v6 wx => ∃ (pj y : ByteArray), v6 = .string pj ∧ Hid (pj.data.toList = (if q.data.toList = [] then L0.drop 1 else L0)) ∧ pj.size ≤ 200000000 ∧ Hid (RowS wx g1 (y :: xs)) ∧ Hid (Below w.heap.size w wx))
  case first =>
    rcases HBq.out with ⟨rfl, he, rfl⟩ | ⟨rfl, he⟩
    · have HE := Lib.hid he
      clear he
      go_upto_region 5 with (fail)
      have HR3 := Lib.hid (HR2.out.set0 ((⟨#[47]⟩ : ByteArray) ++ (⟨#[]⟩ : ByteArray)))
      have HB3 := Lib.hid (HB2.out.setCell (p := ⟨g1, 0, none⟩) hg1 (.string ((⟨#[47]⟩ : ByteArray) ++ (⟨#[]⟩ : ByteArray))))
      have hy : ((⟨#[47]⟩ : ByteArray) ++ (⟨#[]⟩ : ByteArray)).data.toList = [47] := by rw [app_toList]; rfl
      generalize (⟨#[47]⟩ : ByteArray) ++ (⟨#[]⟩ : ByteArray) = y0 at *
      have HY := Lib.hid hy
      generalize wx.setCell ⟨g1, 0, none⟩ (.string y0) = W at *
      clear hy HR2 HB2 c0 f0
      go_wp2_with (fail)
      refine Calls.mono (Tryz.path_Join_rules g1 0 cap (y0 :: xs) W (fun j x hj => by rw [Nat.zero_add]; exact HR3.out.cell hj) HR3.out.lt (by
        rw [List.map_cons, List.length_cons]
        unfold Lib.Pa.lens at hsum ⊢
        rw [List.map_cons, List.sum_cons, HY.out, List.length_singleton]; omega)) ?_
      rintro e wy ⟨rfl, hby⟩
      obtain ⟨c1, hc1⟩ : ∃ c1 : ByteArray, c1 = ⟨(Lib.Pa.join ((y0 :: xs).map (·.data.toList))).toArray⟩ := ⟨_, rfl⟩
      rw [← hc1]
      have HC1 := Lib.hid (show c1.data.toList = L0 by
        rw [hc1, HL0.out, if_pos HE.out, List.map_cons, HY.out])
      have hz3 : c1.size = L0.length := by rw [← size_len, HC1.out]
      have hz4 : (1 : Int) ≤ (c1.size : Int) := by rw [hz3, HG1.out, List.length_cons]; omega
      have hz5 : c1.size ≤ 200000000 := by omega
      have HR4 := Lib.hid (HR3.out.below hby HR3.out.lt)
      have HB4 := Lib.hid (HB3.out.trans (hby.mono HB3.out.size))
      have HX := Lib.hid (show (c1.extract 1 c1.size).data.toList = L0.drop 1 by rw [ext_toList, ← size_len, List.take_length, HC1.out])
      clear hc1 hby hz3 HR3 HB3
      go_wp2
      go_meet
      case rel => exact ⟨_, y0, rfl, Lib.hid (by rw [HX.out, if_pos HE.out]), by rw [ByteArray.size_extract]; omega, HR4, HB4⟩
    · have HE := Lib.hid he
      clear he
      go_wp2_with (fail)
      refine Calls.mono (Tryz.path_Join_rules g1 0 cap (q :: xs) wx (fun j x hj => by rw [Nat.zero_add]; exact HR2.out.cell hj) HR2.out.lt (by
        rw [List.map_cons, List.length_cons]
        unfold Lib.Pa.lens at hsum ⊢
        rw [List.map_cons, List.sum_cons, size_len]; omega)) ?_
      rintro e wy ⟨rfl, hby⟩
      obtain ⟨c1, hc1⟩ : ∃ c1 : ByteArray, c1 = ⟨(Lib.Pa.join ((q :: xs).map (·.data.toList))).toArray⟩ := ⟨_, rfl⟩
      rw [← hc1]
      have HC1 := Lib.hid (show c1.data.toList = L0 by
        rw [hc1, HL0.out, if_neg HE.out, List.map_cons])
      have hz3 : c1.size = L0.length := by rw [← size_len, HC1.out]
      have hz5 : c1.size ≤ 200000000 := by omega
      have HR4 := Lib.hid (HR2.out.below hby HR2.out.lt)
      have HB4 := Lib.hid (HB2.out.trans (hby.mono HB2.out.size))
      clear hc1 hby hz3 HR2 HB2 c0 f0
      go_wp2
      go_meet
      case rel => exact ⟨c1, q, rfl, Lib.hid (by rw [HC1.out, if_neg HE.out]), hz5, HR4, HB4⟩
  case rest =>
    obtain ⟨pj, y, rfl, HPJ, hzp, HR3, HB3⟩ := hcut
    clear HR2 HB2 c0 f0
    obtain ⟨yl, hyl⟩ : ∃ yl, (y :: xs)[xs.length]? = some yl := ⟨_, List.getElem?_eq_getElem (by simp)⟩
    have cl : wc.cell? ⟨g1, xs.length, none⟩ = some (.string yl) := HR3.out.cell hyl
    have hw1 : ((xs.length + 1 : Nat) : Int) - 1 = (xs.length : Int) := by omega
    have hw2 : ((xs.length : Int) + 1) - 1 = (xs.length : Int) := by omega
    have hl3 : (xs.length : Int) < ((xs.length + 1 : Nat) : Int) := by omega
    have hl4 : (xs.length : Int) < (xs.length : Int) + 1 := by omega
    have hyz : yl.size ≤ 9223372036854775807 := by
      have hm : yl ∈ xs := by
        cases hx : xs with
        | nil => exact absurd hx HNE.out
        | cons a t =>
          rw [hx] at hyl
          have : (a :: t)[t.length]? = some yl := by simpa using hyl
          exact List.mem_of_getElem? this
      have := len_le_lens hm
      omega
    have hes : Hid (Lib.hasSuffix pj.data.toList (⟨#[47]⟩ : ByteArray).data.toList = endsB pj.data.toList) := Lib.hid (suf_ends _)
    have hzp2 : pj.size ≤ 9223372036854775807 := by omega
    go_upto_region 7 with (fail)
    go_cut [41] from 30 to 40 (fun v41 wx => ∃ ls : Bool, v41 = .bool (ls && !endsB pj.data.toList) ∧ wc = wx)
    case first =>
      go_wp2_with (fail)
      refine Calls.mono (Tryz.strings_HasSuffix yl ⟨#[47]⟩ _ hyz) ?_
      rintro e wx ⟨rfl, rfl⟩
      obtain ⟨ls, hls⟩ : ∃ ls, ls = Lib.hasSuffix yl.data.toList (⟨#[47]⟩ : ByteArray).data.toList := ⟨_, rfl⟩
      rw [← hls]
      clear hls
      cases ls
      · go_wp2
        go_meet
        case rel => exact ⟨false, rfl, rfl⟩
      · go_wp2_with (fail)
        refine Calls.mono (Tryz.strings_HasSuffix pj ⟨#[47]⟩ _ hzp2) ?_
        rintro e wx ⟨rfl, rfl⟩
        rw [hes.out]
        go_wp2
        go_meet
        case rel => exact ⟨true, rfl, rfl⟩
    case rest =>
      obtain ⟨ls, rfl, rfl⟩ := hcut
      obtain ⟨bb, hbb⟩ : ∃ bb, bb = (ls && !endsB pj.data.toList) := ⟨_, rfl⟩
      rw [← hbb]
      have HBB := Lib.hid hbb
      have hcat : pj.size + 1 ≤ 9223372036854775807 := by omega
      have hcat2 : ¬ (9223372036854775807 < pj.size + 1) := by omega
      clear cl hbb hes
      go_upto_if 41 with (fail)
      go_cut [6] from 42 to 43 (fun v6 wx => ∃ qq : ByteArray, v6 = .string qq ∧ qq.size ≤ 200000001 ∧ Hid (qq.data.toList = jPath q.data.toList (xs.map (·.data.toList)) ls) ∧ wc = wx)
      case first =>
        cases bb
        · go_wp2
          go_meet
          case rel => exact ⟨pj, rfl, by omega, Lib.hid (by unfold jPath; rw [← HL0.out]; simp only; rw [← HPJ.out, ← HBB.out]; rfl), rfl⟩
        · go_wp2
          go_meet
          case rel => exact ⟨pj ++ ⟨#[47]⟩, rfl, by rw [ByteArray.size_append]; show pj.size + 1 ≤ _; omega, Lib.hid (by unfold jPath; rw [← HL0.out]; simp only; rw [← HPJ.out, ← HBB.out, app_toList]; rfl), rfl⟩
      case rest =>
        obtain ⟨qq, rfl, hzq, HQQ, rfl⟩ := hcut
        have HGc := Lib.hid (blk_below HG.out HB3.out hlt)
        have HTc := Lib.hid (HT.out.up HB3.out hpos)
        have hpc : 0 < wc.heap.size := Nat.lt_of_lt_of_le hpos HB3.out.size
        have cg : ∀ j, wc.cell? ⟨g, j, none⟩ = (urlCells u)[j]? := blk_cell HGc.out
        have HKn := Lib.hid (blk_new wc (urlObj u))
        have HBn := Lib.hid (HB3.out.alloc HB3.out.size (urlObj u))
        have HTn := Lib.hid (HT.out.up HBn.out hpos)
        have HCQ := Lib.hid (show charsB [58, 64, 47] true qq.data.toList = true by rw [HQQ.out]; exact (join_path _ _ ls H0.out HP.out hce.out).2)
        clear hcat hcat2
        obtain ⟨sc, op, us, ho, pa0, fr, rq, rp0, rf, fq, oh⟩ := u
        have hus2 : us = .pointer ou := hus
        subst hus2
        go_upto_region 9 with (fail)
        go_upto_region 10 with (fail)
        generalize wc.alloc (urlObj ⟨sc, op, .pointer ou, ho, pa0, fr, rq, rp0, rf, fq, oh⟩) = W at *
        have hge := HB3.out.size
        generalize wc.heap.size = gn at *
        go_wp2_with (fail)
        refine Calls.mono (setPath_any gn _ qq W HTn.out hpc HKn.out (po_ch _ HCQ.out) (by omega)) ?_
        rintro e w3 ⟨rfl, pa, rp, hpo, hk3, hu3⟩
        have HK3 := Lib.hid hk3
        have HB4 := Lib.hid (HBn.out.trans (hu3.below.mono hge))
        clear hk3 hu3
        go_wp2
        go_ret2
        exact ⟨gn, rfl, pa, rp, HK3.out, qq, hpo, HCQ, Lib.hid hzq, Lib.hid ⟨ls, HQQ.out⟩, hge, HB4.out⟩

end Go.Proofs.YtfkgkkmcaaefnaaGreatDoor.Wk
namespace Go.Proofs.YtfkgkkmcaaefnaaGreatDoor.Wk
open Go.RowKit Go.Proofs.YtfkgkkmcaaefnaaGreatDoor.Pu

theorem star_q {q pa rp : ByteArray} (h : PathOf 1 q pa rp) (hc : charsB [58, 64, 47] true q.data.toList = true) (hz : q.size ≤ 200000001) :
    ∃ q3 : ByteArray, q3.data.toList = starP q.data.toList ∧ PathQ q3 pa rp ∧ charsB [58, 64, 47] true q3.data.toList = true ∧ q3.size ≤ 200000001 := by
  unfold starP
  by_cases e : q.data.toList = [37, 50, 65]
  · obtain ⟨h1, h2⟩ := h
    have hd : decB false [37, 50, 65] = [42] := by decide +kernel
    have he : escF 1 [42] = [37, 50, 65] := by decide +kernel
    have hpa : pa = ⟨#[42]⟩ := ba_ext (by rw [h1, e, hd])
    refine ⟨⟨#[42]⟩, by rw [if_pos e], Or.inr ⟨rfl, hpa, ?_⟩, by decide +kernel, by decide⟩
    rcases h2 with h2 | h2
    · exact h2.1
    · exfalso; apply h2.2; rw [h1, e, hd, he]
  · exact ⟨q, by rw [if_neg e], Or.inl ⟨h, e⟩, hc, hz⟩
theorem UserAt.userZ {B : Nat} {w : World} {up : Value} {hu : Bool} {us : L} (h : UserAt B w up hu us) : ∃ un pw ps ou, up = .pointer ou ∧ UserS w up hu un pw ps ∧ un.size ≤ us.length ∧ pw.size ≤ us.length := by
  rcases h with ⟨h1, h2⟩ | ⟨h1, g, un, pw, ps, h2, h3, h4, h5, h6, h7⟩
  · exact ⟨⟨#[]⟩, ⟨#[]⟩, false, none, h2, Or.inl ⟨h1, h2⟩, Nat.zero_le _, Nat.zero_le _⟩
  · refine ⟨un, pw, ps, some ⟨g, 0, none⟩, h2, Or.inr ⟨h1, g, h2, h4⟩, ?_, ?_⟩
    · rw [← size_len, h5]; have := de_len false (us.take (idx [58] us)); rw [List.length_take] at this; omega
    · rw [← size_len, h7]; have := de_len false (us.drop (idx [58] us + 1)); rw [List.length_drop] at this; omega
theorem low_st (c : UInt8) : schemeTail c = true → schemeTail (lowerC c) = true := by
  have h : ∀ n : Fin 256, schemeTail (UInt8.ofNat n.1) = true → schemeTail (lowerC (UInt8.ofNat n.1)) = true := by decide +kernel
  have := h ⟨c.toNat, c.toNat_lt⟩
  simpa using this
theorem low_al (c : UInt8) : alphaN c.toNat = true → alphaN (lowerC c).toNat = true := by
  have h : ∀ n : Fin 256, alphaN (UInt8.ofNat n.1).toNat = true → alphaN (lowerC (UInt8.ofNat n.1)).toNat = true := by decide +kernel
  have := h ⟨c.toNat, c.toNat_lt⟩
  simpa using this
theorem low_scheme {s : L} (h : isScheme s = true) : isScheme (lowerL s) = true := by
  cases s with
  | nil => exact h
  | cons a r =>
    unfold lowerL
    rw [List.map_cons]
    unfold isScheme at *
    rw [Bool.and_eq_true] at *
    refine ⟨low_al a h.1, ?_⟩
    rw [List.all_map, List.all_eq_true]
    intro c hc
    exact low_st c (List.all_eq_true.1 h.2 c hc)
/-- the reference that JoinPath writes -/
abbrev refJ (r : Ref) (ui q : L) : Ref := ⟨true, lowerL r.sc, true, ui ++ (authF r.au).ho, rootP (starP q), r.hq, r.qu, decide (r.fr ≠ []), r.fr⟩
theorem fineJ {r : Ref} (hr : Fine r) (hs : r.hs = true) (ha : r.ha = true) {hu ps : Bool} {un pw : ByteArray} {q : L} (hq : CleanP (rootP (starP q))) (hc : charsB [58, 64, 47] true (rootP (starP q)) = true) : Fine (refJ r (uiF hu un pw ps) q) where
  sch := fun _ => low_scheme (hr.sch hs)
  nsc := fun h => by cases h
  pat := hc
  que := hr.que
  fra := hr.fra
  aut := fun _ => ⟨by rw [auth_new hu ps un pw (host_of (hr.aut ha).1)], clean_head hq⟩
  nau := fun h => by cases h
  nqu := hr.nqu
  nfr := fun h => by simpa using h
  emp := fun _ => Or.inl rfl
theorem root_ch {q : L} (h : charsB [58, 64, 47] true q = true) : charsB [58, 64, 47] true (rootP q) = true := by
  unfold rootP
  split
  · exact ch_app _ _ (by decide) h
  · exact h
theorem uiF_len {hu ps : Bool} {un pw : ByteArray} {n : Nat} (h1 : un.size ≤ n) (h2 : pw.size ≤ n) : (uiF hu un pw ps).length ≤ 6 * n + 2 := by
  unfold uiF
  have e1 := escF_len 16 un.data.toList
  have e2 := escF_len 16 pw.data.toList
  have e3 : hxN 16 un.data.toList ≤ un.data.toList.length := cnt_le _ _
  have e4 : hxN 16 pw.data.toList ≤ pw.data.toList.length := cnt_le _ _
  rw [size_len] at e1 e2 e3 e4
  cases hu <;> cases ps <;> simp <;> omega
/-- String of the joined URL -/
theorem strJ {r : Ref} {u : UrlB} {wx : World} {B : Nat} (hr : Fine r) (hs : r.hs = true) (ha : r.ha = true) (hho : (authF r.au).ho ≠ []) (hu : UrlOf r u wx B) {fb q3 : ByteArray} (pa rp : ByteArray) {hv ps : Bool} {un pw : ByteArray} (hfr : u.fr.data.toList = [] ↔ r.fr = []) (hfb : fb.data.toList = r.fr) :
    u.sc.data.toList ++ [58] ++ bodyS2 { u with pa := pa, rp := rp } hv (uiF hv un pw ps) q3.data.toList ++ qryS { u with pa := pa, rp := rp } ++ frgS { u with pa := pa, rp := rp } fb.data.toList =
      preF ⟨true, lowerL r.sc, true, uiF hv un pw ps ++ (authF r.au).ho, rootP q3.data.toList, r.hq, r.qu, decide (r.fr ≠ []), r.fr⟩ ++ fragF ⟨true, lowerL r.sc, true, uiF hv un pw ps ++ (authF r.au).ho, rootP q3.data.toList, r.hq, r.qu, decide (r.fr ≠ []), r.fr⟩ := by
  have ho : opqF r = false := by unfold opqF; rw [ha]; simp
  obtain ⟨i1, i2, i3, i4, i5⟩ := hu.hie ho
  have hoh : u.oh = false := by rw [i5, ha]; simp
  have hq := qry_of (u := { u with pa := pa, rp := rp }) hu.rq hu.fq hr.nqu
  unfold preF restF hierF tailF fragF bodyS2 frgS
  simp only [if_true]
  rw [hq, hu.sc]
  show _ ++ (if u.op.data.toList ≠ [] then u.op.data.toList else _) ++ _ ++ (if u.fr.data.toList ≠ [] then _ else _) = _
  rw [if_neg (show ¬ (u.op.data.toList ≠ []) by rw [i1]; simp)]
  have hroot : (if rootB { u with pa := pa, rp := rp } q3.data.toList = true then [47] else []) ++ q3.data.toList = rootP q3.data.toList := by
    unfold rootB rootP
    show (if (decide (q3.data.toList ≠ []) && decide (q3.data.toList[0]? ≠ some 47) && decide (u.ho.data.toList ≠ [])) = true then _ else _) ++ _ = _
    rw [i2, decide_eq_true hho, Bool.and_true]
    congr 1
    by_cases hc : q3.data.toList ≠ [] ∧ q3.data.toList[0]? ≠ some 47
    · rw [if_pos hc, if_pos (by rw [decide_eq_true hc.1, decide_eq_true hc.2]; rfl)]
    · rw [if_neg hc, if_neg (by intro h; rw [Bool.and_eq_true, decide_eq_true_iff, decide_eq_true_iff] at h; exact hc h)]
  rw [hroot]
  have hau : authS { u with pa := pa, rp := rp } hv (uiF hv un pw ps) = [47, 47] ++ uiF hv un pw ps ++ (authF r.au).ho := by
    unfold authS
    show (if (u.oh && _ && _) = true then [] else if (decide (u.ho.data.toList ≠ []) || _ || _) = true then [47, 47] ++ _ ++ u.ho.data.toList else []) = _
    rw [hoh, i2, decide_eq_true hho]; rfl
  rw [hau]
  have hfg : (if u.fr.data.toList ≠ [] then 35 :: fb.data.toList else []) = (if decide (r.fr ≠ []) = true then 35 :: r.fr else []) := by
    rw [hfb]
    by_cases h : r.fr = []
    · rw [if_neg (by rw [hfr.2 h]; simp), if_neg (by rw [decide_eq_true_iff]; exact fun h2 => h2 h)]
    · rw [if_pos (fun e => h (hfr.1 e)), if_pos (decide_eq_true h)]
  rw [hfg]
  simp [List.append_assoc]

/-- what JoinPath writes -/
structure JoinTo (r : Ref) (xs : List ByteArray) (t : ByteArray) (r2 : Ref) : Prop where
  eq : t.data.toList = preF r2 ++ fragF r2
  fine : Fine r2
  hs : r2.hs = true
  ha : r2.ha = true
  clean : CleanP r2.pa
  le : r2.le 3000000000

set_option maxHeartbeats 4000000 in
set_option maxRecDepth 100000 in
theorem JoinPath_any {N : Nat} {p4 p6 : Addr} (x : ByteArray) (r : Ref) (bk o c : Nat) (xs : List ByteArray) (w : World) (hT : Tab w) (h : Net N w p4 p6) (hN : N ≤ w.heap.size) (hx : x.data.toList = preF r ++ fragF r) (hsx : x.size ≤ 4000000) (hf : Fine r) (hrz : r.le 4000000)
    (hs : r.hs = true) (ha : r.ha = true) (hho : (authF r.au).ho ≠ [])
    (hcells : ∀ (j : Nat) x, xs[j]? = some x → w.cell? ⟨bk, o + j, none⟩ = some (.string x)) (hbk : bk < w.heap.size) (hne : xs ≠ []) (hn : xs.length ≤ 4000000) (hsum : Lib.Pa.lens (xs.map (·.data.toList)) ≤ 100000000) (hc : ∀ x ∈ xs, charsB [58, 64, 47] true x.data.toList = true) :
    Calls Tryz.prog 49 #[.string x, .slice (some ⟨bk, o, none⟩) xs.length c] w fun e w' => ∃ t r2, e = .returned (.tuple #[.string t, .nilIface]) ∧ Hid (JoinTo r xs t r2) ∧ Below w.heap.size w w' := by
  have HX := Lib.hid hx
  have HF := Lib.hid hf
  have HT := Lib.hid hT
  have HN := Lib.hid h
  have HZ := Lib.hid hrz
  have HC := Lib.hid hcells
  have HCH := Lib.hid hc
  have HHO := Lib.hid hho
  have HNE := Lib.hid hne
  have hpos := hT.pos
  clear hx hf hT h hrz hcells hc hho hne
  go_enter Tryz.func49, Tryz.ntmps49
  go_wp2_with (fail)
  refine Calls.mono (Parse_any x r w HT.out HN.out hN (by omega) HX.out HF.out) ?_
  rintro e w1 ⟨g1, u, rfl, hg1, hk1, hfb, hub, hb1⟩
  have K1 := Lib.hid hk1
  have HB1 := Lib.hid hb1
  have HT1 := Lib.hid (HT.out.up hb1 hpos)
  have HC1 := Lib.hid (show ∀ (j : Nat) x, xs[j]? = some x → w1.cell? ⟨bk, o + j, none⟩ = some (.string x) from fun j x hj => (HB1.out.cell (p := ⟨bk, o + j, none⟩) hbk).trans (HC.out j x hj))
  have hbk1 : bk < w1.heap.size := Nat.lt_of_lt_of_le hbk hb1.size
  have hop : opqF r = false := by unfold opqF; rw [ha]; simp
  obtain ⟨i1, i2, i3, i4, i5⟩ := hub.out.hie hop
  have hroot := (HF.out.aut ha).2
  have hnst : r.pa ≠ [37, 50, 65] := by
    rcases hroot with h | h
    · rw [h]; simp
    · intro e; rw [e] at h; cases h
  obtain ⟨pb, q1, q2⟩ := path_q i4 hnst
  obtain ⟨un, pw, ps, ou, u1, u2, u3, u4⟩ := i3.userZ
  obtain ⟨fb, f1, f2, f3, f4⟩ := frag_s HF.out (by obtain ⟨z1, z2, z3, z4, z5⟩ := HZ.out; exact ⟨by omega, by omega, by omega, by omega, by omega⟩) hfb.out
  have hfi := (frag_iff (po_ch _ HF.out.fra) hfb.out).1
  have hhoH := host_of (HF.out.aut ha).1
  have hpz : pb.size ≤ 4000000 := by rw [← size_len, q1]; exact HZ.out.2.2.1
  have HU := Lib.hid hub.out
  have HUS := Lib.hid u2
  have HQ1 := Lib.hid q1
  have HI := Lib.hid (And.intro i1 (And.intro i2 i5))
  have HFB := Lib.hid (And.intro f1 (And.intro f2 hfi))
  have HUZ := Lib.hid (And.intro u3 u4)
  clear hk1 hb1 HC hfb hub i1 i2 i3 i4 i5 u2 q1 f1 f2 hfi u3 u4
  go_wp2_with (fail)
  refine Calls.mono (joinPath_any g1 u pb bk o c xs w1 HT1.out K1.out (by rw [HQ1.out]; exact HF.out.pat) hpz q2 ou u1 HC1.out hbk1 HNE.out hn hsum HCH.out (by rw [HQ1.out]; exact hroot)) ?_
  rintro e w2 ⟨g2, pa, rp, q, rfl, hk2, hpo, hcq, hzq, hjo, hg2, hb2⟩
  have K2 := Lib.hid hk2
  have HB2 := Lib.hid (HB1.out.trans (hb2.mono HB1.out.size))
  have HT2 := Lib.hid (HT.out.up HB2.out hpos)
  have HUS2 := Lib.hid (HUS.out.below hb2 (Nat.le_refl _))
  obtain ⟨q3, s1, s2, s3, s4⟩ := star_q hpo.out hcq.out hzq.out
  have HS1 := Lib.hid s1
  have HS2 := Lib.hid s2
  have HS3 := Lib.hid s3
  clear hk2 hb2 HUS s1 s2 s3
  obtain ⟨hau1, hau2⟩ := au_ho_len (HF.out.aut ha).1
  obtain ⟨z1, z2, z3, z4, z5⟩ := HZ.out
  have hpsz := pa_size HS2.out
  go_wp2_with (fail)
  refine Calls.mono (String2_any g2 _ _ q3 fb un pw ps w2 HT2.out K2.out HUS2.out ⟨?_, fun _ => ⟨HS2.out, HS3.out⟩, ?_, ⟨HFB.out.2.1, by rw [HFB.out.1]; exact HF.out.fra⟩, ?_⟩ ⟨?_, ?_, ?_, ?_, ?_, ?_, ?_, ?_, ?_, ?_⟩) ?_
  · show u.sc.data.toList ≠ []
    rw [HU.out.sc]; exact low_ne (sch_ne (HF.out.sch hs))
  · show u.ho.data.toList.all _ = true
    rw [HI.out.2.1]; exact ho_host (HF.out.aut ha).1
  · intro _ h _ _
    have h : u.oh = true := h
    rw [HI.out.2.2, ha] at h
    simp at h
  · show u.sc.size ≤ _; rw [sz, HU.out.sc, lowerL_len]; omega
  · show u.op.size ≤ _; rw [HI.out.1]; exact Nat.zero_le _
  · show u.ho.size ≤ _; rw [sz, HI.out.2.1]; omega
  · show pa.size ≤ _; omega
  · show u.rq.size ≤ _; rw [sz, HU.out.rq]; omega
  · show u.rf.size ≤ _; omega
  · omega
  · omega
  · have := HUZ.out.1; omega
  · have := HUZ.out.2; omega
  rintro e w3 ⟨t, rfl, ht, hb3⟩
  have HB3 := Lib.hid (HB2.out.trans (hb3.mono HB2.out.size))
  have HTT := Lib.hid (ht.out.trans (strJ HF.out hs ha HHO.out HU.out pa rp HFB.out.2.2 HFB.out.1))
  clear hb3 ht
  go_wp2
  go_ret2
  obtain ⟨ls, hjq⟩ := hjo.out
  have hcl := join_path pb.data.toList (xs.map (·.data.toList)) ls (by rw [HQ1.out]; exact hroot) (by rw [HQ1.out]; exact HF.out.pat) (by
    intro e he
    obtain ⟨y, hy, rfl⟩ := List.mem_map.1 he
    exact HCH.out y hy)
  rw [← hjq, ← HS1.out] at hcl
  have hch := root_ch HS3.out
  refine ⟨t, ⟨true, lowerL r.sc, true, uiF (authF r.au).hu un pw ps ++ (authF r.au).ho, rootP q3.data.toList, r.hq, r.qu, decide (r.fr ≠ []), r.fr⟩, rfl, Lib.hid ⟨HTT.out, ?_, rfl, rfl, hcl.1, ?_⟩, HB3.out⟩
  · have := fineJ HF.out hs ha (hu := (authF r.au).hu) (ps := ps) (un := un) (pw := pw) (q := q.data.toList) (by rw [← HS1.out]; exact hcl.1) (by rw [← HS1.out]; exact hch)
    unfold refJ at this
    rw [← HS1.out] at this
    exact this
  · have hul := uiF_len (hu := (authF r.au).hu) (ps := ps) (un := un) (pw := pw) (n := 4000000) (by have := HUZ.out.1; omega) (by have := HUZ.out.2; omega)
    have hrl : (rootP q3.data.toList).length ≤ q3.size + 1 := by
      unfold rootP
      rw [List.length_append, size_len]
      split <;> simp <;> omega
    refine ⟨?_, ?_, ?_, ?_, ?_⟩
    · show (lowerL r.sc).length ≤ _; rw [lowerL_len]; omega
    · show (uiF _ _ _ _ ++ _).length ≤ _; rw [List.length_append]; omega
    · show (rootP q3.data.toList).length ≤ _; omega
    · show r.qu.length ≤ _; omega
    · show r.fr.length ≤ _; omega

set_option maxHeartbeats 4000000 in
set_option maxRecDepth 100000 in
theorem ijoin_any {N : Nat} {p4 p6 : Addr} (x : ByteArray) (r : Ref) (bk o c : Nat) (xs : List ByteArray) (w : World) (hT : Tab w) (h : Net N w p4 p6) (hN : N ≤ w.heap.size) (hx : x.data.toList = preF r ++ fragF r) (hsx : x.size ≤ 4000000) (hf : Fine r) (hrz : r.le 4000000)
    (hs : r.hs = true) (ha : r.ha = true) (hho : (authF r.au).ho ≠ [])
    (hcells : ∀ (j : Nat) x, xs[j]? = some x → w.cell? ⟨bk, o + j, none⟩ = some (.string x)) (hbk : bk < w.heap.size) (hne : xs ≠ []) (hn : xs.length ≤ 4000000) (hsum : Lib.Pa.lens (xs.map (·.data.toList)) ≤ 100000000) (hc : ∀ x ∈ xs, charsB [58, 64, 47] true x.data.toList = true) :
    Calls Tryz.prog 26 #[.string x, .slice (some ⟨bk, o, none⟩) xs.length c] w fun e w' => ∃ t r2, e = .returned (.tuple #[.string t, .bool true]) ∧ Hid (JoinTo r xs t r2) ∧ Below w.heap.size w w' := by
  have HJ := Lib.hid (JoinPath_any x r bk o c xs w hT h hN hx hsx hf hrz hs ha hho hcells hbk hne hn hsum hc)
  clear hx hf hT h hrz hcells hc hho hne
  go_enter Tryz.func26, Tryz.ntmps26
  go_wp2_with (fail)
  refine Calls.mono HJ.out ?_
  rintro e w1 ⟨t, r2, rfl, hj, hb⟩
  go_wp2
  go_quiet (fail)
  go_wp2
  go_ret2
  exact ⟨t, r2, rfl, hj, bdN hb _⟩
end Go.Proofs.YtfkgkkmcaaefnaaGreatDoor.Wk
namespace Go.Proofs.YtfkgkkmcaaefnaaGreatDoor.Wk
open Go.RowKit Go.Proofs.YtfkgkkmcaaefnaaGreatDoor.Pu

theorem pre_len2 {r : Ref} {n : Nat} (h : r.le n) : (preF r ++ fragF r).length ≤ 5 * n + 5 := by
  obtain ⟨h1, h2, h3, h4, h5⟩ := h
  unfold preF restF hierF tailF fragF
  simp only [List.length_append]
  have a1 : (if r.hs = true then r.sc ++ [58] else []).length ≤ n + 1 := by split <;> simp <;> omega
  have a2 : (if r.ha = true then 47 :: 47 :: r.au else []).length ≤ n + 2 := by split <;> simp <;> omega
  have a3 : (if r.hq = true then 63 :: r.qu else []).length ≤ n + 1 := by split <;> simp <;> omega
  have a4 : (if r.hf = true then 35 :: r.fr else []).length ≤ n + 1 := by split <;> simp <;> omega
  omega
theorem le_small {s : ByteArray} {r : RefB} {n : Nat} (h : r.l = splitF s.data.toList) (hs : s.size ≤ n) : r.le n := by
  have := splitF_le s.data.toList
  rw [← h] at this
  obtain ⟨h1, h2, h3, h4, h5⟩ := this
  rw [size_len] at h1 h2 h3 h4 h5
  exact ⟨Nat.le_trans h1 hs, Nat.le_trans h2 hs, Nat.le_trans h3 hs, Nat.le_trans h4 hs, Nat.le_trans h5 hs⟩
theorem le_upR {r : RefB} {n m : Nat} (h : r.le n) (hm : n ≤ m) : r.le m := by
  obtain ⟨h1, h2, h3, h4, h5⟩ := h
  exact ⟨by omega, by omega, by omega, by omega, by omega⟩
theorem owns_below {w w' : World} {B base e size n : Nat} {v : Value} {xs : List Value} (h : w.ownsRow base e size v n xs) (hb : Below B w w') (hB : w.heap.size ≤ B) : w'.ownsRow base e size v n xs := by
  obtain ⟨h0, h1 | ⟨g, cap, cur, h1, h2, h3, h4⟩⟩ := h
  · exact ⟨h0, Or.inl h1⟩
  · exact ⟨h0, Or.inr ⟨g, cap, cur, h1, h2, blk_below h3 hb (Nat.lt_of_lt_of_le (Array.getElem?_eq_some_iff.1 h3).1 hB), h4⟩⟩
theorem own_ge {w : World} {base e size n : Nat} {v : Value} {xs : List Value} (h : w.ownsRow base e size v n xs) : ∀ k, v.ownBlock = some k → base ≤ k := by
  intro k hk
  obtain ⟨h0, ⟨h1, _⟩ | ⟨g, cap, cur, h1, h2, h3, h4⟩⟩ := h
  · rw [h1] at hk; cases hk
  · rw [h1] at hk; cases hk; exact h2
theorem lens_elem : ∀ (xs : List ByteArray), Lib.Pa.lens (xs.map fun x => elemF x.data.toList) ≤ 3 * Lib.Pa.lens (xs.map (·.data.toList))
  | [] => Nat.le_refl _
  | x :: r => by
    have ih := lens_elem r
    have h := elemF_len x.data.toList
    unfold Lib.Pa.lens at *
    rw [List.map_cons, List.map_cons, List.map_cons, List.map_cons, List.sum_cons, List.sum_cons]; omega
/-- what the law asks of its URL -/
structure AskJ (r : Ref) : Prop where
  va : validF r = true
  hs : r.hs = true
  ho : (authF r.au).ho ≠ []

set_option maxHeartbeats 8000000 in
set_option maxRecDepth 100000 in
theorem FnJoinClean_any {N : Nat} {p4 p6 : Addr} (x : ByteArray) (bk o c : Nat) (xs : List ByteArray) (w : World) (hT : Tab w) (h : Net N w p4 p6) (hN : N ≤ w.heap.size) (hsx : x.size ≤ 1048576)
    (hcells : ∀ (j : Nat) x, xs[j]? = some x → w.cell? ⟨bk, o + j, none⟩ = some (.string x)) (hbk : bk < w.heap.size) (hne : xs ≠ []) (hn : xs.length ≤ 1048576) (hsum : Lib.Pa.lens (xs.map (·.data.toList)) ≤ 1048576) :
    Calls Tryz.prog 7 #[.string x, .slice (some ⟨bk, o, none⟩) xs.length c] w fun e w' => e = .returned (.bool true) ∧ Below w.heap.size w w' := by
  have HT := Lib.hid hT
  have HN := Lib.hid h
  have HC := Lib.hid hcells
  have HNE := Lib.hid hne
  have HFI := Lib.hid (fits4_any bk o c xs w (by omega) hcells (fun y hy => by have := len_le_lens hy; omega))
  have hpos := hT.pos
  clear hT h hcells hne
  have hx2 : ¬ (x.size : Int) > 2147483647 := by omega
  generalize hnn : xs.length = n at *
  have HNN := Lib.hid hnn
  have hn0 : 0 < n := by rw [← hnn]; exact List.length_pos_iff.2 HNE.out
  clear hnn
  go_enter Tryz.func7, Tryz.ntmps7
  go_wp2_with (fail)
  refine Calls.mono HFI.out ?_
  rintro e w1 ⟨rfl, rfl⟩
  clear HFI
  go_wp2_with (fail)
  refine Calls.mono (split_any x w (by omega)) ?_
  rintro e w1 ⟨r, rfl, hr, hb1⟩
  have HB1 := Lib.hid (hb1.alloc hb1.size (.cells (refCells r) 25))
  have KR := Lib.hid (blk_new w1 (.cells (refCells r) 25))
  have ZR := Lib.hid (le_small hr.out hsx)
  clear hb1
  go_upto_region 4 with (fail)
  generalize w1.alloc (.cells (refCells r) 25) = W at *
  generalize w1.heap.size = gr at *
  obtain ⟨rhs, rsc, rha, rau, rpa, rhq, rqu, rhf, rfr⟩ := r
  have cr : ∀ j, W.cell? ⟨gr, j, none⟩ = (refCells ⟨rhs, rsc, rha, rau, rpa, rhq, rqu, rhf, rfr⟩)[j]? := blk_cell KR.out
  go_cut [40] from 23 to 39 (fun v40 wx => ∃ c : Bool, v40 = .bool c ∧ Hid (c = false → AskJ (RefB.l ⟨rhs, rsc, rha, rau, rpa, rhq, rqu, rhf, rfr⟩)) ∧ Hid (Below w.heap.size w wx))
  case first =>
    go_wp2_with (fail)
    refine Calls.mono (valid_any ⟨rhs, rsc, rha, rau, rpa, rhq, rqu, rhf, rfr⟩ _ (le_upR ZR.out (by decide))) ?_
    rintro e wx ⟨rfl, hbx⟩
    have W1 := Lib.hid (HB1.out.trans (hbx.mono HB1.out.size))
    have KR1 := Lib.hid (blk_below KR.out hbx (Array.getElem?_eq_some_iff.1 KR.out).1)
    clear hbx cr HB1 KR
    have cr : ∀ j, wx.cell? ⟨gr, j, none⟩ = (refCells ⟨rhs, rsc, rha, rau, rpa, rhq, rqu, rhf, rfr⟩)[j]? := blk_cell KR1.out
    cases hq : validF (RefB.l ⟨rhs, rsc, rha, rau, rpa, rhq, rqu, rhf, rfr⟩)
    · go_wp2
      go_meet
      case rel => exact ⟨true, rfl, Lib.hid (fun h => by cases h), W1⟩
    have A1 := Lib.hid hq
    clear hq
    cases rhs
    case false =>
      go_wp2
      go_meet
      case rel => exact ⟨true, rfl, Lib.hid (fun h => by cases h), W1⟩
    go_wp2_with (fail)
    refine Calls.mono (hasHost_any ⟨true, rsc, rha, rau, rpa, rhq, rqu, rhf, rfr⟩ _ (le_upR ZR.out (by decide))) ?_
    rintro e wy ⟨rfl, hbx⟩
    have W2 := Lib.hid (W1.out.trans (hbx.mono W1.out.size))
    clear hbx W1 KR1 cr
    have hn2 : ((n : Int) == 0) = false := by rw [beq_eq_false_iff_ne]; omega
    cases hq : (authF rau.data.toList).ho.isEmpty
    · have hne : (authF rau.data.toList).ho ≠ [] := by intro e; rw [e] at hq; cases hq
      have A2 := Lib.hid hne
      clear hq hne
      go_wp2
      go_meet
      case rel => exact ⟨false, rfl, Lib.hid (fun _ => ⟨A1.out, rfl, A2.out⟩), W2⟩
    · clear hq
      go_wp2
      go_meet
      case rel => exact ⟨true, rfl, Lib.hid (fun h => by cases h), W2⟩
  case rest =>
    obtain ⟨c, rfl, HA, W3⟩ := hcut
    clear cr KR HB1
    cases c
    case true =>
      go_wp2_with (fail)
      refine Calls.mono (parses_any _ (HT.out.up W3.out hpos) (HN.out.up (W3.out.mono hN)) (Nat.le_trans hN W3.out.size)) ?_
      rintro e wx ⟨rfl, hbx⟩
      have HF := Lib.hid (W3.out.trans (hbx.mono W3.out.size))
      clear hbx
      go_wp2
      go_ret
      exact ⟨rfl, HF.out⟩
    have H1 := Lib.hid (show AskJ (splitF x.data.toList) by rw [← hr.out]; exact HA.out rfl)
    clear HA ZR hr
    obtain ⟨i0, hi, hz0, hz1, hz2⟩ := info_parts info9
    go_wp2
    go_loopw [6, 44] (fun v i wr => ∃ (k : Nat) (ys : List ByteArray), i = .int .i64 k ∧ k ≤ n ∧ Hid (ys.length = k) ∧ Hid (wr.ownsRow w.heap.size 9 1 v k (ys.map Value.string)) ∧ Hid (ys.map (·.data.toList) = (xs.take k).map fun x => elemF x.data.toList) ∧ Hid (Below w.heap.size w wr)) (fun _ i _ => n - (intOf i).toNat)
    case atStart => exact ⟨0, [], rfl, by omega, Lib.hid rfl, Lib.hid ⟨rfl, Or.inl ⟨rfl, rfl⟩⟩, Lib.hid rfl, W3⟩
    case round =>
      obtain ⟨k, ys, rfl, hk, hyl, hown, hys, hb⟩ := hrel
      by_cases hlt : k < n
      · obtain ⟨y, hy⟩ : ∃ y, xs[k]? = some y := ⟨_, List.getElem?_eq_getElem (by rw [HNN.out]; exact hlt)⟩
        have hc : wr.cell? ⟨bk, o + k, none⟩ = some (.string y) := (hb.out.cell (p := ⟨bk, o + k, none⟩) hbk).trans (HC.out k y hy)
        have hyz : y.size ≤ 1048576 := by have := len_le_lens (List.mem_of_getElem? hy); omega
        have HY := Lib.hid hy
        clear hy
        go_wp2_with (fail)
        refine Calls.mono (element_any y _ (by omega)) ?_
        rintro e wx ⟨t, rfl, ht, htz, hbx⟩
        have HO1 := Lib.hid (owns_below (owns_below hown.out hbx (Nat.le_refl _)) ((Below.refl wx.heap.size wx).alloc (Nat.le_refl _) (.cells #[.string t] 9)) (Nat.le_refl _))
        have HB5 := Lib.hid ((hb.out.trans (hbx.mono hb.out.size)).alloc (Nat.le_trans hb.out.size hbx.size) (.cells #[.string t] 9))
        have KT := Lib.hid (show ∀ (j : Nat) (v : Value), [Value.string t][j]? = some v → (wx.alloc (.cells #[.string t] 9)).cell? ((⟨wx.heap.size, 0, none⟩ : Addr).add j) = some v from by
          intro j v hj
          rw [addr_add, blk_cell (blk_new wx (.cells #[.string t] 9)), Nat.zero_add, ← Array.getElem?_toList]
          exact hj)
        have hszw : w.heap.size ≤ (wx.alloc (.cells #[.string t] 9)).heap.size := HB5.out.size
        have hnew := Lib.hid (show (ys ++ [t]).map (·.data.toList) = (xs.take (k + 1)).map fun x => elemF x.data.toList by
          rw [List.map_append, hys.out, List.take_add_one, HY.out]
          simp only [Option.toList_some, List.map_append, List.map_cons, List.map_nil, ht.out])
        clear hown hbx ht hys
        go_wp2_with (at_builtin; refine wpList_append_own _ rfl (.tmp 48) (.tmp 51) 39 rfl w.heap.size 9 i0 (.string ⟨#[]⟩) 1 16 Tryz.underlying39 hi hz0 hz1 hz2 rfl (by decide) _ _ _ rfl HO1.out ⟨wx.heap.size, 0, none⟩ 1 1 [.string t] rfl rfl KT.out ?d2 ?d3 ?d4 hszw ?_)
        case d2 => intro v hv; rw [List.mem_singleton] at hv; subst hv; rfl
        case d3 => unfold maxLen; omega
        case d4 => omega
        intro v' w5 hown' hgrow _
        have HB6 := Lib.hid (HB5.out.grown hgrow hszw (own_ge HO1.out))
        have HO2 := Lib.hid (show w5.ownsRow w.heap.size 9 1 v' (k + 1) ((ys ++ [t]).map Value.string) by rw [List.map_append]; exact hown')
        clear hown' hgrow HO1 HB5
        go_wp2
        go_roundw
        case rel => exact ⟨k + 1, ys ++ [t], by go_num, by omega, Lib.hid (by rw [List.length_append, hyl.out]; rfl), HO2, hnew, HB6⟩
        case measure => simp [intOf]; omega
      · have hke : k = n := by omega
        subst hke
        obtain ⟨g1, cap, rfl, hg1, hrow, hcap, hcap2⟩ := RowS.of_owns (ys := ys) hown.out (by omega)
        have HYS := Lib.hid (show ys.map (·.data.toList) = xs.map fun x => elemF x.data.toList by rw [hys.out, ← HNN.out, List.take_length])
        have hlen : ys.length = k := hyl.out
        have HR := Lib.hid hrow
        have HB := Lib.hid hb.out
        have HJ := Lib.hid (ijoin_any x (splitF x.data.toList) g1 0 cap ys wr (HT.out.up hb.out hpos) (HN.out.up (hb.out.mono hN)) (Nat.le_trans hN hb.out.size) (split_eq _) (by omega) (fine_of H1.out.va (fun _ => Or.inl H1.out.hs)) (by
            have := splitF_le x.data.toList
            obtain ⟨h1, h2, h3, h4, h5⟩ := this
            rw [size_len] at h1 h2 h3 h4 h5
            exact ⟨by omega, by omega, by omega, by omega, by omega⟩) H1.out.hs (by
            cases hha : (splitF x.data.toList).ha with
            | true => rfl
            | false =>
              exfalso
              apply H1.out.ho
              rw [(fine_of H1.out.va (fun _ => Or.inl H1.out.hs)).nau hha |>.1, auth_nil]) H1.out.ho
          (fun j y hj => by rw [Nat.zero_add]; exact hrow.cell hj) hrow.lt (by intro e; rw [e] at hlen; simp at hlen; omega) (by omega) (by rw [HYS.out]; have := lens_elem xs; omega) (by
            intro y hy
            have : y.data.toList ∈ ys.map (·.data.toList) := List.mem_map.2 ⟨y, hy, rfl⟩
            rw [HYS.out] at this
            obtain ⟨z, _, hz⟩ := List.mem_map.1 this
            rw [← hz]; exact el_chars _))
        rw [hlen] at HJ
        clear hown hys hb hrow hlen hyl
        go_wp2_with (fail)
        refine Calls.mono HJ.out ?_
        rintro e w5 ⟨t, r2, rfl, hj, hb5⟩
        have HB5 := Lib.hid (HB.out.trans (hb5.mono HB.out.size))
        clear hb5 HJ
        have htz : t.size ≤ 20000000000000 := by
          have := pre_len2 hj.out.le
          rw [← size_len, hj.out.eq]; omega
        have hst : r2.pa ≠ [37, 50, 65] := by
          rcases clean_head hj.out.clean with h | h
          · rw [h]; simp
          · intro e; rw [e] at h; cases h
        have HST := Lib.hid hst
        clear hst
        go_wp2_with (fail)
        refine Calls.mono (iparse_any t r2 w5 (HT.out.up HB5.out hpos) (HN.out.up (HB5.out.mono hN)) (Nat.le_trans hN HB5.out.size) htz hj.out.eq hj.out.fine hj.out.le (Or.inr HST.out)) ?_
        rintro e w6 ⟨u, hu, a, b, cc, p, fb, rfl, htold, hb6⟩
        have HB6 := Lib.hid (HB5.out.trans (hb6.mono HB5.out.size))
        have HPT := Lib.hid (show p.data.toList = r2.pa by
          have := htold.out.pat
          rw [if_neg (by unfold opqF; rw [hj.out.ha]; simp)] at this
          exact this)
        have hpz : p.size ≤ 9223372036854770000 := by
          have := hj.out.le.2.2.1
          rw [← size_len, HPT.out]; omega
        clear hb6 htold
        have HB7 := Lib.hid (HB6.out.alloc HB6.out.size (.cells (toldCells u hu a cc b p fb) 28))
        have KU := Lib.hid (blk_new w6 (.cells (toldCells u hu a cc b p fb) 28))
        go_upto_region 14 with (fail)
        generalize w6.alloc (.cells (toldCells u hu a cc b p fb) 28) = W7 at *
        generalize w6.heap.size = gu at *
        go_wp2_with (fail)
        refine Calls.mono (parses_any _ (HT.out.up HB7.out hpos) (HN.out.up (HB7.out.mono hN)) (Nat.le_trans hN HB7.out.size)) ?_
        rintro e w8 ⟨rfl, hb8⟩
        have HB8 := Lib.hid (HB7.out.trans (hb8.mono HB7.out.size))
        have KU2 := Lib.hid (blk_below KU.out hb8 (Array.getElem?_eq_some_iff.1 KU.out).1)
        have c14 : w8.cell? ⟨gu, 14, none⟩ = some (.string p) := blk_cell KU2.out 14
        clear hb8 KU
        go_wp2_with (fail)
        refine Calls.mono (clean_any p _ hpz (by rw [HPT.out]; exact noSS_at _ (clean_ss hj.out.clean)) (by rw [HPT.out]; exact clean_dots hj.out.clean)) ?_
        rintro e w9 ⟨rfl, hb9⟩
        have HB9 := Lib.hid (HB8.out.trans (hb9.mono HB8.out.size))
        clear hb9
        go_wp2
        go_ret
        exact ⟨rfl, HB9.out⟩
end Go.Proofs.YtfkgkkmcaaefnaaGreatDoor.Wk
