/-
  THE WALK of String.
-/
import Derived.Test.YtfkgkkmcaaefnaaGreatDoorI12
set_option linter.unusedSimpArgs false
set_option linter.unusedVariables false
namespace Go.Proofs.YtfkgkkmcaaefnaaGreatDoor.Wk
open Go.RowKit Go.Proofs.YtfkgkkmcaaefnaaGreatDoor.Pu

/-- the user information, as String meets it -/
def UserS (w : World) (us : Value) (hu : Bool) (un pw : ByteArray) (ps : Bool) : Prop :=
  (hu = false ∧ us = .pointer none) ∨ (hu = true ∧ ∃ gu : Nat, us = ptr gu ∧ w.heap[gu]? = some (userObj un pw ps))
def uiF (hu : Bool) (un pw : ByteArray) (ps : Bool) : L := if hu = true then (escF 16 un.data.toList ++ (if ps = true then 58 :: escF 16 pw.data.toList else [])) ++ [64] else []
def authS (u : UrlB) (hu : Bool) (ui : L) : L :=
  if (u.oh && decide (u.ho.data.toList = []) && !hu) = true then [] else
  if (decide (u.ho.data.toList ≠ []) || decide (u.pa.data.toList ≠ []) || hu) = true then [47, 47] ++ ui ++ u.ho.data.toList else []
def bodyS (u : UrlB) (hu : Bool) (ui : L) (p : L) : L := if u.op.data.toList ≠ [] then u.op.data.toList else authS u hu ui ++ p
def qryS (u : UrlB) : L := if (u.fq || decide (u.rq.data.toList ≠ [])) = true then 63 :: u.rq.data.toList else []
def frgS (u : UrlB) (fb : L) : L := if u.fr.data.toList ≠ [] then 35 :: fb else []

structure StrH (u : UrlB) (hu : Bool) (p fb : ByteArray) : Prop where
  sc : u.sc.data.toList ≠ []
  pq : u.op.data.toList = [] → PathQ p u.pa u.rp ∧ charsB [58, 64, 47] true p.data.toList = true
  ho : u.ho.data.toList.all (fun c => hostN c.toNat) = true
  fq : PathOf 64 fb u.fr u.rf ∧ charsB [58, 64, 47, 63] true fb.data.toList = true
  lost : u.op.data.toList = [] → u.oh = true → u.ho.data.toList = [] → hu = false → ([47, 47] : L).isPrefixOf p.data.toList = false
  abs : u.op.data.toList = [] → u.ho.data.toList ≠ [] → p.data.toList = [] ∨ p.data.toList[0]? = some 47
structure StrZ (u : UrlB) (p fb un pw : ByteArray) : Prop where
  z1 : u.sc.size ≤ 1000000000000
  z2 : u.op.size ≤ 1000000000000
  z3 : u.ho.size ≤ 1000000000000
  z4 : u.pa.size ≤ 1000000000000
  z5 : u.rq.size ≤ 1000000000000
  z6 : u.rf.size ≤ 1000000000000
  z7 : p.size ≤ 1000000000000
  z8 : fb.size ≤ 1000000000000
  z9 : un.size ≤ 1000000000000
  z10 : pw.size ≤ 1000000000000

theorem ba_ne {a : ByteArray} (h : a.data.toList ≠ []) : a.toList.isEmpty = false ∧ (a.toList == []) = false := by
  constructor
  · rw [toList_data, Bool.eq_false_iff]; intro h2; exact h (List.isEmpty_iff.1 h2)
  · rw [toList_data, Bool.eq_false_iff]; intro h2; exact h (eq_of_beq h2)
theorem host_esc {l : L} (h : l.all (fun c => hostN c.toNat) = true) : escF 4 l = l := by
  induction l with
  | nil => rfl
  | cons c r ih =>
    rw [List.all_cons, Bool.and_eq_true] at h
    rw [escF_cons, ih h.2]
    have h1 : escN 4 c.toNat = false := by
      have := h.1
      unfold hostN at this
      simp only [Bool.and_eq_true, Bool.not_eq_true'] at this
      exact this.2
    have h2 : spB 4 c = false := by unfold spB; simp
    unfold esc1
    rw [h2, h1]; rfl

/-- the builder of a call that began at w0 holds these bytes -/
def BD (w0 wx : World) (cur : L) : Prop := Lib.BuilderAt 91 5 w0.heap.size w0.heap.size (selfP w0.heap.size) (Lib.byteCells cur) wx ∧ Below w0.heap.size w0 wx
theorem bd_str (w0 wx : World) (cur : L) (s : ByteArray) (h : BD w0 wx cur) (hl : cur.length + s.size ≤ 140737488355328) :
    Calls Tryz.prog 62 #[selfP w0.heap.size, .string s] wx fun e w' => e = .returned (.tuple #[.int .i64 s.size, .nilIface]) ∧ BD w0 w' (cur ++ s.data.toList) := by
  refine (wstring w0.heap.size w0.heap.size (Lib.byteCells cur) s wx h.1 (by rw [Lib.byteCells_length]; exact hl) h.2.size).mono ?_
  rintro e w' ⟨rfl, h1, h2⟩
  refine ⟨rfl, ?_, h.2.trans h2⟩
  have e2 : Lib.byteCells (cur ++ s.data.toList) = Lib.byteCells cur ++ Lib.strCells s := by unfold Lib.byteCells Lib.strCells; rw [List.map_append]
  rw [e2]; exact h1
theorem bd_byte (w0 wx : World) (cur : L) (c : UInt8) (h : BD w0 wx cur) (hl : cur.length + 1 ≤ 140737488355328) :
    Calls Tryz.prog 63 #[selfP w0.heap.size, .int .u8 (c.toNat : Int)] wx fun e w' => e = .returned .nilIface ∧ BD w0 w' (cur ++ [c]) := by
  refine (wbyte w0.heap.size w0.heap.size (Lib.byteCells cur) (c.toNat : Int) wx h.1 (by rw [Lib.byteCells_length]; exact hl) h.2.size).mono ?_
  rintro e w' ⟨rfl, h1, h2⟩
  refine ⟨rfl, ?_, h.2.trans h2⟩
  rw [bc_snoc]; exact h1
theorem BD.below {w0 wx w' : World} {cur : L} (h : BD w0 wx cur) (hb : Below wx.heap.size wx w') : BD w0 w' cur := by
  obtain ⟨⟨hB, v, hbk, hown, hne⟩, h2⟩ := h
  refine ⟨⟨hB, v, by rw [hb.block _ (Array.getElem?_eq_some_iff.1 hbk).1]; exact hbk, ?_, hne⟩, h2.trans (hb.mono h2.size)⟩
  obtain ⟨o1, o2⟩ := hown
  refine ⟨o1, ?_⟩
  rcases o2 with o2 | ⟨g, cap, cur, hv, hg, hh, r⟩
  · exact Or.inl o2
  · exact Or.inr ⟨g, cap, cur, hv, hg, by rw [hb.block g (Array.getElem?_eq_some_iff.1 hh).1]; exact hh, r⟩
theorem auth_eq {u : UrlB} {hu : Bool} {ui : L} {b2 : Bool} (h1 : false = (u.oh && decide (u.ho.data.toList = []) && !hu)) (h2 : b2 = (decide (u.ho.data.toList ≠ []) || decide (u.pa.data.toList ≠ []) || hu)) (hui : hu = false → ui = []) :
    authS u hu ui = (if b2 = true then [47, 47] else []) ++ ui ++ u.ho.data.toList := by
  unfold authS
  rw [if_neg (by rw [← h1]; decide), ← h2]
  cases b2
  · have h3 : (decide (u.ho.data.toList ≠ []) || decide (u.pa.data.toList ≠ []) || hu) = false := h2.symm
    simp only [Bool.or_eq_false_iff, decide_eq_false_iff_not, ne_eq, Decidable.not_not] at h3
    rw [h3.1.1, hui h3.2]; rfl
  · simp
theorem ui_len {hu ps : Bool} {un pw : ByteArray} (h1 : un.size ≤ 1000000000000) (h2 : pw.size ≤ 1000000000000) : (uiF hu un pw ps).length ≤ 6000000000010 := by
  unfold uiF
  have e1 := escF_len 16 un.data.toList
  have e2 := escF_len 16 pw.data.toList
  have e3 : hxN 16 un.data.toList ≤ un.data.toList.length := cnt_le _ _
  have e4 : hxN 16 pw.data.toList ≤ pw.data.toList.length := cnt_le _ _
  rw [size_len] at e1 e2 e3 e4
  cases hu <;> cases ps <;> simp <;> omega

set_option maxHeartbeats 16000000 in
set_option maxRecDepth 100000 in
theorem String_any (g : Nat) (u : UrlB) (hu : Bool) (p fb un pw : ByteArray) (ps : Bool) (w : World) (hT : Tab w) (hg : w.heap[g]? = some (urlObj u)) (hus : UserS w u.us hu un pw ps) (hh : StrH u hu p fb) (hz : StrZ u p fb un pw) :
    Calls Tryz.prog 37 #[ptr g] w fun e w' => ∃ t : ByteArray, e = .returned (.string t) ∧ Hid (t.data.toList = u.sc.data.toList ++ [58] ++ bodyS u hu (uiF hu un pw ps) p.data.toList ++ qryS u ++ frgS u fb.data.toList) ∧ Below w.heap.size w w' := by
  have hlt : g < w.heap.size := (Array.getElem?_eq_some_iff.1 hg).1
  have hpos := hT.pos
  obtain ⟨z1, z2, z3, z4, z5, z6, z7, z8, z9, z10⟩ := hz
  have HG := Lib.hid hg
  have HT := Lib.hid hT
  have HUS := Lib.hid hus
  have HH := Lib.hid hh
  have HB := Lib.hid ((Below.refl w.heap.size w).alloc (Nat.le_refl _) (.cells #[.pointer none, .slice none 0 0] 91))
  have HK := Lib.hid (blk_new w (.cells #[.pointer none, .slice none 0 0] 91))
  clear hg hT hus hh
  go_enter Tryz.func37, Tryz.ntmps37
  go_upto_region 2 with (fail)
  generalize w.alloc (.cells #[.pointer none, .slice none 0 0] 91) = W at *
  have k := blk_below HG.out HB.out hlt
  have c0 : W.cell? ⟨g, 0, none⟩ = some (.string u.sc) := blk_cell k 0
  have c1 : W.cell? ⟨g, 1, none⟩ = some (.string u.op) := blk_cell k 1
  clear k
  go_upto_if 23 with (fail)
  go_cut [4, 5, 6, 7] from 23 to 89 (fun v4 v5 v6 v7 wx => ∃ n : Nat, v4 = .int .i64 n ∧ n ≤ 10000000000000 ∧ Hid (wx.heap[w.heap.size]? = some (.cells #[.pointer none, .slice none 0 0] 91)) ∧ Hid (Below w.heap.size w wx))
  case first =>
    cases hop : u.op.toList.isEmpty
    · go_wp2
      go_meet
      case rel => exact ⟨u.sc.size + u.op.size, by go_num, by omega, HK, HB⟩
    · have k := blk_below HG.out HB.out hlt
      have c2 : W.cell? ⟨g, 2, none⟩ = some u.us := blk_cell k 2
      have c3 : W.cell? ⟨g, 3, none⟩ = some (.string u.ho) := blk_cell k 3
      have c4 : W.cell? ⟨g, 4, none⟩ = some (.string u.pa) := blk_cell k 4
      have c10 : W.cell? ⟨g, 10, none⟩ = some (.bool u.oh) := blk_cell k 10
      obtain ⟨e1, e2⟩ := ba_ne HH.out.sc
      clear k
      generalize u.oh = oh at *
      cases oh
      · rcases HUS.out with ⟨hu0, hu1⟩ | ⟨hu0, gu, hu1, hgu⟩
        · rw [hu1] at c2
          clear hu1
          go_wp2_with (fail)
          refine Calls.mono (username_nil _) ?_
          rintro e w1 ⟨rfl, rfl⟩
          go_wp2_with (fail)
          refine Calls.mono (password_nil _) ?_
          rintro e w1 ⟨rfl, rfl⟩
          go_wp2
          go_meet
          case rel => exact ⟨u.sc.size + (0 + 0 + u.ho.size) + u.pa.size, by go_num, by omega, HK, HB⟩
        · rw [hu1] at c2
          have hku := blk_below hgu HB.out (Array.getElem?_eq_some_iff.1 hgu).1
          have HKU := Lib.hid hku
          clear hu1 hgu hku
          go_wp2_with (fail)
          refine Calls.mono (username_any gu un pw ps _ HKU.out) ?_
          rintro e w1 ⟨rfl, rfl⟩
          go_wp2_with (fail)
          refine Calls.mono (password_any gu un pw ps _ HKU.out) ?_
          rintro e w1 ⟨m, rfl, rfl⟩
          go_wp2
          go_meet
          case rel => exact ⟨u.sc.size + (un.size + pw.size + u.ho.size) + u.pa.size, by go_num, by omega, HK, Lib.hid (bdN HB.out m)⟩
      · go_wp2
        go_meet
        case rel => exact ⟨u.sc.size + u.pa.size, by go_num, by omega, HK, HB⟩
  case rest =>
    obtain ⟨n, rfl, hn, HK1, HB1⟩ := hcut
    clear HK HB c0 c1
    have k := blk_below HG.out HB1.out hlt
    have c0 : wc.cell? ⟨g, 0, none⟩ = some (.string u.sc) := blk_cell k 0
    have c6 : wc.cell? ⟨g, 6, none⟩ = some (.string u.rq) := blk_cell k 6
    have c8 : wc.cell? ⟨g, 8, none⟩ = some (.string u.rf) := blk_cell k 8
    clear k
    go_upto_region 10 with (fail)
    go_cut [4] from 90 to 102 (fun v4 wx => v4 = .int .i64 ((n + (u.rq.size + u.rf.size) : Nat) : Int) ∧ Hid (wx.heap[w.heap.size]? = some (.cells #[.pointer none, .slice none 0 0] 91)) ∧ Hid (Below w.heap.size w wx))
    case first =>
      go_wp2
      go_quiet (fail)
      go_wp2
      go_meet
      case rel => exact ⟨by go_num, HK1, Lib.hid (bdN HB1.out _)⟩
    case rest =>
      obtain ⟨rfl, HK2, HB2⟩ := hcut
      generalize hnq : n + (u.rq.size + u.rf.size) = nq at *
      have hnz : nq ≤ 20000000000000 := by omega
      clear HK1 HB1 c0 c6 c8 hnq
      have hgrow := Tryz.Builder_Grow_fresh w.heap.size w.heap.size (nq + 12) wc (Nat.le_refl _) HK2.out HB2.out.size (by omega)
      rw [show (((nq + 12 : Nat)) : Int) = (nq : Int) + 12 from rfl] at hgrow
      have HGR := Lib.hid hgrow
      clear hgrow
      go_wp2_with (fail)
      refine Calls.mono HGR.out ?_
      rintro e w1 ⟨rfl, hbd, hb1⟩
      have HBD := Lib.hid (show BD w w1 [] from ⟨hbd, HB2.out.trans hb1⟩)
      clear hbd hb1 HGR HK2 HB2
      have k := blk_below HG.out HBD.out.2 hlt
      have c0 : w1.cell? ⟨g, 0, none⟩ = some (.string u.sc) := blk_cell k 0
      obtain ⟨e1, e2⟩ := ba_ne HH.out.sc
      clear k
      go_wp2_with (fail)
      refine Calls.mono (bd_str w w1 [] u.sc HBD.out (by simp; omega)) ?_
      rintro e w2 ⟨rfl, h2⟩
      clear c0 HBD
      go_wp2_with (fail)
      refine Calls.mono (bd_byte w w2 _ 58 h2 (by simp [size_len]; omega)) ?_
      rintro e w3 ⟨rfl, h3⟩
      rw [List.nil_append] at h3
      have HBD := Lib.hid h3
      clear h2 h3
      have k := blk_below HG.out HBD.out.2 hlt
      have c0 : w3.cell? ⟨g, 0, none⟩ = some (.string u.sc) := blk_cell k 0
      have c1 : w3.cell? ⟨g, 1, none⟩ = some (.string u.op) := blk_cell k 1
      clear k
      go_upto_if 122 with (fail)
      go_cut [8, 9, 10, 11, 12, 13] from 122 to 258 (fun v8 v9 v10 v11 v12 v13 wx => ∃ cur : L, Hid (cur = u.sc.data.toList ++ [58] ++ bodyS u hu (uiF hu un pw ps) p.data.toList) ∧ cur.length ≤ 90000000000000 ∧ Hid (BD w wx cur))
      case first =>
        cases hop : u.op.toList.isEmpty
        · have hop1 : u.op.data.toList ≠ [] := by rw [toList_data] at hop; intro h; rw [h] at hop; exact absurd hop (by decide)
          have HOP := Lib.hid hop1
          clear hop1 hop
          go_wp2_with (fail)
          refine Calls.mono (bd_str w w3 _ u.op HBD.out (by simp [size_len]; omega)) ?_
          rintro e w4 ⟨rfl, h4⟩
          have H4 := Lib.hid h4
          clear h4
          go_wp2
          go_meet
          case rel => exact ⟨_, Lib.hid (by unfold bodyS; rw [if_pos HOP.out]), by simp [size_len]; omega, H4⟩
        · have hop1 : u.op.data.toList = [] := by rw [toList_data] at hop; exact List.isEmpty_iff.1 hop
          have HOP := Lib.hid hop1
          clear hop1 hop
          go_upto_if 146 with (fail)
          go_cut [8, 9] from 146 to 203 (fun v8 v9 wx => ∃ cur : L, Hid (cur = u.sc.data.toList ++ [58] ++ authS u hu (uiF hu un pw ps)) ∧ cur.length ≤ 80000000000000 ∧ Hid (BD w wx cur))
          case first =>
            have k := blk_below HG.out HBD.out.2 hlt
            have c2 : w3.cell? ⟨g, 2, none⟩ = some u.us := blk_cell k 2
            have c3 : w3.cell? ⟨g, 3, none⟩ = some (.string u.ho) := blk_cell k 3
            have c4 : w3.cell? ⟨g, 4, none⟩ = some (.string u.pa) := blk_cell k 4
            have c10 : w3.cell? ⟨g, 10, none⟩ = some (.bool u.oh) := blk_cell k 10
            have heH : u.ho.toList.isEmpty = decide (u.ho.data.toList = []) := by rw [toList_data]; cases u.ho.data.toList <;> rfl
            have heP : u.pa.toList.isEmpty = decide (u.pa.data.toList = []) := by rw [toList_data]; cases u.pa.data.toList <;> rfl
            have HEH := Lib.hid heH
            have HEP := Lib.hid heP
            clear k heH heP c1
            go_upto_region 19 with (fail)
            go_cut [164] from 146 to 163 (fun v164 wx => v164 = .bool (u.oh && decide (u.ho.data.toList = []) && !hu) ∧ w3 = wx)
            case first =>
              have HOHC := Lib.hid c10
              clear c4
              rcases HUS.out with ⟨hu0, hu1⟩ | ⟨hu0, gu, hu1, hgu⟩
              all_goals
                rw [hu1] at c2
                have HU0 := Lib.hid hu0
                clear hu1 hu0
                generalize hoh : u.oh = oh at *
                cases oh
                all_goals cases hE : u.ho.toList.isEmpty
                all_goals
                  go_wp2
                  go_meet
                  case rel => exact ⟨by first | rfl | (rw [HU0.out, ← HEH.out, hE]; rfl), rfl⟩
            case rest =>
              obtain ⟨rfl, rfl⟩ := hcut
              obtain ⟨b1, hb1⟩ : ∃ b1, b1 = (u.oh && decide (u.ho.data.toList = []) && !hu) := ⟨_, rfl⟩
              rw [← hb1]
              have HB1 := Lib.hid hb1
              clear hb1 c10
              cases b1
              · go_upto_region 20 with (fail)
                go_cut [183] from 164 to 182 (fun v183 wx => v183 = .bool (decide (u.ho.data.toList ≠ []) || decide (u.pa.data.toList ≠ []) || hu) ∧ w3 = wx)
                case first =>
                  have heH2 : decide (u.ho.data.toList ≠ []) = !u.ho.toList.isEmpty := by rw [HEH.out]; cases u.ho.data.toList <;> rfl
                  have heP2 : decide (u.pa.data.toList ≠ []) = !u.pa.toList.isEmpty := by rw [HEP.out]; cases u.pa.data.toList <;> rfl
                  have HEH2 := Lib.hid heH2
                  have HEP2 := Lib.hid heP2
                  clear heH2 heP2
                  rcases HUS.out with ⟨hu0, hu1⟩ | ⟨hu0, gu, hu1, hgu⟩
                  all_goals
                    rw [hu1] at c2
                    have HU0 := Lib.hid hu0
                    clear hu1 hu0
                    cases hE : u.ho.toList.isEmpty
                    all_goals cases hP : u.pa.toList.isEmpty
                    all_goals
                      go_wp2
                      go_meet
                      case rel => exact ⟨by first | rfl | (rw [HU0.out, HEH2.out, HEP2.out, hE, hP]; rfl), rfl⟩
                case rest =>
                  obtain ⟨rfl, rfl⟩ := hcut
                  obtain ⟨b2, hb2⟩ : ∃ b2, b2 = (decide (u.ho.data.toList ≠ []) || decide (u.pa.data.toList ≠ []) || hu) := ⟨_, rfl⟩
                  rw [← hb2]
                  have HB2 := Lib.hid hb2
                  clear hb2 c4 c3 c2
                  go_upto_if 183 with (fail)
                  go_cut [] from 183 to 184 (fun wx => ∃ cur : L, Hid (cur = u.sc.data.toList ++ [58] ++ (if b2 = true then [47, 47] else [])) ∧ cur.length ≤ 2000000000000 ∧ Hid (BD w wx cur))
                  case first =>
                    cases b2
                    · go_wp2
                      go_meet
                      case rel => exact ⟨_, Lib.hid (by simp), by simp [size_len]; omega, HBD⟩
                    · go_wp2_with (fail)
                      refine Calls.mono (bd_str w w3 _ ⟨#[47, 47]⟩ HBD.out (by simp [size_len]; show _ + 2 ≤ _; omega)) ?_
                      rintro e w4 ⟨rfl, h4⟩
                      have H4 := Lib.hid h4
                      clear h4
                      go_wp2
                      go_meet
                      case rel => exact ⟨_, Lib.hid (by simp), by simp [size_len]; omega, H4⟩
                  case rest =>
                    obtain ⟨cur, HC, hcl, HBD2⟩ := hcut
                    have k := blk_below HG.out HBD2.out.2 hlt
                    have c2 : wc.cell? ⟨g, 2, none⟩ = some u.us := blk_cell k 2
                    clear k HBD
                    go_upto_region 23 with (fail)
                    go_cut [8, 190] from 185 to 189 (fun v8 v190 wx => v8 = u.us ∧ v190 = .bool hu ∧ wc = wx)
                    case first =>
                      rcases HUS.out with ⟨hu0, hu1⟩ | ⟨hu0, gu, hu1, hgu⟩
                      all_goals
                        have HU0 := Lib.hid hu0
                        have HU1 := Lib.hid hu1
                        rw [hu1]
                        clear hu1 hu0 c2
                        go_wp2
                        go_meet
                        case rel => exact ⟨HU1.out.symm, by rw [HU0.out], rfl⟩
                    case rest =>
                      obtain ⟨rfl, rfl, rfl⟩ := hcut
                      go_upto_if 190 with (fail)
                      go_cut [8] from 190 to 194 (fun v8 wx => ∃ cur2 : L, Hid (cur2 = cur ++ uiF hu un pw ps) ∧ cur2.length ≤ 9000000000000 ∧ Hid (BD w wx cur2))
                      case first =>
                        rcases HUS.out with ⟨hu0, hu1⟩ | ⟨hu0, gu, hu1, hgu⟩
                        · have HU0 := Lib.hid hu0
                          rw [hu1, hu0]
                          clear hu1 hu0 c2
                          go_wp2
                          go_meet
                          case rel => exact ⟨cur, Lib.hid (by rw [HU0.out]; unfold uiF; simp), by omega, HBD2⟩
                        · have HU0 := Lib.hid hu0
                          rw [hu1, hu0]
                          have HKU := Lib.hid (blk_below hgu HBD2.out.2 (Array.getElem?_eq_some_iff.1 hgu).1)
                          have HTU := Lib.hid (HT.out.up HBD2.out.2 hpos)
                          have hul := ui_len (hu := hu) (ps := ps) z9 z10
                          rw [hu0] at hul
                          have HUL := Lib.hid hul
                          clear hu1 hu0 c2 hgu hul
                          go_wp2_with (fail)
                          refine Calls.mono (ustr_any gu un pw ps _ HTU.out HKU.out (by omega) (by omega)) ?_
                          rintro e w5 ⟨q, rfl, hq, hb5⟩
                          have hq2 : q.size + 1 ≤ 6000000000010 := by
                            have := HUL.out
                            unfold uiF at this
                            rw [if_pos rfl, ← hq.out] at this
                            simpa [size_len] using this
                          have HBD3 := Lib.hid (HBD2.out.below hb5)
                          clear hb5
                          go_wp2_with (fail)
                          refine Calls.mono (bd_str w w5 cur q HBD3.out (by omega)) ?_
                          rintro e w6 ⟨rfl, h6⟩
                          have H6 := Lib.hid h6
                          clear h6 HBD3
                          go_wp2_with (fail)
                          refine Calls.mono (bd_byte w w6 _ 64 H6.out (by simp [size_len]; omega)) ?_
                          rintro e w7 ⟨rfl, h7⟩
                          have H7 := Lib.hid h7
                          clear h7 H6
                          go_wp2
                          go_meet
                          case rel => exact ⟨_, Lib.hid (by rw [HU0.out]; unfold uiF; rw [if_pos rfl, hq.out, List.append_assoc]), by simp [size_len]; omega, H7⟩
                      case rest =>
                        obtain ⟨cur2, HC2, hcl2, HBD4⟩ := hcut
                        have k := blk_below HG.out HBD4.out.2 hlt
                        have c3 : wc.cell? ⟨g, 3, none⟩ = some (.string u.ho) := blk_cell k 3
                        have HTH := Lib.hid (HT.out.up HBD4.out.2 hpos)
                        have HAE := Lib.hid (auth_eq (ui := uiF hu un pw ps) HB1.out HB2.out (fun h => by unfold uiF; rw [h]; rfl))
                        clear k HBD2 c2
                        cases hE : u.ho.toList.isEmpty
                        · have hne : u.ho.data.toList ≠ [] := by rw [toList_data] at hE; intro h; rw [h] at hE; exact absurd hE (by decide)
                          go_wp2_with (fail)
                          refine Calls.mono (escape_any u.ho 4 _ HTH.out (by decide) (by omega)) ?_
                          rintro e w5 ⟨q, rfl, hq, hb5⟩
                          have HQH := Lib.hid (hq.out.trans (host_esc HH.out.ho))
                          have hqz : q.size = u.ho.size := by rw [← size_len, HQH.out, size_len]
                          have HBD5 := Lib.hid (HBD4.out.below hb5)
                          clear hb5 c3 hq
                          go_wp2_with (fail)
                          refine Calls.mono (bd_str w w5 cur2 q HBD5.out (by omega)) ?_
                          rintro e w6 ⟨rfl, h6⟩
                          have H6 := Lib.hid h6
                          clear h6 HBD5 hqz
                          go_wp2
                          go_meet
                          case rel =>
                            refine ⟨_, Lib.hid ?_, ?_, H6⟩
                            · rw [HAE.out, HC2.out, HC.out, HQH.out]; simp
                            · rw [List.length_append, HQH.out, size_len]; omega
                        · have he : u.ho.data.toList = [] := by rw [toList_data] at hE; exact List.isEmpty_iff.1 hE
                          have HE := Lib.hid he
                          clear he
                          go_wp2
                          go_meet
                          case rel => exact ⟨cur2, Lib.hid (by rw [HAE.out, HC2.out, HC.out, HE.out]; simp), by omega, HBD4⟩
              · go_wp2
                go_meet
                case rel => exact ⟨_, Lib.hid (by unfold authS; rw [if_pos HB1.out.symm, List.append_nil]), by simp [size_len]; omega, HBD⟩
          case rest =>
            obtain ⟨cur, HC, hcl, HBD2⟩ := hcut
            have k := blk_below HG.out HBD2.out.2 hlt
            have HTH := Lib.hid (HT.out.up HBD2.out.2 hpos)
            have HPQ := Lib.hid (HH.out.pq HOP.out)
            have K := Lib.hid k
            clear k HBD c1 c0
            go_wp2_with (fail)
            refine Calls.mono (escPath_any g u p _ HTH.out K.out HPQ.out.2 (by omega) HPQ.out.1) ?_
            rintro e w5 ⟨q, rfl, rfl, hb5⟩
            have HBD5 := Lib.hid (HBD2.out.below hb5)
            have k := blk_below HG.out HBD5.out.2 hlt
            have c2 : w5.cell? ⟨g, 2, none⟩ = some u.us := blk_cell k 2
            have c3 : w5.cell? ⟨g, 3, none⟩ = some (.string u.ho) := blk_cell k 3
            have c10 : w5.cell? ⟨g, 10, none⟩ = some (.bool u.oh) := blk_cell k 10
            clear hb5 k HBD2 K HTH
            go_upto_region 30 with (fail)
            go_cut [227] from 206 to 226 (fun v227 wx => v227 = .bool false ∧ w5 = wx)
            case first =>
              have HLO := Lib.hid (HH.out.lost HOP.out)
              generalize hoh : u.oh = oh at *
              cases oh
              · go_wp2
                go_meet
                case rel => exact ⟨rfl, rfl⟩
              · cases hE : u.ho.toList.isEmpty
                · go_wp2
                  go_meet
                  case rel => exact ⟨rfl, rfl⟩
                · have he : u.ho.data.toList = [] := by rw [toList_data] at hE; exact List.isEmpty_iff.1 hE
                  rcases HUS.out with ⟨hu0, hu1⟩ | ⟨hu0, gu, hu1, hgu⟩
                  · have hpx : Lib.hasPrefix q.data.toList (⟨#[47, 47]⟩ : ByteArray).data.toList = false := HLO.out rfl he hu0
                    have HPX := Lib.hid hpx
                    rw [hu1] at c2
                    clear hu1 hu0 he hpx
                    go_wp2_with (fail)
                    refine Calls.mono (Tryz.strings_HasPrefix q ⟨#[47, 47]⟩ _) ?_
                    rintro e w6 ⟨rfl, rfl⟩
                    rw [HPX.out]
                    go_wp2
                    go_meet
                    case rel => exact ⟨rfl, rfl⟩
                  · rw [hu1] at c2
                    clear hu1 hu0 he hgu
                    go_wp2
                    go_meet
                    case rel => exact ⟨rfl, rfl⟩
            case rest =>
              obtain ⟨rfl, rfl⟩ := hcut
              go_upto_region 33 with (fail)
              go_cut [244] from 227 to 243 (fun v244 wx => v244 = .bool false ∧ w5 = wx)
              case first =>
                have HAB := Lib.hid (HH.out.abs HOP.out)
                cases hQ : q.toList.isEmpty
                · have hqne : q.data.toList ≠ [] := by rw [toList_data] at hQ; intro h; rw [h] at hQ; exact absurd hQ (by decide)
                  have hqp : 0 < q.size := by rw [← size_len]; exact List.length_pos_iff.2 hqne
                  by_cases h47 : q[0].toNat = 47
                  · have hb47 : ((q[0].toNat : Int) == 47) = true := by rw [beq_iff_eq]; omega
                    have hb48 : ((q[0].toNat : Int) != 47) = false := by rw [bne, hb47]; rfl
                    clear h47 hqne
                    go_wp2
                    go_meet
                    case rel => exact ⟨rfl, rfl⟩
                  · have hhe : u.ho.data.toList = [] := by
                      rcases Decidable.em (u.ho.data.toList = []) with h | h
                      · exact h
                      · exfalso
                        rcases HAB.out h with h2 | h2
                        · exact hqne h2
                        · rw [get_opt q 0 hqp] at h2
                          exact h47 (by rw [Option.some.inj h2]; rfl)
                    have hho : u.ho = ⟨#[]⟩ := ba_nil hhe
                    rw [hho] at c3
                    clear h47 hqne hhe hho
                    go_wp2
                    all_goals
                      go_meet
                      case rel => exact ⟨rfl, rfl⟩
                · go_wp2
                  go_meet
                  case rel => exact ⟨rfl, rfl⟩
              case rest =>
                obtain ⟨rfl, rfl⟩ := hcut
                have hcne : ((cur.length : Int) == 0) = false := by
                  rw [beq_eq_false_iff_ne]
                  have := HC.out
                  have : cur.length ≠ 0 := by rw [this]; simp
                  omega
                clear c2 c3 c10
                go_wp2_with (fail)
                refine Calls.mono (Tryz.Builder_Len w.heap.size w.heap.size (Lib.byteCells cur) _ (.inr HBD5.out.1)) ?_
                rintro e w6 ⟨rfl, rfl⟩
                rw [Lib.byteCells_length]
                go_wp2_with (fail)
                refine Calls.mono (bd_str w _ cur q HBD5.out (by omega)) ?_
                rintro e w7 ⟨rfl, h7⟩
                have H7 := Lib.hid h7
                clear h7 HBD5
                go_wp2
                go_meet
                case rel => exact ⟨_, Lib.hid (by unfold bodyS; rw [if_neg (by rw [HOP.out]; simp), HC.out]; simp), by simp [size_len]; omega, H7⟩
      case rest =>
        obtain ⟨cur, HC, hcl, HBD2⟩ := hcut
        have k := blk_below HG.out HBD2.out.2 hlt
        have c6 : wc.cell? ⟨g, 6, none⟩ = some (.string u.rq) := blk_cell k 6
        have c9 : wc.cell? ⟨g, 9, none⟩ = some (.bool u.fq) := blk_cell k 9
        clear k c0 c1 HBD
        go_upto_region 40 with (fail)
        go_cut [269] from 259 to 268 (fun v269 wx => v269 = .bool (u.fq || decide (u.rq.data.toList ≠ [])) ∧ wc = wx)
        case first =>
          have he2 : decide (u.rq.data.toList ≠ []) = !u.rq.toList.isEmpty := by rw [toList_data]; cases u.rq.data.toList <;> rfl
          have HE2 := Lib.hid he2
          clear he2
          generalize hfq : u.fq = fq at *
          cases fq
          all_goals cases hQ : u.rq.toList.isEmpty
          all_goals
            go_wp2
            go_meet
            case rel => exact ⟨by first | rfl | (rw [HE2.out, hQ]; rfl), rfl⟩
        case rest =>
          obtain ⟨rfl, rfl⟩ := hcut
          obtain ⟨b3, hb3⟩ : ∃ b3, b3 = (u.fq || decide (u.rq.data.toList ≠ [])) := ⟨_, rfl⟩
          rw [← hb3]
          have HB3 := Lib.hid hb3
          clear hb3 c9
          go_upto_if 269 with (fail)
          go_cut [] from 269 to 275 (fun wx => ∃ cur2 : L, Hid (cur2 = cur ++ qryS u) ∧ cur2.length ≤ 100000000000000 ∧ Hid (BD w wx cur2))
          case first =>
            cases b3
            · go_wp2
              go_meet
              case rel => exact ⟨cur, Lib.hid (by unfold qryS; rw [← HB3.out]; simp), by omega, HBD2⟩
            · go_wp2_with (fail)
              refine Calls.mono (bd_byte w wc cur 63 HBD2.out (by omega)) ?_
              rintro e w4 ⟨rfl, h4⟩
              have H4 := Lib.hid h4
              have k := blk_below HG.out H4.out.2 hlt
              have c6 : w4.cell? ⟨g, 6, none⟩ = some (.string u.rq) := blk_cell k 6
              clear h4 k HBD2
              go_wp2_with (fail)
              refine Calls.mono (bd_str w w4 _ u.rq H4.out (by simp; omega)) ?_
              rintro e w5 ⟨rfl, h5⟩
              have H5 := Lib.hid h5
              clear h5 H4
              go_wp2
              go_meet
              case rel => exact ⟨_, Lib.hid (by unfold qryS; rw [← HB3.out]; simp), by simp [size_len]; omega, H5⟩
          case rest =>
            obtain ⟨cur2, HC2, hcl2, HBD3⟩ := hcut
            have k := blk_below HG.out HBD3.out.2 hlt
            have c5 : wc.cell? ⟨g, 5, none⟩ = some (.string u.fr) := blk_cell k 5
            clear k c6 HBD2
            go_upto_if 280 with (fail)
            go_cut [] from 280 to 284 (fun wx => ∃ cur3 : L, Hid (cur3 = cur2 ++ frgS u fb.data.toList) ∧ Hid (BD w wx cur3))
            case first =>
              cases hE : u.fr.toList.isEmpty
              · have hne : u.fr.data.toList ≠ [] := by rw [toList_data] at hE; intro h; rw [h] at hE; exact absurd hE (by decide)
                have HNE := Lib.hid hne
                clear hne hE
                go_wp2_with (fail)
                refine Calls.mono (bd_byte w wc cur2 35 HBD3.out (by omega)) ?_
                rintro e w4 ⟨rfl, h4⟩
                have H4 := Lib.hid h4
                have K := Lib.hid (blk_below HG.out H4.out.2 hlt)
                have HTH := Lib.hid (HT.out.up H4.out.2 hpos)
                clear h4 HBD3 c5
                go_wp2_with (fail)
                refine Calls.mono (escFrag_any g u fb _ HTH.out K.out HH.out.fq.2 (by omega) HH.out.fq.1) ?_
                rintro e w5 ⟨q, rfl, rfl, hb5⟩
                have H5 := Lib.hid (H4.out.below hb5)
                clear hb5 H4 K HTH
                go_wp2_with (fail)
                refine Calls.mono (bd_str w w5 _ q H5.out (by simp; omega)) ?_
                rintro e w6 ⟨rfl, h6⟩
                have H6 := Lib.hid h6
                clear h6 H5
                go_wp2
                go_meet
                case rel => exact ⟨_, Lib.hid (by unfold frgS; rw [if_pos HNE.out]; simp), H6⟩
              · have he : u.fr.data.toList = [] := by rw [toList_data] at hE; exact List.isEmpty_iff.1 hE
                have HE := Lib.hid he
                clear he
                go_wp2
                go_meet
                case rel => exact ⟨cur2, Lib.hid (by unfold frgS; rw [if_neg (by rw [HE.out]; simp)]; simp), HBD3⟩
            case rest =>
              obtain ⟨cur3, HC3, HBD4⟩ := hcut
              clear c5 HBD3
              go_wp2_with (fail)
              refine Calls.mono (Tryz.Builder_String_any w.heap.size w.heap.size cur3 _ (.inr HBD4.out.1) HBD4.out.2.size) ?_
              rintro e w4 ⟨rfl, hb4⟩
              have HB4 := Lib.hid (HBD4.out.2.trans hb4)
              obtain ⟨t, ht⟩ : ∃ t : ByteArray, t = ⟨cur3.toArray⟩ := ⟨_, rfl⟩
              rw [← ht]
              have HT4 := Lib.hid ht
              clear hb4 ht
              go_wp2
              go_ret
              exact ⟨t, rfl, Lib.hid (by rw [HT4.out, ← HC.out, ← HC2.out, ← HC3.out]), HB4.out⟩
end Go.Proofs.YtfkgkkmcaaefnaaGreatDoor.Wk
