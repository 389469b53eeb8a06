/-
  THE WALK of unescape where every percent sign is followed by two digits, and the mode is no host's.
-/
import Derived.Test.YtfkgkkmcaaefnaaGreatDoorQ2
import Derived.Test.YtfkgkkmcaaefnaaGreatDoorS2
import Derived.Test.YtfkgkkmcaaefnaaGreatDoorBu
import Derived.Test.YtfkgkkmcaaefnaaGreatDoorPy
import Derived.Deep.RegionHeld3
set_option linter.unusedSimpArgs false
set_option linter.unusedVariables false
namespace Go.Proofs.YtfkgkkmcaaefnaaGreatDoor.Wk
open Go.RowKit Go.Proofs.YtfkgkkmcaaefnaaGreatDoor.Pu

theorem or16 : ∀ x, x < 16 → ∀ y, y < 16 → (x * 16 ||| y) = x * 16 + y := by decide +kernel
theorem hexB_val (a b : UInt8) (ha : 0 ≤ hexN a.toNat) (hb : 0 ≤ hexN b.toNat) : bits .or .u8 (IntKind.u8.wrap (hexN a.toNat * 16)) (hexN b.toNat) = ((hexB a b).toNat : Int) := by
  have h1 := hexN_lt a.toNat
  have h2 := hexN_lt b.toNat
  unfold hexB
  obtain ⟨x, hx⟩ : ∃ x : Nat, hexN a.toNat = x := ⟨(hexN a.toNat).toNat, by omega⟩
  obtain ⟨y, hy⟩ : ∃ y : Nat, hexN b.toNat = y := ⟨(hexN b.toNat).toNat, by omega⟩
  rw [hx] at h1
  rw [hy] at h2
  rw [hx, hy, show IntKind.u8.wrap ((x : Int) * 16) = ((x * 16 : Nat) : Int) by rw [show IntKind.u8.wrap ((x : Int) * 16) = (x : Int) * 16 from IntWalk.u8_in _ (by omega)]; omega]
  rw [u8_or_nat _ _ (by omega) (by omega), or16 x (by omega) y (by omega), Int.toNat_natCast, Int.toNat_natCast, UInt8.toNat_ofNat']
  omega

theorem bc_snoc (l : L) (c : UInt8) : Lib.byteCells (l ++ [c]) = Lib.byteCells l ++ [.int .u8 (c.toNat : Int)] := by
  unfold Lib.byteCells; rw [List.map_append]; rfl

set_option maxHeartbeats 8000000 in
set_option maxRecDepth 100000 in
theorem unescape_any (s : ByteArray) (m : Nat) (w : World) (hT : Tab w) (hm : m < 256) (h4 : m ≠ 4) (h8 : m ≠ 8) (hs : s.size ≤ 140737488355328) (hok : pctOk s.data.toList = true) :
    Calls Tryz.prog 94 #[.string s, .int .u8 m] w fun e w' => ∃ t : ByteArray, e = .returned (.tuple #[.string t, .nilIface]) ∧ Hid (t.data.toList = decB (decide (m = 32)) s.data.toList) ∧ Below w.heap.size w w' := by
  have hb0 := Below.refl w.heap.size w
  have b4 : ((m : Int) == 4) = false := by rw [beq_eq_false_iff_ne]; omega
  have b8 : ((m : Int) == 8) = false := by rw [beq_eq_false_iff_ne]; omega
  have b32 : ((m : Int) == 32) = decide (m = 32) := by rw [Bool.eq_iff_iff, beq_iff_eq, decide_eq_true_iff]; omega
  have HT := Lib.hid hT
  have HOK := Lib.hid hok
  clear hT hok
  generalize decide (m = 32) = pl at *
  obtain ⟨q, hql⟩ : ∃ q : Bool, q = pl := ⟨_, rfl⟩
  rw [← hql]
  have HQL := Lib.hid hql
  clear hql
  go_enter Tryz.func94, Tryz.ntmps94
  go_wp2
  go_loop [0, 6, 7, 8] (fun z n h i => ∃ (c k : Nat) (hp : Bool), z = .string s ∧ n = .int .i64 c ∧ h = .bool hp ∧ i = .int .i64 k ∧ k ≤ s.size ∧ 3 * c ≤ k ∧ (hp = true → pl = true) ∧ Hid (pctOk (s.data.toList.drop k) = true) ∧ Hid (c = 0 → hp = false → decB q s.data.toList = s.data.toList.take k ++ decB q (s.data.toList.drop k))) (fun _ _ _ i => s.size - (intOf i).toNat)
  case atStart => exact ⟨0, 0, false, rfl, rfl, rfl, rfl, by omega, by omega, (fun h => by cases h), HOK, Lib.hid (fun _ _ => by simp)⟩
  case round =>
    obtain ⟨c, k, hp, rfl, rfl, rfl, rfl, hk, h3, hpp, hpo, hid⟩ := hrel
    by_cases hlt : k < s.size
    · have hd := drop_cons s k hlt
      have hn : s[k].toNat < 256 := s[k].toNat_lt
      have hpo2 := hpo.out
      rw [hd] at hpo2
      by_cases h37 : s[k].toNat = 37
      · obtain ⟨a, b, r', hr, ha, hb, hpo3⟩ := po_inv h37 hpo2
        have hl1 : k + 2 < s.size := by
          have := congrArg List.length hr
          rw [List.length_drop, size_len, List.length_cons, List.length_cons] at this
          omega
        have hd1 : s.data.toList.drop (k + 1) = s[k + 1] :: s.data.toList.drop (k + 2) := drop_cons s (k + 1) (by omega)
        have hd2 : s.data.toList.drop (k + 2) = s[k + 2] :: s.data.toList.drop (k + 3) := drop_cons s (k + 2) (by omega)
        rw [hd1, hd2] at hr
        injection hr with e1 hr
        injection hr with e2 e3
        subst e1 e2 e3
        have hx1 := isHex_le ha
        have hx2 := isHex_le hb
        have hy1 : decide (0 ≤ hexN s[k + 1].toNat) = true := ha
        have hy2 : decide (0 ≤ hexN s[k + 2].toNat) = true := hb
        have hn1 : s[k + 1].toNat < 256 := UInt8.toNat_lt _
        have hn2 : s[k + 2].toNat < 256 := UInt8.toNat_lt _
        have hb37 : ((s[k].toNat : Int) == 37) = true := by rw [beq_iff_eq]; omega
        have HP3 := Lib.hid hpo3
        clear hd hd1 hd2 hpo hpo2 hpo3 ha hb hid h37
        go_wp2_with (go_at_call 112; refine (ishex_any _ _ HT.out (UInt8.toNat_lt _)).mono ?_; rintro e w1 ⟨rfl, rfl⟩)
        all_goals first
          | exact ⟨⟨c + 1, k + 3, hp, rfl, by go_num, rfl, by go_num, by omega, by omega, hpp, HP3, Lib.hid (fun h => by omega)⟩, by simp [intOf]; omega⟩
          | (exfalso; simp only [Bool.not_true, Bool.not_false, hy1, hy2] at *; contradiction)
          | skip
      · have hb37 : ((s[k].toNat : Int) == 37) = false := by rw [beq_eq_false_iff_ne]; omega
        rw [po_else _ _ h37] at hpo2
        have HP := Lib.hid hpo2
        by_cases h43 : s[k].toNat = 43
        · have hb43 : ((s[k].toNat : Int) == 43) = true := by rw [beq_iff_eq]; omega
          have hid2 : c = 0 → pl = false → decB q s.data.toList = s.data.toList.take (k + 1) ++ decB q (s.data.toList.drop (k + 1)) := by
            intro e1 e2
            have hpf : hp = false := by cases hp with | false => rfl | true => rw [hpp rfl] at e2; exact absurd e2 (by decide)
            rw [hid.out e1 hpf, hd, de_same _ _ _ h37 (fun h => by rw [HQL.out, e2] at h; exact absurd h (by decide)), List.take_succ_eq_append_getElem hlt, List.append_assoc]
            rfl
          have HI := Lib.hid hid2
          clear hid hid2 hd hpo hpo2 h37 h43
          go_wp2
          exact ⟨⟨c, k + 1, pl, rfl, rfl, rfl, by go_num, by omega, by omega, id, HP, HI⟩, by simp [intOf]; omega⟩
        · have hb43 : ((s[k].toNat : Int) == 43) = false := by rw [beq_eq_false_iff_ne]; omega
          have hid2 : c = 0 → hp = false → decB q s.data.toList = s.data.toList.take (k + 1) ++ decB q (s.data.toList.drop (k + 1)) := by
            intro e1 e2
            rw [hid.out e1 e2, hd, de_same _ _ _ h37 (fun _ => h43), List.take_succ_eq_append_getElem hlt, List.append_assoc]
            rfl
          have HI := Lib.hid hid2
          clear hid hid2 hd hpo hpo2 h37 h43
          go_wp2
          exact ⟨⟨c, k + 1, hp, rfl, rfl, rfl, by go_num, by omega, by omega, hpp, HP, HI⟩, by simp [intOf]; omega⟩
    · have hks : k = s.size := by omega
      subst hks
      by_cases hz : c = 0 ∧ hp = false
      · obtain ⟨rfl, rfl⟩ := hz
        have he := hid.out rfl rfl
        rw [← size_len, List.take_length, List.drop_length] at he
        have HE := Lib.hid he
        clear he hid hpo
        go_wp2
        go_ret2
        exact ⟨s, rfl, Lib.hid (by rw [HE.out]; exact (List.append_nil _).symm), hb0⟩
      · clear hid
        have hq : (s.size : Int) - 2 * (c : Int) = ((s.size - 2 * c : Nat) : Int) := by omega
        have HB0 := blk_new w (.cells #[.pointer none, .slice none 0 0] 91)
        have hB := hb0.alloc (Nat.le_refl _) (.cells #[.pointer none, .slice none 0 0] 91)
        have H0 := Lib.hid HB0
        clear HB0 hb0 hpo hpp
        have hcut0 : ∃ cb : Bool, ((c : Int) == 0) = cb ∧ (hp = false → cb = false) := ⟨_, rfl, fun h => by
          rw [beq_eq_false_iff_ne]; intro h2; exact hz ⟨by omega, h⟩⟩
        obtain ⟨cb, hcb, hcz⟩ := hcut0
        have h3b : 2 * c ≤ s.size := by omega
        clear hz
        have hc5 : c ≤ s.size := by omega
        clear h3
        generalize hcI : (c : Int) = ci at *
        go_upto_region 26 with (fail)
        go_cut [153] (fun v wc => v = .bool false ∧ wc = w)
        case first =>
          cases hp <;> cases cb
          all_goals first
            | exact absurd (hcz rfl) (by decide)
            | (clear hcz
               go_wp2
               go_meet
               case rel => exact ⟨rfl, rfl⟩)
        case rest =>
          obtain ⟨rfl, rfl⟩ := hcut
          clear hcz hcb
          cases pl
          all_goals
            go_wp2_with (fail)
            refine (Tryz.Builder_Grow_fresh wc.heap.size wc.heap.size _ _ (Nat.le_refl _) H0.out (by rw [World.alloc]; simp) (by omega)).mono ?_
            rintro e w1 ⟨rfl, hbd, hb1⟩
            have hB1 : Below wc.heap.size wc w1 := hB.trans hb1
            have HBD := Lib.hid hbd
            clear hbd hb1 hB H0 hq h3b hc5
            go_wp2
            go_loopw [12] (fun i wr => ∃ (k : Nat) (out : L), i = .int .i64 k ∧ k ≤ s.size ∧ out.length ≤ k ∧ Hid (Lib.BuilderAt 91 5 wc.heap.size wc.heap.size (selfP wc.heap.size) (Lib.byteCells out) wr) ∧ Hid (pctOk (s.data.toList.drop k) = true) ∧ Hid (decB q s.data.toList = out ++ decB q (s.data.toList.drop k)) ∧ Below wc.heap.size wc wr) (fun i _ => s.size - (intOf i).toNat)
            case atStart => exact ⟨0, [], rfl, by omega, Nat.le_refl _, HBD, HOK, Lib.hid rfl, hB1⟩
            case round =>
              obtain ⟨k, out, rfl, hk, hol, HBD, HPO, HDE, hB⟩ := hrel
              have hd2 : ∀ (hlt : k < s.size), s.data.toList.drop k = s[k] :: s.data.toList.drop (k + 1) := drop_cons s k
              have HD := Lib.hid hd2
              clear hd2
              by_cases hlt : k < s.size
              · have hn : s[k].toNat < 256 := s[k].toNat_lt
                by_cases h37 : s[k].toNat = 37
                · obtain ⟨a, b, r', hr, ha, hb, hpo3⟩ := po_inv h37 (by rw [← HD.out hlt]; exact HPO.out)
                  have hl1 : k + 2 < s.size := by
                    have := congrArg List.length hr
                    rw [List.length_drop, size_len, List.length_cons, List.length_cons] at this
                    omega
                  have hd1 : s.data.toList.drop (k + 1) = s[k + 1] :: s.data.toList.drop (k + 2) := drop_cons s (k + 1) (by omega)
                  have hd2 : s.data.toList.drop (k + 2) = s[k + 2] :: s.data.toList.drop (k + 3) := drop_cons s (k + 2) (by omega)
                  rw [hd1, hd2] at hr
                  injection hr with e1 hr
                  injection hr with e2 e3
                  subst e1 e2 e3
                  have hx1 := isHex_le ha
                  have hx2 := isHex_le hb
                  have hy1 := hexN_lt s[k + 1].toNat
                  have hy2 := hexN_lt s[k + 2].toNat
                  have hn1 : s[k + 1].toNat < 256 := UInt8.toNat_lt _
                  have hn2 : s[k + 2].toNat < 256 := UInt8.toNat_lt _
                  have hb37 : ((s[k].toNat : Int) == 37) = true := by rw [beq_iff_eq]; omega
                  have hde := HDE.out
                  rw [HD.out hlt, hd1, hd2, de_pct _ _ _ _ _ h37] at hde
                  have HP3 := Lib.hid hpo3
                  have HDE3 := Lib.hid hde
                  clear hd1 hd2 hpo3 ha hb h37 hde HDE HPO HD
                  go_upto_region 41 with (fail)
                  have g1 : IntKind.i64.wrap (↑k + 1) = ↑k + 1 := IntWalk.i64_in _ (by omega)
                  have g2 : 0 ≤ (k : Int) + 1 := by omega
                  have g3 : ((k : Int) + 1).toNat = k + 1 := by omega
                  have g4 : k + 1 < s.size := by omega
                  have g5 : IntKind.i64.wrap (↑k + 2) = ↑k + 2 := IntWalk.i64_in _ (by omega)
                  have g6 : 0 ≤ (k : Int) + 2 := by omega
                  have g7 : ((k : Int) + 2).toNat = k + 2 := by omega
                  have g8 : (k : Int) + 1 < s.size := by omega
                  have g9 : (k : Int) + 2 < s.size := by omega
                  go_region_held3 (fun w' => True) (trivial) ((first | (go_at_call 113; refine (unhex_any _ _ (UInt8.toNat_lt _) (by assumption)).mono ?_; rintro e w5 ⟨rfl, rfl⟩) | (go_at_call 63; refine (wbyte wc.heap.size wc.heap.size (Lib.byteCells out) _ _ HBD.out.drew (by rw [Lib.byteCells_length]; omega) hB.size).mono ?_; rintro e w2 ⟨rfl, hbd2, hb2⟩)))
                  all_goals
                    have hB2 : Below wc.heap.size wc w2 := hB.drew.trans hb2
                    rw [hexB_val _ _ hx1 hx2] at hbd2
                    have HBD2 := Lib.hid hbd2
                    clear hbd2 hb2 hB HBD
                    go_wp2
                    go_roundw
                    case rel =>
                      exact ⟨k + 3, out ++ [hexB s[k + 1] s[k + 2]], by go_num, by omega, by rw [List.length_append]; simp; omega, Lib.hid (by rw [bc_snoc]; exact HBD2.out), HP3, Lib.hid (by rw [HDE3.out, List.append_assoc]; rfl), hB2⟩
                    case measure => simp [intOf]; omega
                · have hb37 : ((s[k].toNat : Int) == 37) = false := by rw [beq_eq_false_iff_ne]; omega
                  have hpo2 := HPO.out
                  have hde := HDE.out
                  rw [HD.out hlt, po_else _ _ h37] at hpo2
                  rw [HD.out hlt, de_else _ _ _ h37] at hde
                  have HP := Lib.hid hpo2
                  have HDE3 := Lib.hid hde
                  clear h37 HDE HPO HD hpo2 hde
                  by_cases h43 : s[k].toNat = 43
                  · have hb43 : ((s[k].toNat : Int) == 43) = true := by rw [beq_iff_eq]; omega
                    have H43 := Lib.hid h43
                    clear h43
                    go_wp2_with (fail)
                    refine (wbyte wc.heap.size wc.heap.size (Lib.byteCells out) _ _ HBD.out (by rw [Lib.byteCells_length]; omega) hB.size).mono ?_
                    rintro e w2 ⟨rfl, hbd2, hb2⟩
                    have hB2 : Below wc.heap.size wc w2 := hB.trans hb2
                    have HBD2 := Lib.hid hbd2
                    clear hbd2 hb2 hB HBD
                    go_wp2
                    go_roundw
                    case rel =>
                      first
                        | exact ⟨k + 1, out ++ [43], by go_num, by omega, by rw [List.length_append]; simp; omega, Lib.hid (by rw [bc_snoc]; exact HBD2.out), HP, Lib.hid (by
                            have h3 := HDE3.out
                            have hc : s[k] = 43 := UInt8.toNat_inj.1 H43.out
                            rw [HQL.out, Bool.false_and, if_neg (by decide), hc] at h3
                            rw [HQL.out, h3, List.append_assoc]; rfl), hB2⟩
                        | exact ⟨k + 1, out ++ [32], by go_num, by omega, by rw [List.length_append]; simp; omega, Lib.hid (by rw [bc_snoc]; exact HBD2.out), HP, Lib.hid (by
                            have h3 := HDE3.out
                            rw [HQL.out, Bool.true_and, if_pos (decide_eq_true H43.out)] at h3
                            rw [HQL.out, h3, List.append_assoc]; rfl), hB2⟩
                    case measure => simp [intOf]; omega
                  · have hb43 : ((s[k].toNat : Int) == 43) = false := by rw [beq_eq_false_iff_ne]; omega
                    have H43 := Lib.hid h43
                    clear h43
                    go_wp2_with (fail)
                    refine (wbyte wc.heap.size wc.heap.size (Lib.byteCells out) _ _ HBD.out (by rw [Lib.byteCells_length]; omega) hB.size).mono ?_
                    rintro e w2 ⟨rfl, hbd2, hb2⟩
                    have hB2 : Below wc.heap.size wc w2 := hB.trans hb2
                    have HBD2 := Lib.hid hbd2
                    clear hbd2 hb2 hB HBD
                    go_wp2
                    go_roundw
                    case rel =>
                      exact ⟨k + 1, out ++ [s[k]], by go_num, by omega, by rw [List.length_append]; simp; omega, Lib.hid (by rw [bc_snoc]; exact HBD2.out), HP, Lib.hid (by
                            have h3 := HDE3.out
                            rw [decide_eq_false H43.out, Bool.and_false, if_neg (by decide)] at h3
                            rw [h3, List.append_assoc]; rfl), hB2⟩
                    case measure => simp [intOf]; omega
              · have hks : k = s.size := by omega
                subst hks
                have he := HDE.out
                rw [show s.data.toList.drop s.size = [] by rw [← size_len, List.drop_length]] at he
                have HE := Lib.hid he
                clear he
                go_wp2_with (fail)
                refine (Tryz.Builder_String_any wc.heap.size wc.heap.size out _ (.inr HBD.out) hB.size).mono ?_
                rintro e w2 ⟨rfl, hb2⟩
                have hB2 : Below wc.heap.size wc w2 := hB.trans hb2
                obtain ⟨t, ht⟩ : ∃ t : ByteArray, t = ⟨out.toArray⟩ := ⟨_, rfl⟩
                rw [← ht]
                have HT2 := Lib.hid ht
                clear hb2 ht
                go_wp2
                go_ret2
                exact ⟨t, rfl, Lib.hid (by rw [HT2.out, HE.out]; exact (List.append_nil _).symm), hB2⟩
end Go.Proofs.YtfkgkkmcaaefnaaGreatDoor.Wk
