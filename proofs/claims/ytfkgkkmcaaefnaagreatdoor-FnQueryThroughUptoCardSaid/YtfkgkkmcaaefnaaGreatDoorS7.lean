/-
  THE WALK of the reference's isAuthority.
-/
import Derived.Test.YtfkgkkmcaaefnaaGreatDoorS6
import Derived.Test.YtfkgkkmcaaefnaaGreatDoorS2
import Derived.Test.YtfkgkkmcaaefnaaGreatDoorPw
set_option linter.unusedSimpArgs false
set_option linter.unusedVariables false
namespace Go.Proofs.YtfkgkkmcaaefnaaGreatDoor.Wk
open Go.RowKit Go.Proofs.YtfkgkkmcaaefnaaGreatDoor.Pu

abbrev auCells (hu : Bool) (us ho : ByteArray) : Array Value := #[.bool hu, .string us, .string ho]
abbrev auV (hu : Bool) (us ho : ByteArray) (ok : Bool) : Value := .tuple #[.agg #[.bool hu, .string us, .string ho], .bool ok]

set_option maxHeartbeats 4000000 in
set_option maxRecDepth 100000 in
theorem auth_any (s : ByteArray) (w : World) (hs : s.size ≤ 9223372036854770000) :
    Calls Tryz.prog 41 #[.string s] w fun e w' => ∃ (hu : Bool) (us ho : ByteArray) (ok : Bool), e = .returned (auV hu us ho ok) ∧ Hid (authF s.data.toList = ⟨hu, us.data.toList, ho.data.toList, ok⟩) ∧ us.size ≤ s.size ∧ ho.size ≤ s.size ∧ Below w.heap.size w w' := by
  have hb0 := Below.refl w.heap.size w
  have hzz : (⟨#[]⟩ : ByteArray).size ≤ s.size := Nat.zero_le _
  have h0 : ((w.alloc (.cells (auCells false ⟨#[]⟩ ⟨#[]⟩) 63)).alloc (.cells (auCells false ⟨#[]⟩ ⟨#[]⟩) 63)).heap[w.heap.size]? = some (.cells (auCells false ⟨#[]⟩ ⟨#[]⟩) 63) := blk_alloc (blk_new _ _) _
  have h1 : ((w.alloc (.cells (auCells false ⟨#[]⟩ ⟨#[]⟩) 63)).alloc (.cells (auCells false ⟨#[]⟩ ⟨#[]⟩) 63)).heap[w.heap.size + 1]? = some (.cells (auCells false ⟨#[]⟩ ⟨#[]⟩) 63) := by
    have := blk_new (w.alloc (.cells (auCells false ⟨#[]⟩ ⟨#[]⟩) 63)) (.cells (auCells false ⟨#[]⟩ ⟨#[]⟩) 63)
    simpa using this
  have hB : Below w.heap.size w ((w.alloc (.cells (auCells false ⟨#[]⟩ ⟨#[]⟩) 63)).alloc (.cells (auCells false ⟨#[]⟩ ⟨#[]⟩) 63)) := (hb0.alloc (Nat.le_refl _) _).alloc (by simp) _
  have H0 := Lib.hid h0
  have H1 := Lib.hid h1
  clear h0 h1
  go_enter Tryz.func41, Tryz.ntmps41
  go_wp2_with (fail)
  refine (index_any _ _ _ (by omega) (by decide)).mono ?_
  rintro e w1 ⟨rfl, hb1⟩
  have k0 := blk_below H0.out hb1 (Array.getElem?_eq_some_iff.1 H0.out).1
  have k1 := blk_below H1.out hb1 (Array.getElem?_eq_some_iff.1 H1.out).1
  have hB1 := bt hB hb1
  clear H0 H1
  have H0 := Lib.hid k0
  have H1 := Lib.hid k1
  clear k0 k1 hb1
  have hn := idx_le [64] s.data.toList
  rw [size_len] at hn
  generalize hn1 : idx ([64] : L) s.data.toList = n at *
  have HN := Lib.hid hn1
  clear hn1 hB hb0
  go_upto_if 14 with (fail)
  go_cut [0] (fun v0 wc => ∃ (h us : ByteArray) (hu : Bool), v0 = .string h ∧ h.size ≤ s.size ∧ us.size ≤ s.size ∧ Hid (auth1 s.data.toList = optIf hu (us.data.toList, h.data.toList)) ∧ Hid (if hu = true then charsB [58] true us.data.toList = true else h.data.toList = s.data.toList ∧ us.data.toList = []) ∧ Below w.heap.size w wc ∧
    Hid (wc.heap[w.heap.size]? = some (.cells (auCells false ⟨#[]⟩ ⟨#[]⟩) 63)) ∧ Hid (wc.heap[w.heap.size + 1]? = some (.cells (auCells hu us ⟨#[]⟩) 63)))
  case first =>
    by_cases c1 : n < s.size
    · have hc1 : w1.cell? ⟨w.heap.size + 1, 0, none⟩ = some (.bool false) := blk_cell H1.out 0
      have hc2 : w1.cell? ⟨w.heap.size + 1, 1, none⟩ = some (.string ⟨#[]⟩) := blk_cell H1.out 1
      have hf1 : w1.frozen? ⟨w.heap.size + 1, 0, none⟩ = false := blk_frozen H1.out 0
      have hf2 : w1.frozen? ⟨w.heap.size + 1, 1, none⟩ = false := blk_frozen H1.out 1
      have hw : IntKind.i64.wrap (↑n + 1) = ↑n + 1 := IntWalk.i64_in _ (by omega)
      go_wp2
      go_region
      go_wp2_with (fail)
      have hzu : (s.extract 0 n).size ≤ s.size := ext_size _ _ _
      have hzh : (s.extract (n + 1) s.size).size ≤ s.size := ext_size _ _ _
      refine (chars_any _ _ _ _ (by omega) (by decide)).mono ?_
      rintro e w4 ⟨rfl, hb4⟩
      have hBw : Below w.heap.size w (((w1.setCell ⟨w.heap.size + 1, 0, none⟩ (.bool true)).setCell ⟨w.heap.size + 1, 1, none⟩ (.string (s.extract 0 n))).drew) := ((hB1.setCell (by simp) _).setCell (by simp) _).drew
      have h0 : (((w1.setCell ⟨w.heap.size + 1, 0, none⟩ (.bool true)).setCell ⟨w.heap.size + 1, 1, none⟩ (.string (s.extract 0 n))).drew).heap[w.heap.size]? = _ := blk_far (blk_far H0.out _ _ (by omega)) _ _ (by omega)
      have h1 : (((w1.setCell ⟨w.heap.size + 1, 0, none⟩ (.bool true)).setCell ⟨w.heap.size + 1, 1, none⟩ (.string (s.extract 0 n))).drew).heap[w.heap.size + 1]? = _ := blk_set (blk_set H1.out _ _) _ _
      have k0 := blk_below h0 hb4 (Array.getElem?_eq_some_iff.1 h0).1
      have k1 := blk_below h1 hb4 (Array.getElem?_eq_some_iff.1 h1).1
      have hB4 := bt hBw hb4
      clear h0 h1 H0 H1 hBw hb4
      have ha1 : auth1 s.data.toList = some ((s.extract 0 n).data.toList, (s.extract (n + 1) s.size).data.toList) := by
        unfold auth1; rw [HN.out, if_pos (by rw [size_len]; exact c1), ext_toList, List.drop_zero, rest_eq]
      have HA1 := Lib.hid ha1
      clear ha1
      generalize s.extract 0 n = us at *
      generalize s.extract (n + 1) s.size = h at *
      have H0 := Lib.hid k0
      have H1 : Hid (w4.heap[w.heap.size + 1]? = some (.cells (auCells true us ⟨#[]⟩) 63)) := Lib.hid k1
      clear k0 k1 hB1 hc1 hc2 hf1 hf2 hw
      cases hch : charsB [58] true us.data.toList
      · have HC := Lib.hid hch
        have q0 : w4.cell? ⟨w.heap.size + 1, 0, none⟩ = some (.bool true) := blk_cell H1.out 0
        have q1 : w4.cell? ⟨w.heap.size + 1, 1, none⟩ = some (.string us) := blk_cell H1.out 1
        have q2 : w4.cell? ⟨w.heap.size + 1, 2, none⟩ = some (.string ⟨#[]⟩) := blk_cell H1.out 2
        have hc0 : ∀ j, w4.cell? ⟨w.heap.size, j, none⟩ = (auCells false ⟨#[]⟩ ⟨#[]⟩)[j]? := blk_cell H0.out
        have z0 : ∀ j, w4.frozen? ⟨w.heap.size, j, none⟩ = false := blk_frozen H0.out
        go_wp2
        refine bodyPost_ret (v := auV true us ⟨#[]⟩ false) (by simp [results, Tryz.results41, go_sem, hc0, auCells]) rfl ⟨true, us, ⟨#[]⟩, false, rfl, Lib.hid ?_, by omega, by omega, ?_⟩
        · exact authF_bad HA1.out HC.out
        · go_grown
      · have HC := Lib.hid hch
        clear hch
        go_wp2
        go_meet
        case rel => exact ⟨h, us, true, rfl, hzh, hzu, HA1, Lib.hid HC.out, hB4, H0, H1⟩
    · go_wp2
      go_meet
      case rel => exact ⟨s, ⟨#[]⟩, false, rfl, by omega, hzz, Lib.hid (by unfold auth1; rw [HN.out, if_neg (by rw [size_len]; exact c1)]; rfl), Lib.hid ⟨rfl, rfl⟩, hB1, H0, H1⟩
  case rest =>
    clear HN hn hB1
    obtain ⟨h, us, hu, rfl, hzh, hzu, ha1, hau, hB, H0, H1⟩ := hcut
    have HAU := Lib.hid (authF_go ha1.out hau.out)
    clear ha1 hau
    have hc1 : wc.cell? ⟨w.heap.size + 1, 2, none⟩ = some (.string ⟨#[]⟩) := blk_cell H1.out 2
    have hf1 : wc.frozen? ⟨w.heap.size + 1, 2, none⟩ = false := blk_frozen H1.out 2
    go_wp2_with (fail)
    refine (begins_any _ _ _ (by omega) (by decide)).mono ?_
    rintro e w5 ⟨rfl, hb5⟩
    have hBw : Below w.heap.size w (wc.setCell ⟨w.heap.size + 1, 2, none⟩ (.string h)) := hB.setCell (by simp) _
    have h0 : (wc.setCell ⟨w.heap.size + 1, 2, none⟩ (.string h)).heap[w.heap.size]? = _ := blk_far H0.out _ _ (by omega)
    have h1 : (wc.setCell ⟨w.heap.size + 1, 2, none⟩ (.string h)).heap[w.heap.size + 1]? = _ := blk_set H1.out _ _
    have k0 := blk_below h0 hb5 (Array.getElem?_eq_some_iff.1 h0).1
    have k1 := blk_below h1 hb5 (Array.getElem?_eq_some_iff.1 h1).1
    have hB5 := bt hBw hb5
    clear h0 h1 H0 H1 hBw hb5 hc1 hf1 hB
    have H0 := Lib.hid k0
    have H1 : Hid (w5.heap[w.heap.size + 1]? = some (.cells (auCells hu us h) 63)) := Lib.hid k1
    clear k0 k1
    go_upto_if 32 with (fail)
    go_cut [0] (fun v0 wc => ∃ (s2 : ByteArray), v0 = .string s2 ∧ s2.size ≤ s.size ∧ Hid (hostF h.data.toList = portOk s2.data.toList) ∧ Below w.heap.size w wc ∧
      Hid (wc.heap[w.heap.size]? = some (.cells (auCells false ⟨#[]⟩ ⟨#[]⟩) 63)) ∧ Hid (wc.heap[w.heap.size + 1]? = some (.cells (auCells hu us h) 63)))
    case first =>
      cases hpre : ([91] : L).isPrefixOf h.data.toList
      · have HP := Lib.hid hpre
        clear hpre
        go_wp2_with (fail)
        refine (index_any _ _ _ (by omega) (by decide)).mono ?_
        rintro e w6 ⟨rfl, hb6⟩
        have k0 := blk_below H0.out hb6 (Array.getElem?_eq_some_iff.1 H0.out).1
        have k1 := blk_below H1.out hb6 (Array.getElem?_eq_some_iff.1 H1.out).1
        have hB6 := bt hB5 hb6
        clear H0 H1
        have H0 := Lib.hid k0
        have H1 := Lib.hid k1
        clear k0 k1 hb6
        have hn := idx_le [58] h.data.toList
        rw [size_len] at hn
        generalize hn1 : idx ([58] : L) h.data.toList = n at *
        have HN := Lib.hid hn1
        clear hn1
        go_wp2_with (fail)
        have hzx : (h.extract 0 n).size ≤ h.size := ext_size _ _ _
        have HX := Lib.hid (show (h.extract 0 n).data.toList = h.data.toList.take n by rw [ext_toList, List.drop_zero])
        generalize h.extract 0 n = x at *
        refine (chars_any _ _ _ _ (by omega) (by decide)).mono ?_
        rintro e w7 ⟨rfl, hb7⟩
        have k0 := blk_below H0.out hb7 (Array.getElem?_eq_some_iff.1 H0.out).1
        have k1 := blk_below H1.out hb7 (Array.getElem?_eq_some_iff.1 H1.out).1
        have hB7 := bt hB6 hb7
        clear H0 H1
        have H0 := Lib.hid k0
        have H1 := Lib.hid k1
        clear k0 k1 hb7
        have HH := Lib.hid (host_n HP.out HN.out)
        rw [← HX.out] at HH
        cases hch : charsB [] false x.data.toList
        · have HC := Lib.hid hch
          have q0 : w7.cell? ⟨w.heap.size + 1, 0, none⟩ = some (.bool hu) := blk_cell H1.out 0
          have q1 : w7.cell? ⟨w.heap.size + 1, 1, none⟩ = some (.string us) := blk_cell H1.out 1
          have q2 : w7.cell? ⟨w.heap.size + 1, 2, none⟩ = some (.string h) := blk_cell H1.out 2
          have hc0 : ∀ j, w7.cell? ⟨w.heap.size, j, none⟩ = (auCells false ⟨#[]⟩ ⟨#[]⟩)[j]? := blk_cell H0.out
          have z0 : ∀ j, w7.frozen? ⟨w.heap.size, j, none⟩ = false := blk_frozen H0.out
          go_wp2
          refine bodyPost_ret (v := auV hu us h false) (by simp [results, Tryz.results41, go_sem, hc0, auCells]) rfl ⟨hu, us, h, false, rfl, Lib.hid ?_, by omega, by omega, ?_⟩
          · rw [HAU.out, HH.out, HC.out]; rfl
          · go_grown
        · have HC := Lib.hid hch
          clear hch
          go_wp2
          go_meet
          case rel => exact ⟨h.extract n h.size, rfl, Nat.le_trans (ext_size _ _ _) hzh, Lib.hid (by rw [HH.out, HC.out, rest_eq]; rfl), hB7, H0, H1⟩
      · have HP := Lib.hid hpre
        have hm1 : 1 ≤ idx [93] h.data.toList := by
          obtain ⟨l, hl⟩ := List.isPrefixOf_iff_prefix.1 hpre
          rw [← hl, List.singleton_append, idx_miss _ _ _ (by decide)]; omega
        clear hpre
        go_wp2_with (fail)
        refine (index_any _ _ _ (by omega) (by decide)).mono ?_
        rintro e w6 ⟨rfl, hb6⟩
        have k0 := blk_below H0.out hb6 (Array.getElem?_eq_some_iff.1 H0.out).1
        have k1 := blk_below H1.out hb6 (Array.getElem?_eq_some_iff.1 H1.out).1
        have hB6 := bt hB5 hb6
        clear H0 H1
        have H0 := Lib.hid k0
        have H1 := Lib.hid k1
        clear k0 k1 hb6
        have hn := idx_le [93] h.data.toList
        rw [size_len] at hn
        generalize hn1 : idx ([93] : L) h.data.toList = n at *
        have HN := Lib.hid hn1
        clear hn1
        by_cases c1 : n = h.size
        · have c1b : ((n : Int) == h.size) = true := by rw [beq_iff_eq]; omega
          have C1 := Lib.hid c1
          clear c1
          have q0 : w6.cell? ⟨w.heap.size + 1, 0, none⟩ = some (.bool hu) := blk_cell H1.out 0
          have q1 : w6.cell? ⟨w.heap.size + 1, 1, none⟩ = some (.string us) := blk_cell H1.out 1
          have q2 : w6.cell? ⟨w.heap.size + 1, 2, none⟩ = some (.string h) := blk_cell H1.out 2
          have hc0 : ∀ j, w6.cell? ⟨w.heap.size, j, none⟩ = (auCells false ⟨#[]⟩ ⟨#[]⟩)[j]? := blk_cell H0.out
          have z0 : ∀ j, w6.frozen? ⟨w.heap.size, j, none⟩ = false := blk_frozen H0.out
          go_wp2
          refine bodyPost_ret (v := auV hu us h false) (by simp [results, Tryz.results41, go_sem, hc0, auCells]) rfl ⟨hu, us, h, false, rfl, Lib.hid ?_, by omega, by omega, ?_⟩
          · rw [HAU.out, host_b1 HP.out (by rw [HN.out, C1.out, size_len])]
          · go_grown
        · have c1b : ((n : Int) == h.size) = false := by rw [beq_eq_false_iff_ne]; omega
          have HH := Lib.hid (host_b HP.out HN.out (by rw [size_len]; omega))
          go_wp2_with (fail)
          have hzx : (h.extract 1 n).size ≤ h.size := ext_size _ _ _
          have HX := Lib.hid (ext_toList h 1 n)
          generalize h.extract 1 n = x at *
          rw [← HX.out] at HH
          refine (v6_any _ _ (by omega)).mono ?_
          rintro e w7 ⟨rfl, hb7⟩
          have k0 := blk_below H0.out hb7 (Array.getElem?_eq_some_iff.1 H0.out).1
          have k1 := blk_below H1.out hb7 (Array.getElem?_eq_some_iff.1 H1.out).1
          have hB7 := bt hB6 hb7
          clear H0 H1
          have H0 := Lib.hid k0
          have H1 := Lib.hid k1
          clear k0 k1 hb7
          cases hch : v6F x.data.toList
          · have HC := Lib.hid hch
            have q0 : w7.cell? ⟨w.heap.size + 1, 0, none⟩ = some (.bool hu) := blk_cell H1.out 0
            have q1 : w7.cell? ⟨w.heap.size + 1, 1, none⟩ = some (.string us) := blk_cell H1.out 1
            have q2 : w7.cell? ⟨w.heap.size + 1, 2, none⟩ = some (.string h) := blk_cell H1.out 2
            have hc0 : ∀ j, w7.cell? ⟨w.heap.size, j, none⟩ = (auCells false ⟨#[]⟩ ⟨#[]⟩)[j]? := blk_cell H0.out
            have z0 : ∀ j, w7.frozen? ⟨w.heap.size, j, none⟩ = false := blk_frozen H0.out
            go_wp2
            refine bodyPost_ret (v := auV hu us h false) (by simp [results, Tryz.results41, go_sem, hc0, auCells]) rfl ⟨hu, us, h, false, rfl, Lib.hid ?_, by omega, by omega, ?_⟩
            · rw [HAU.out, HH.out, HC.out]; rfl
            · go_grown
          · have HC := Lib.hid hch
            clear hch
            go_wp2
            go_meet
            case rel => exact ⟨h.extract (n + 1) h.size, rfl, Nat.le_trans (ext_size _ _ _) hzh, Lib.hid (by rw [HH.out, HC.out, rest_eq]; rfl), hB7, H0, H1⟩
    case rest =>
      clear hB5 H0 H1
      obtain ⟨s2, rfl, hz2, hho, hB, H0, H1⟩ := hcut
      have HAU2 : Hid (authF s.data.toList = ⟨hu, us.data.toList, h.data.toList, portOk s2.data.toList⟩) := Lib.hid (by rw [HAU.out, hho.out])
      clear HAU hho
      by_cases he : s2.data.toList = []
      · have HE := Lib.hid he
        have he2 : s2.toList = [] := by rw [toList_data]; exact he
        have he3 : s2.toList.isEmpty = true := by rw [he2]; rfl
        clear he
        have q0 : wc.cell? ⟨w.heap.size + 1, 0, none⟩ = some (.bool hu) := blk_cell H1.out 0
        have q1 : wc.cell? ⟨w.heap.size + 1, 1, none⟩ = some (.string us) := blk_cell H1.out 1
        have q2 : wc.cell? ⟨w.heap.size + 1, 2, none⟩ = some (.string h) := blk_cell H1.out 2
        have hc0 : ∀ j, wc.cell? ⟨w.heap.size, j, none⟩ = (auCells false ⟨#[]⟩ ⟨#[]⟩)[j]? := blk_cell H0.out
        have z0 : ∀ j, wc.frozen? ⟨w.heap.size, j, none⟩ = false := blk_frozen H0.out
        go_wp2
        refine bodyPost_ret (v := auV hu us h true) (by simp [results, Tryz.results41, go_sem, hc0, auCells]) rfl ⟨hu, us, h, true, rfl, Lib.hid ?_, by omega, by omega, ?_⟩
        · rw [HAU2.out, HE.out]; rfl
        · go_grown
      · have he2 : ¬ s2.toList = [] := by rw [toList_data]; exact he
        have he3 : s2.toList.isEmpty = false := by rw [Bool.eq_false_iff]; simpa using he2
        have hpos : 0 < s2.size := by rw [← size_len]; exact List.length_pos_iff.2 he
        have hd0 := drop_cons s2 0 hpos
        rw [List.drop_zero] at hd0
        have HD0 := Lib.hid hd0
        clear he hd0
        go_wp2
        go_loopw [8] (fun i wr => ∃ k : Nat, i = .int .i64 k ∧ 1 ≤ k ∧ k ≤ s2.size ∧ Hid ((s2.data.toList.drop k).all digC = (s2.data.toList.drop 1).all digC) ∧ Below w.heap.size w wr ∧
          Hid (wr.heap[w.heap.size]? = some (.cells (auCells false ⟨#[]⟩ ⟨#[]⟩) 63)) ∧ Hid (wr.heap[w.heap.size + 1]? = some (.cells (auCells hu us h) 63))) (fun i _ => s2.size - (intOf i).toNat)
        case atStart => exact ⟨1, rfl, by omega, by omega, Lib.hid rfl, hB, H0, H1⟩
        case round =>
          clear H0 H1 hB
          obtain ⟨k, rfl, hk1, hk, hall, hB, H0, H1⟩ := hrel
          obtain ⟨wo, rfl⟩ : ∃ wo : World, wo = wr := ⟨_, rfl⟩
          by_cases hlt : k < s2.size
          · have HD := Lib.hid (drop_cons s2 k hlt)
            have hn2 : s2[k].toNat < 256 := s2[k].toNat_lt
            cases hg : digitN s2[k].toNat
            · have HG := Lib.hid hg
              go_wp2_with (fail)
              refine (digit_any _ _ hn2).mono ?_
              rintro e w6 ⟨rfl, hb6⟩
              have k0 := blk_below H0.out hb6 (Array.getElem?_eq_some_iff.1 H0.out).1
              have k1 := blk_below H1.out hb6 (Array.getElem?_eq_some_iff.1 H1.out).1
              have hB6 := bt hB hb6
              clear H0 H1
              have H0 := Lib.hid k0
              have H1 := Lib.hid k1
              clear k0 k1 hb6
              have hp : portOk s2.data.toList = false := by
                have h3 : (s2.data.toList.drop 1).all digC = false := by rw [← hall.out, HD.out, List.all_cons, digC, HG.out]; rfl
                rw [HD0.out, portOk]
                rw [HD0.out, List.drop_succ_cons, List.drop_zero] at h3
                rw [h3]; rfl
              have HPO := Lib.hid hp
              clear hp
              have q0 : w6.cell? ⟨w.heap.size + 1, 0, none⟩ = some (.bool hu) := blk_cell H1.out 0
              have q1 : w6.cell? ⟨w.heap.size + 1, 1, none⟩ = some (.string us) := blk_cell H1.out 1
              have q2 : w6.cell? ⟨w.heap.size + 1, 2, none⟩ = some (.string h) := blk_cell H1.out 2
              have hc0 : ∀ j, w6.cell? ⟨w.heap.size, j, none⟩ = (auCells false ⟨#[]⟩ ⟨#[]⟩)[j]? := blk_cell H0.out
              have z0 : ∀ j, w6.frozen? ⟨w.heap.size, j, none⟩ = false := blk_frozen H0.out
              go_wp2
              refine bodyPost_ret (v := auV hu us h false) (by simp [results, Tryz.results41, go_sem, hc0, auCells]) rfl ⟨hu, us, h, false, rfl, Lib.hid ?_, by omega, by omega, ?_⟩
              · rw [HAU2.out, HPO.out]
              · go_grown
            · have HG := Lib.hid hg
              go_wp2_with (fail)
              refine (digit_any _ _ hn2).mono ?_
              rintro e w6 ⟨rfl, hb6⟩
              have k0 := blk_below H0.out hb6 (Array.getElem?_eq_some_iff.1 H0.out).1
              have k1 := blk_below H1.out hb6 (Array.getElem?_eq_some_iff.1 H1.out).1
              have hB6 := bt hB hb6
              clear H0 H1
              have H0 := Lib.hid k0
              have H1 := Lib.hid k1
              clear k0 k1 hb6
              go_wp2
              go_roundw
              case rel => exact ⟨k + 1, by go_num, by omega, by omega, Lib.hid (by rw [← hall.out, HD.out, List.all_cons, digC, HG.out]; rfl), hB6, H0, H1⟩
              case measure => simp [intOf]; omega
          · have hp : portOk s2.data.toList = decide (s2[0].toNat = 58) := by
              have h3 : (s2.data.toList.drop 1).all digC = true := by rw [← hall.out, List.drop_of_length_le (by rw [size_len]; omega)]; rfl
              rw [HD0.out, portOk]
              rw [HD0.out, List.drop_succ_cons, List.drop_zero] at h3
              rw [h3]; rfl
            have HPO := Lib.hid hp
            clear hp
            have q0 : wo.cell? ⟨w.heap.size + 1, 0, none⟩ = some (.bool hu) := blk_cell H1.out 0
            have q1 : wo.cell? ⟨w.heap.size + 1, 1, none⟩ = some (.string us) := blk_cell H1.out 1
            have q2 : wo.cell? ⟨w.heap.size + 1, 2, none⟩ = some (.string h) := blk_cell H1.out 2
            have hc0 : ∀ j, wo.cell? ⟨w.heap.size, j, none⟩ = (auCells false ⟨#[]⟩ ⟨#[]⟩)[j]? := blk_cell H0.out
            have hcc0 : wo.cell? ⟨w.heap.size, 0, none⟩ = some (.bool false) := blk_cell H0.out 0
            have hcc1 : wo.cell? ⟨w.heap.size, 1, none⟩ = some (.string ⟨#[]⟩) := blk_cell H0.out 1
            have hcc2 : wo.cell? ⟨w.heap.size, 2, none⟩ = some (.string ⟨#[]⟩) := blk_cell H0.out 2
            have z0 : ∀ j, wo.frozen? ⟨w.heap.size, j, none⟩ = false := blk_frozen H0.out
            cases h58 : ((s2[0].toNat : Int) == 58)
            · have HF := Lib.hid (toNat_of_bne (n := 58) h58)
              go_wp2
              go_region
              go_wp2
              refine bodyPost_ret (v := auV hu us h false) (by simp [results, Tryz.results41, go_sem, hc0, auCells]) rfl ⟨hu, us, h, false, rfl, Lib.hid ?_, by omega, by omega, ?_⟩
              · rw [HAU2.out, HPO.out, decide_eq_false HF.out]
              · go_grown
            · have HF := Lib.hid (toNat_of_beq (n := 58) h58)
              go_wp2
              go_region
              go_wp2
              refine bodyPost_ret (v := auV hu us h true) (by simp [results, Tryz.results41, go_sem, hc0, auCells]) rfl ⟨hu, us, h, true, rfl, Lib.hid ?_, by omega, by omega, ?_⟩
              · rw [HAU2.out, HPO.out, decide_eq_true HF.out]
              · go_grown
end Go.Proofs.YtfkgkkmcaaefnaaGreatDoor.Wk
