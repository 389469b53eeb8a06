/-
  THE WALKS of the reference's RemoveDots.
-/
import Derived.Test.YtfkgkkmcaaefnaaGreatDoorS7
import Derived.Test.YtfkgkkmcaaefnaaGreatDoorPx
set_option linter.unusedSimpArgs false
set_option linter.unusedVariables false
namespace Go.Proofs.YtfkgkkmcaaefnaaGreatDoor.Wk
open Go.RowKit Go.Proofs.YtfkgkkmcaaefnaaGreatDoor.Pu

set_option maxHeartbeats 2000000 in
set_option maxRecDepth 100000 in
theorem drop_any (a : Addr) (out : ByteArray) (w : World) (hc : w.cell? a = some (.string out)) (hf : w.frozen? a = false) (hz : out.size ≤ 1000000000000) :
    Calls Tryz.prog 79 #[.pointer (some a)] w fun e w' => ∃ t : ByteArray, e = .returned (.tuple #[]) ∧ Hid (t.data.toList = dropSeg out.data.toList) ∧ t.size ≤ out.size ∧ w' = w.setCell a (.string t) := by
  go_enter Tryz.func79, Tryz.ntmps79
  go_wp2
  go_loop [1] (fun v => ∃ n : Nat, v = .int .i64 n ∧ n ≤ out.size ∧ Hid (lastSl (out.data.toList.take n) = lastSl out.data.toList)) (fun v => (intOf v).toNat)
  case atStart => exact ⟨out.size, rfl, by omega, Lib.hid (by rw [← size_len, List.take_length])⟩
  case round =>
    obtain ⟨n, rfl, hn, hl⟩ := hrel
    by_cases h0 : 0 < n
    · obtain ⟨m, rfl⟩ : ∃ m, n = m + 1 := ⟨n - 1, by omega⟩
      have hm : m < out.size := by omega
      have hs := take_snoc out m hm
      have hl2 := hl.out
      rw [hs, lastSl_snoc] at hl2
      have HL := Lib.hid hl2
      clear hl hs hl2
      have hi1 : ((m : Int) + 1 - 1) = m := by omega
      by_cases h47 : out[m].toNat = 47
      · have hb : ((out[m].toNat : Int) == 47) = true := by rw [beq_iff_eq]; omega
        have hb2 : ((out[m].toNat : Int) != 47) = false := by simp; omega
        have he : lastSl out.data.toList = m + 1 := by
          rw [← HL.out, if_pos (UInt8.toNat_inj.1 h47), List.length_take, size_len]; omega
        have HE := Lib.hid he
        clear he h47
        go_wp2
        go_end0
        exact ⟨rfl, out.extract 0 m, Lib.hid (by rw [ext_toList, List.drop_zero, dropSeg, HE.out, Nat.add_sub_cancel]), ext_size _ _ _, rfl⟩
      · have hb : ((out[m].toNat : Int) == 47) = false := by rw [beq_eq_false_iff_ne]; omega
        have hb2 : ((out[m].toNat : Int) != 47) = true := by simp; omega
        have he : lastSl (out.data.toList.take m) = lastSl out.data.toList := by
          rw [← HL.out, if_neg (fun h => h47 (by rw [h]; rfl))]
        have HE := Lib.hid he
        clear he h47
        go_wp2
        exact ⟨⟨m, rfl, by omega, HE⟩, by simp [intOf]⟩
    · have hn0 : n = 0 := by omega
      subst hn0
      have he := hl.out
      rw [List.take_zero, lastSl_nil] at he
      have HE := Lib.hid he
      clear he
      go_wp2
      go_end0
      exact ⟨rfl, ByteArray.empty, Lib.hid (by rw [dropSeg, ← HE.out]; rfl), Nat.zero_le _, rfl⟩

theorem app_toL (a b : ByteArray) : (a ++ b).data.toList = a.data.toList ++ b.data.toList := by
  rw [ByteArray.data_append, Array.toList_append]
/-- where the string that drop shortens lies -/
abbrev outAt (w W : World) (out : ByteArray) : Prop := W.heap[w.heap.size]? = some (.cells #[.string out] 9)
set_option maxHeartbeats 4000000 in
set_option maxRecDepth 100000 in
theorem removeDots_any (s : ByteArray) (w : World) (hs : s.size ≤ 1000000000000) :
    Calls Tryz.prog 47 #[.string s] w fun e w' => ∃ t : ByteArray, e = .returned (.string t) ∧ Hid (t.data.toList = removeDots s.data.toList) ∧ t.size ≤ s.size ∧ Below w.heap.size w w' := by
  have hB := (Below.refl w.heap.size w).alloc (Nat.le_refl _) (.cells #[.string ⟨#[]⟩] 9)
  have H0 := Lib.hid (blk_new w (.cells #[.string ⟨#[]⟩] 9))
  go_enter Tryz.func47, Tryz.ntmps47
  go_wp2
  go_loopw [0] (fun v wr => ∃ (p out : ByteArray) (k : Nat), v = .string p ∧ p.size ≤ k ∧ out.size + p.size ≤ s.size ∧ Hid (rdF k p.data.toList out.data.toList = removeDots s.data.toList) ∧ Hid (outAt w wr out) ∧ Below w.heap.size w wr) (fun v _ => strN v)
  case atStart => exact ⟨s, ⟨#[]⟩, s.size, rfl, Nat.le_refl _, by show 0 + _ ≤ _; omega, Lib.hid rfl, H0, hB⟩
  case round =>
    clear hB H0
    obtain ⟨p, out, k, rfl, hpk, hsz, hrd, H0, hB⟩ := hrel
    obtain ⟨wo, rfl⟩ : ∃ wo : World, wo = wr := ⟨_, rfl⟩
    by_cases hp : p.data.toList = []
    · have hp2 : p.toList = [] := by rw [toList_data]; exact hp
      have hp3 : p.toList.isEmpty = true := by rw [hp2]; rfl
      have c0 : wo.cell? ⟨w.heap.size, 0, none⟩ = some (.string out) := blk_cell H0.out 0
      have HP := Lib.hid hp
      clear hp
      go_wp2
      go_ret
      exact ⟨out, rfl, Lib.hid (by rw [← hrd.out, HP.out, rdF_nil]), by omega, hB⟩
    · have hp2 : ¬ p.toList = [] := by rw [toList_data]; exact hp
      have hp3 : p.toList.isEmpty = false := by rw [Bool.eq_false_iff]; simpa using hp2
      have hpos : 0 < p.size := by rw [← size_len]; exact List.length_pos_iff.2 hp
      obtain ⟨k, rfl⟩ : ∃ j, k = j + 1 := ⟨k - 1, by omega⟩
      have HP := Lib.hid hp
      clear hp
      go_wp2_with (fail)
      refine (begins_any _ _ _ (by omega) (by decide)).mono ?_
      rintro e w1 ⟨rfl, hb1⟩
      have k0 := blk_below H0.out hb1 (Array.getElem?_eq_some_iff.1 H0.out).1
      have hB1 := bt hB hb1
      clear H0
      have H0 : Hid (outAt w _ out) := Lib.hid k0
      clear k0 hb1 hB
      cases hx : ([46, 46, 47] : L).isPrefixOf p.data.toList
      rotate_left
      · have P1 := Lib.hid hx
        have hl : 3 ≤ p.size := by have := pre_len hx; rw [size_len] at this; simpa using this
        clear hx
        go_wp2
        go_roundw
        case rel => exact ⟨p.extract 3 p.size, out, k, rfl, by first | omega | (rw [ByteArray.size_extract]; omega), by first | omega | (rw [ByteArray.size_extract]; omega), Lib.hid (by rw [← hrd.out, rdF_go HP.out (rs1 P1.out)]; try (first | rw [rest_eq] | rfl)), H0, hB1⟩
        case measure => first | (show (1 : Nat) < p.size; omega) | (show (0 : Nat) < p.size; omega) | (simp [strN, ByteArray.size_extract]; omega)
      have P1 := Lib.hid hx
      clear hx
      go_wp2_with (fail)
      refine (begins_any _ _ _ (by omega) (by decide)).mono ?_
      rintro e w2 ⟨rfl, hb2⟩
      have k0 := blk_below H0.out hb2 (Array.getElem?_eq_some_iff.1 H0.out).1
      have hB2 := bt hB1 hb2
      clear H0
      have H0 : Hid (outAt w _ out) := Lib.hid k0
      clear k0 hb2 hB1
      cases hx : ([46, 47] : L).isPrefixOf p.data.toList
      rotate_left
      · have P2 := Lib.hid hx
        have hl : 2 ≤ p.size := by have := pre_len hx; rw [size_len] at this; simpa using this
        clear hx
        go_wp2
        go_roundw
        case rel => exact ⟨p.extract 2 p.size, out, k, rfl, by first | omega | (rw [ByteArray.size_extract]; omega), by first | omega | (rw [ByteArray.size_extract]; omega), Lib.hid (by rw [← hrd.out, rdF_go HP.out (rs2 P1.out P2.out)]; try (first | rw [rest_eq] | rfl)), H0, hB2⟩
        case measure => first | (show (1 : Nat) < p.size; omega) | (show (0 : Nat) < p.size; omega) | (simp [strN, ByteArray.size_extract]; omega)
      have P2 := Lib.hid hx
      clear hx
      go_wp2_with (fail)
      refine (begins_any _ _ _ (by omega) (by decide)).mono ?_
      rintro e w3 ⟨rfl, hb3⟩
      have k0 := blk_below H0.out hb3 (Array.getElem?_eq_some_iff.1 H0.out).1
      have hB3 := bt hB2 hb3
      clear H0
      have H0 : Hid (outAt w _ out) := Lib.hid k0
      clear k0 hb3 hB2
      cases hx : ([47, 46, 47] : L).isPrefixOf p.data.toList
      rotate_left
      · have P3 := Lib.hid hx
        have hl : 3 ≤ p.size := by have := pre_len hx; rw [size_len] at this; simpa using this
        clear hx
        go_wp2
        go_roundw
        case rel => exact ⟨p.extract 2 p.size, out, k, rfl, by first | omega | (rw [ByteArray.size_extract]; omega), by first | omega | (rw [ByteArray.size_extract]; omega), Lib.hid (by rw [← hrd.out, rdF_go HP.out (rs3 P1.out P2.out P3.out)]; try (first | rw [rest_eq] | rfl)), H0, hB3⟩
        case measure => first | (show (1 : Nat) < p.size; omega) | (show (0 : Nat) < p.size; omega) | (simp [strN, ByteArray.size_extract]; omega)
      have P3 := Lib.hid hx
      clear hx
      by_cases hx : p.data.toList = [47, 46]
      · have hx2 : p.toList = [47, 46] := by rw [toList_data]; exact hx
        have hx3 : (p.toList == [47, 46]) = true := by rw [beq_iff_eq]; exact hx2
        have hl : p.size = 2 := by rw [← size_len, hx]; rfl
        have hl1 : p.size ≤ 2 := by omega
        have hl2 : 2 ≤ p.size := by omega
        have P4 := Lib.hid hx
        clear hx hl
        go_wp2
        go_roundw
        case rel => exact ⟨⟨#[47]⟩, out, k, rfl, by first | omega | (rw [ByteArray.size_extract]; omega) | (show _ + 1 ≤ _; omega) | (show 1 ≤ _; omega), by first | omega | (rw [ByteArray.size_extract]; omega) | (show _ + 1 ≤ _; omega) | (show 1 ≤ _; omega), Lib.hid (by rw [← hrd.out, rdF_go HP.out (rs4 P4.out)]; try (first | rw [rest_eq] | rfl)), H0, hB3⟩
        case measure => first | (show (1 : Nat) < p.size; omega) | (show (0 : Nat) < p.size; omega) | (simp [strN, ByteArray.size_extract]; omega)
      have hx2P4 : ¬ p.toList = [47, 46] := by rw [toList_data]; exact hx
      have hx3P4 : (p.toList == [47, 46]) = false := by rw [beq_eq_false_iff_ne]; exact hx2P4
      have P4 := Lib.hid hx
      clear hx
      go_wp2_with (fail)
      refine (begins_any _ _ _ (by omega) (by decide)).mono ?_
      rintro e w4 ⟨rfl, hb4⟩
      have k0 := blk_below H0.out hb4 (Array.getElem?_eq_some_iff.1 H0.out).1
      have hB4 := bt hB3 hb4
      clear H0
      have H0 : Hid (outAt w _ out) := Lib.hid k0
      clear k0 hb4 hB3
      cases hx : ([47, 46, 46, 47] : L).isPrefixOf p.data.toList
      rotate_left
      · have P5 := Lib.hid hx
        have hl : 4 ≤ p.size := by have := pre_len hx; rw [size_len] at this; simpa using this
        clear hx
        have c0 : _ = some (Value.string out) := blk_cell H0.out 0
        have f0 := blk_frozen H0.out 0
        go_wp2_with (fail)
        refine (drop_any _ _ _ c0 f0 (by omega)).mono ?_
        rintro e wd ⟨t, rfl, ht, hzt, rfl⟩
        go_wp2
        go_roundw
        case rel => exact ⟨p.extract 3 p.size, t, k, rfl, by first | omega | (rw [ByteArray.size_extract]; omega) | (show _ + 1 ≤ _; omega) | (show 1 ≤ _; omega), by first | omega | (rw [ByteArray.size_extract]; omega) | (show _ + 1 ≤ _; omega) | (show 1 ≤ _; omega), Lib.hid (by rw [← hrd.out, rdF_go HP.out (rs5 P3.out P5.out), ht.out]; try (first | rw [rest_eq] | rfl)), Lib.hid (blk_set H0.out 0 _), hB4.setCell (Nat.le_refl _) _⟩
        case measure => first | (show (1 : Nat) < p.size; omega) | (show (0 : Nat) < p.size; omega) | (simp [strN, ByteArray.size_extract]; omega)
      have P5 := Lib.hid hx
      clear hx
      by_cases hx : p.data.toList = [47, 46, 46]
      · have hx2 : p.toList = [47, 46, 46] := by rw [toList_data]; exact hx
        have hx3 : (p.toList == [47, 46, 46]) = true := by rw [beq_iff_eq]; exact hx2
        have hl : p.size = 3 := by rw [← size_len, hx]; rfl
        have hl1 : p.size ≤ 3 := by omega
        have hl2 : 3 ≤ p.size := by omega
        have P6 := Lib.hid hx
        clear hx hl
        have c0 : _ = some (Value.string out) := blk_cell H0.out 0
        have f0 := blk_frozen H0.out 0
        go_wp2_with (fail)
        refine (drop_any _ _ _ c0 f0 (by omega)).mono ?_
        rintro e wd ⟨t, rfl, ht, hzt, rfl⟩
        go_wp2
        go_roundw
        case rel => exact ⟨⟨#[47]⟩, t, k, rfl, by first | omega | (rw [ByteArray.size_extract]; omega) | (show _ + 1 ≤ _; omega) | (show 1 ≤ _; omega), by first | omega | (rw [ByteArray.size_extract]; omega) | (show _ + 1 ≤ _; omega) | (show 1 ≤ _; omega), Lib.hid (by rw [← hrd.out, rdF_go HP.out (rs6 P6.out), ht.out]; try (first | rw [rest_eq] | rfl)), Lib.hid (blk_set H0.out 0 _), hB4.setCell (Nat.le_refl _) _⟩
        case measure => first | (show (1 : Nat) < p.size; omega) | (show (0 : Nat) < p.size; omega) | (simp [strN, ByteArray.size_extract]; omega)
      have hx2P6 : ¬ p.toList = [47, 46, 46] := by rw [toList_data]; exact hx
      have hx3P6 : (p.toList == [47, 46, 46]) = false := by rw [beq_eq_false_iff_ne]; exact hx2P6
      have P6 := Lib.hid hx
      clear hx
      by_cases hx : p.data.toList = [46]
      · have hx2 : p.toList = [46] := by rw [toList_data]; exact hx
        have hx3 : (p.toList == [46]) = true := by rw [beq_iff_eq]; exact hx2
        have hl : p.size = 1 := by rw [← size_len, hx]; rfl
        have hl1 : p.size ≤ 1 := by omega
        have hl2 : 1 ≤ p.size := by omega
        have P7 := Lib.hid hx
        clear hx hl
        go_wp2
        go_roundw
        case rel => exact ⟨⟨#[]⟩, out, k, rfl, by show _ ≤ _; first | omega | exact Nat.zero_le _ | (show _ + 0 ≤ _; omega), by show _ ≤ _; first | omega | exact Nat.zero_le _ | (show _ + 0 ≤ _; omega), Lib.hid (by rw [← hrd.out, rdF_go HP.out (rs7 (Or.inl P7.out))]; try (first | rw [rest_eq] | rfl)), H0, hB4⟩
        case measure => first | (show (1 : Nat) < p.size; omega) | (show (0 : Nat) < p.size; omega) | (simp [strN, ByteArray.size_extract]; omega)
      have hx2P7 : ¬ p.toList = [46] := by rw [toList_data]; exact hx
      have hx3P7 : (p.toList == [46]) = false := by rw [beq_eq_false_iff_ne]; exact hx2P7
      have P7 := Lib.hid hx
      clear hx
      by_cases hx : p.data.toList = [46, 46]
      · have hx2 : p.toList = [46, 46] := by rw [toList_data]; exact hx
        have hx3 : (p.toList == [46, 46]) = true := by rw [beq_iff_eq]; exact hx2
        have hl : p.size = 2 := by rw [← size_len, hx]; rfl
        have hl1 : p.size ≤ 2 := by omega
        have hl2 : 2 ≤ p.size := by omega
        have P8 := Lib.hid hx
        clear hx hl
        go_wp2
        go_roundw
        case rel => exact ⟨⟨#[]⟩, out, k, rfl, by show _ ≤ _; first | omega | exact Nat.zero_le _ | (show _ + 0 ≤ _; omega), by show _ ≤ _; first | omega | exact Nat.zero_le _ | (show _ + 0 ≤ _; omega), Lib.hid (by rw [← hrd.out, rdF_go HP.out (rs7 (Or.inr P8.out))]; try (first | rw [rest_eq] | rfl)), H0, hB4⟩
        case measure => first | (show (1 : Nat) < p.size; omega) | (show (0 : Nat) < p.size; omega) | (simp [strN, ByteArray.size_extract]; omega)
      have hx2P8 : ¬ p.toList = [46, 46] := by rw [toList_data]; exact hx
      have hx3P8 : (p.toList == [46, 46]) = false := by rw [beq_eq_false_iff_ne]; exact hx2P8
      have P8 := Lib.hid hx
      clear hx
      go_wp2_with (fail)
      have hd1 := rest_eq p 1
      have hz1 : (p.extract 1 p.size).size = p.size - 1 := by rw [ByteArray.size_extract]; omega
      generalize p.extract 1 p.size = q at *
      have HQ := Lib.hid hd1
      have hz2 : q.size ≤ p.size - 1 := by omega
      have hz3 : p.size - 1 ≤ q.size := by omega
      clear hz1 hd1
      refine (index_any _ _ _ (by omega) (by decide)).mono ?_
      rintro e w9 ⟨rfl, hb9⟩
      have hn := idx_le [47] q.data.toList
      rw [size_len] at hn
      generalize hn1 : idx ([47] : L) q.data.toList = n at *
      have HN := Lib.hid hn1
      clear hn1
      have k0 := blk_below H0.out hb9 (Array.getElem?_eq_some_iff.1 H0.out).1
      have hB9 := bt hB4 hb9
      clear H0
      have H0 : Hid (outAt w _ out) := Lib.hid k0
      clear k0 hb9 hB4
      have c0 : w9.cell? ⟨w.heap.size, 0, none⟩ = some (.string out) := blk_cell H0.out 0
      have f0 : w9.frozen? ⟨w.heap.size, 0, none⟩ = false := blk_frozen H0.out 0
      have hzx : (p.extract 0 (1 + n)).size ≤ 1 + n := by rw [ByteArray.size_extract]; omega
      have hw : IntKind.i64.wrap (1 + ↑n) = 1 + ↑n := IntWalk.i64_in _ (by omega)
      go_upto_region 5 with (fail)
      go_region
      go_wp2
      go_roundw
      case rel =>
        have hp8 : (p.data.toList.drop 1) = q.data.toList := HQ.out.symm
        refine ⟨p.extract (1 + n) p.size, out ++ p.extract 0 (1 + n), k, rfl, by rw [ByteArray.size_extract]; omega, by rw [ByteArray.size_append, ByteArray.size_extract, ByteArray.size_extract]; omega, Lib.hid ?_, Lib.hid (blk_set H0.out 0 _), (hB9.setCell (Nat.le_refl _) _).drew⟩
        rw [← hrd.out, rdF_go HP.out (rs8 P1.out P2.out P3.out P4.out P5.out P6.out (fun h => h.elim P7.out P8.out)), hp8, HN.out, rest_eq, app_toL, ext_toList, List.drop_zero]
      case measure => simp [strN, ByteArray.size_extract]; omega
end Go.Proofs.YtfkgkkmcaaefnaaGreatDoor.Wk
