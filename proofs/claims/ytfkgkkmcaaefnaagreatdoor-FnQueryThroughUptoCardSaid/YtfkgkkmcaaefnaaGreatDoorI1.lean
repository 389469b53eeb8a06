/-
  THE WALK of netip's parseIPv4Fields, where the text is an IPv4 address.
-/
import Derived.Test.YtfkgkkmcaaefnaaGreatDoorQ8
import Derived.Test.YtfkgkkmcaaefnaaGreatDoorPt
set_option linter.unusedSimpArgs false
set_option linter.unusedVariables false
namespace Go.Proofs.YtfkgkkmcaaefnaaGreatDoor.Wk
open Go.RowKit Go.Proofs.YtfkgkkmcaaefnaaGreatDoor.Pu

/-- n bytes in a block, free to be written -/
def rowN (w : World) (g n : Nat) : Prop := ∃ l : L, l.length = n ∧ rowB w g l
theorem rowN.cell {w : World} {g n : Nat} (h : rowN w g n) {j : Nat} (hj : j < n) : ∃ c : UInt8, w.cell? ⟨g, j, none⟩ = some (.int .u8 (c.toNat : Int)) := by
  obtain ⟨l, h1, h2⟩ := h
  exact ⟨l[j]'(by omega), h2.cell (List.getElem?_eq_getElem (by omega))⟩
theorem rowN.free {w : World} {g n : Nat} (h : rowN w g n) (j : Nat) : w.frozen? ⟨g, j, none⟩ = false := by
  obtain ⟨l, h1, h2⟩ := h
  exact h2.free j
theorem rowN.set {w : World} {g n : Nat} (h : rowN w g n) {j : Nat} (hj : j < n) (c : UInt8) : rowN (w.setCell ⟨g, j, none⟩ (.int .u8 (c.toNat : Int))) g n := by
  obtain ⟨l, h1, h2⟩ := h
  exact ⟨_, by rw [List.length_set]; exact h1, h2.set (by omega) c⟩
theorem rowN.setN {w : World} {g n : Nat} (h : rowN w g n) {j : Nat} (hj : j < n) (v : Nat) (hv : v ≤ 255) : rowN (w.setCell ⟨g, j, none⟩ (.int .u8 (v : Int))) g n := by
  have := h.set hj (UInt8.ofNat v)
  rw [UInt8.toNat_ofNat', Nat.mod_eq_of_lt (by omega)] at this
  exact this

set_option maxHeartbeats 8000000 in
set_option maxRecDepth 100000 in
theorem v4fields_any (s : ByteArray) (a b g o n cap : Nat) (w : World) (hs : s.size ≤ 9223372036854770000) (hab : a ≤ b) (hb : b ≤ s.size) (ho : o + 4 ≤ n) (hcap : 4 ≤ cap) (hr : rowN w g n) (h4 : v4 (s.extract a b).data.toList = true) :
    Calls Tryz.prog 161 #[.string s, .int .i64 a, .int .i64 b, .slice (some ⟨g, o, none⟩) 4 cap] w fun e w' => e = .returned .nilIface ∧ rowN w' g n ∧ Below g w w' := by
  have hz : (s.extract a b).size = b - a := by rw [ByteArray.size_extract]; omega
  have HB := Lib.hid (Below.refl g w)
  have HR := Lib.hid hr
  have H4 := Lib.hid h4
  clear hr h4
  go_enter Tryz.func161, Tryz.ntmps161
  go_wp2_with (fail)
  generalize s.extract a b = d at *
  have hds : d.size ≤ 9223372036854770000 := by omega
  clear hz hab hb hs
  go_loopw [9, 10, 11, 13] (fun x p y i wr => ∃ (v pos m st : Nat), x = .int .i64 v ∧ p = .int .i64 pos ∧ y = .int .i64 m ∧ i = .int .i64 (st + m : Nat) ∧ st + m ≤ d.size ∧ pos ≤ 3 ∧ v ≤ 255 ∧ m ≤ idx [46] (d.data.toList.drop st) ∧ Hid (v = octVal ((d.data.toList.drop st).take m)) ∧ Hid (v4r (3 - pos + 1) (d.data.toList.drop st) = true) ∧ Hid (rowN wr g n) ∧ Hid (Below g w wr)) (fun _ _ _ i _ => d.size - (intOf i).toNat)
  case atStart => exact ⟨0, 0, 0, 0, rfl, rfl, rfl, rfl, by omega, by omega, by omega, by omega, Lib.hid rfl, Lib.hid (by rw [List.drop_zero]; exact H4.out), HR, HB⟩
  case round =>
    clear HB HR H4
    obtain ⟨v, pos, m, st, rfl, rfl, rfl, rfl, hk, hpos, hv, hm, hoc, hv4, hrow, hB⟩ := hrel
    by_cases hlt : st + m < d.size
    · have hx : (d.data.toList.drop st)[m]? = some d[st + m] := by rw [List.getElem?_drop]; exact get_opt d _ hlt
      have hn : d[st + m].toNat < 256 := d[st + m].toNat_lt
      by_cases h46 : d[st + m].toNat = 46
      · have e46 : d[st + m] = 46 := UInt8.toNat_inj.1 h46
        obtain ⟨h1, h2, h3, h5, h6⟩ := v4_dot hv4.out (by rw [hx, e46]) hm
        rw [List.length_drop, size_len] at h3
        have hp : d[st + m - 1].toNat ≠ 46 := by
          intro e
          apply h6
          rw [List.getElem?_drop, show st + (m - 1) = st + m - 1 by omega, get_opt d _ (by omega)]
          rw [UInt8.toNat_inj.1 (show d[st + m - 1].toNat = (46 : UInt8).toNat from e)]
        have H5 := Lib.hid h5
        have hc : ((d[st + m].toNat : Int) == 46) = true := by rw [beq_iff_eq]; omega
        have hge : ¬ (48 ≤ (d[st + m].toNat : Int)) := by omega
        have hi0 : (((st : Int) + (m : Int)) == 0) = false := by rw [beq_eq_false_iff_ne]; omega
        have hi1 : (((st : Int) + (m : Int)) == (d.size : Int) - 1) = false := by rw [beq_eq_false_iff_ne]; omega
        have hi3 : ((st : Int) + (m : Int) - 1).toNat = st + m - 1 := by omega
        have hi2 : ((d[st + m - 1].toNat : Int) == 46) = false := by rw [beq_eq_false_iff_ne]; omega
        have hp3 : ((pos : Int) == 3) = false := by rw [beq_eq_false_iff_ne]; omega
        have hfr : wr.frozen? ⟨g, o + pos, none⟩ = false := hrow.out.free _
        obtain ⟨c0, hcell⟩ := hrow.out.cell (j := o + pos) (by omega)
        have hlt1 : st + m - 1 < d.size := by omega
        have HP := Lib.hid hp
        clear hx hp h6 h5 h46 e46
        go_wp2
        go_roundw
        case rel =>
          refine ⟨0, pos + 1, 0, st + m + 1, rfl, by go_num, rfl, by go_num, by omega, by omega, by omega, by omega, Lib.hid rfl, Lib.hid ?_, Lib.hid (hrow.out.setN (by omega) v hv), Lib.hid (hB.out.setCell (Nat.le_refl _) _)⟩
          have := H5.out
          rw [List.drop_drop] at this
          rw [show 3 - (pos + 1) + 1 = 3 - pos by omega, show st + m + 1 = st + (m + 1) by omega]
          exact this
        case measure => simp [intOf]; omega
      · have hne : d[st + m] ≠ 46 := fun e => h46 (by rw [e]; rfl)
        obtain ⟨h1, h2, h3, h5⟩ := v4_dig hv4.out hx hne hm
        have hd : 48 ≤ d[st + m].toNat ∧ d[st + m].toNat ≤ 57 := by unfold digC digitN at h1; exact of_decide_eq_true h1
        have htk : octVal ((d.data.toList.drop st).take (m + 1)) = v * 10 + (d[st + m].toNat - 48) := by
          rw [List.take_add_one, hx, Option.toList_some, octVal_snoc, ← hoc.out]
        rw [htk] at h2
        have HTK := Lib.hid htk
        have hw0 : ((m : Int) == 1) = false ∨ ((m : Int) == 1) = true ∧ ((v : Int) == 0) = false := by
          by_cases e : m = 1
          · right
            refine ⟨by rw [e]; rfl, ?_⟩
            rw [beq_eq_false_iff_ne]
            intro e0
            apply h3
            refine ⟨e, ?_⟩
            have := hoc.out
            rw [e] at this
            omega
          · left; rw [beq_eq_false_iff_ne]; omega
        have hd1 : 48 ≤ (d[st + m].toNat : Int) := by omega
        have hd2 : (d[st + m].toNat : Int) ≤ 57 := by omega
        have hle : ¬ (255 < (v : Int) * 10 + (d[st + m].toNat : Int) - 48) := by omega
        have hnn : ((v * 10 + (d[st + m].toNat - 48) : Nat) : Int) = (v : Int) * 10 + (d[st + m].toNat : Int) - 48 := by omega
        have HNN := Lib.hid hnn
        clear hx h1 h3 htk hnn hne h46
        rcases hw0 with hw0 | ⟨hw0, hw1⟩
        all_goals
          go_wp2
          go_roundw
          case rel =>
            refine ⟨v * 10 + (d[st + m].toNat - 48), pos, m + 1, st, ?_, rfl, by go_num, by go_num, by omega, hpos, h2, h5, Lib.hid HTK.out.symm, hv4, hrow, hB⟩
            rw [HNN.out]
          case measure => simp [intOf]; omega
    · have hke : st + m = d.size := by omega
      have hle : idx [46] (d.data.toList.drop st) = (d.data.toList.drop st).length := by
        have := idx_le [46] (d.data.toList.drop st)
        rw [List.length_drop, size_len] at this ⊢
        omega
      have hj := v4_end hv4.out hle
      have hp3 : pos = 3 := by omega
      subst hp3
      have hfr : wr.frozen? ⟨g, o + 3, none⟩ = false := hrow.out.free _
      obtain ⟨c0, hcell⟩ := hrow.out.cell (j := o + 3) (by omega)
      clear hj hle
      go_wp2
      go_ret
      exact ⟨rfl, hrow.out.setN (by omega) v hv, hB.out.setCell (Nat.le_refl _) _⟩
end Go.Proofs.YtfkgkkmcaaefnaaGreatDoor.Wk
