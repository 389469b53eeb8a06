/-
  THE WALKS of the reference's small functions (index, begins, bytes, chars, schemes): each contract says what comes back, and that no memory that was there has turned.
-/
import Derived.Test.YtfkgkkmcaaefnaaGreatDoorProg
import Derived.Test.YtfkgkkmcaaefnaaGreatDoorPu
import Derived.WalkKit
import Derived.WalkSpells
import Derived.WalkLawsBesides
import Derived.Deep.LoopGhost
import Derived.Deep.QuietTactic
import Derived.BigQuiet
import Derived.Handy
set_option linter.unusedSimpArgs false
set_option linter.unusedVariables false
namespace Go.Proofs.YtfkgkkmcaaefnaaGreatDoor.Wk
open Go.RowKit Go.Proofs.YtfkgkkmcaaefnaaGreatDoor.Pu

theorem ret_int {k : IntKind} {a b : Int} (h : a = b) : Ending.returned (.int k a) = .returned (.int k b) := by rw [h]
theorem ret_bool {a b : Bool} (h : a = b) : Ending.returned (.bool a) = .returned (.bool b) := by rw [h]
theorem bt {w W w1 : World} (h : Below w.heap.size w W) (h1 : Below W.heap.size W w1) : Below w.heap.size w w1 := h.trans (h1.mono h.size)
theorem bdN {w W : World} (h : Below w.heap.size w W) (n : Nat) : Below w.heap.size w (W.drewN n) := below_drewN h n

set_option maxHeartbeats 400000 in
set_option maxRecDepth 100000 in
theorem index_any (s set : ByteArray) (w : World) (hs : s.size ≤ 9223372036854775807) (ht : set.size ≤ 9223372036854775807) :
    Calls Tryz.prog 38 #[.string s, .string set] w fun e w' => e = .returned (.int .i64 (idx set.data.toList s.data.toList)) ∧ Below w.heap.size w w' := by
  have hb0 := Below.refl w.heap.size w
  have hle := idx_le set.data.toList s.data.toList
  rw [size_len] at hle
  go_enter Tryz.func38, Tryz.ntmps38
  go_wp2
  go_loopw [9] (fun i wr => ∃ k : Nat, k ≤ s.size ∧ i = .int .i64 k ∧ k ≤ idx set.data.toList s.data.toList ∧ Below w.heap.size w wr) (fun i _ => s.size - (intOf i).toNat)
  case atStart => exact ⟨0, by omega, rfl, by omega, hb0⟩
  case round =>
    obtain ⟨k, hk, rfl, hp, hb⟩ := hrel
    by_cases hlt : k < s.size
    · have Hk := Lib.hid (get_opt s k hlt)
      obtain ⟨wo, rfl⟩ : ∃ wo : World, wo = wr := ⟨_, rfl⟩
      go_wp2
      go_loopw [14] (fun j wr => ∃ m : Nat, m ≤ set.size ∧ j = .int .i64 m ∧ Hid (∀ i, i < m → set.data.toList[i]? ≠ some s[k]) ∧ Below w.heap.size w wr) (fun j _ => set.size - (intOf j).toNat)
      case atStart => exact ⟨0, by omega, rfl, fun i hi => absurd hi (by omega), hb⟩
      case round =>
        obtain ⟨m, hm, rfl, hall, hb2⟩ := hrel
        by_cases hmt : m < set.size
        · have Hm := Lib.hid (get_opt set m hmt)
          by_cases heq : s[k] = set[m]
          · have h1 : ((s[k].toNat : Int) == set[m].toNat) = true := by rw [heq]; simp
            have H2 := Lib.hid heq
            clear heq
            go_wp2
            go_quiet (fail)
            go_wp2
            go_ret
            have hin : inB set.data.toList s[k] = true := by
              unfold inB
              rw [List.any_eq_true]
              exact ⟨s[k], by rw [H2.out]; exact List.mem_of_getElem? Hm.out, by simp⟩
            exact ⟨ret_int (by rw [idx_stop _ _ k s[k] hp Hk.out hin]), bdN hb2 _⟩
          · have h1 : ((s[k].toNat : Int) == set[m].toNat) = false := by
              rw [beq_eq_false_iff_ne]; intro h; exact heq (UInt8.toNat_inj.1 (by omega))
            have H2 := Lib.hid heq
            clear heq
            go_wp2
            go_quiet (fail)
            go_wp2
            go_roundw
            case rel =>
              refine ⟨m + 1, by omega, by go_num, ?_, bdN hb2 _⟩
              intro i hi
              by_cases e : i = m
              · subst e; rw [Hm.out]; intro h; exact H2.out (Option.some.inj h).symm
              · exact hall.out i (by omega)
            case measure => simp [intOf]; omega
        · go_wp2
          go_roundw
          case rel =>
            refine ⟨k + 1, by omega, by go_num, ?_, hb2⟩
            refine idx_step _ _ k s[k] hp Hk.out ?_
            unfold inB
            rw [List.any_eq_false]
            intro x hx
            obtain ⟨i, hi⟩ := List.getElem?_of_mem hx
            intro h
            have : x = s[k] := by simpa using h
            subst this
            exact hall.out i (by have := (List.getElem?_eq_some_iff.1 hi).1; rw [size_len] at this; omega) hi
          case measure => simp [intOf]; omega
    · go_wp2
      go_ret
      exact ⟨ret_int (by omega), hb⟩

theorem alpha_any (n : Nat) (w : World) (h : n < 256) : Calls Tryz.prog 74 #[.int .u8 n] w fun e w' => e = .returned (.bool (alphaN n)) ∧ Below w.heap.size w w' := by
  have hb0 := Below.refl w.heap.size w
  go_enter Tryz.func74, Tryz.ntmps74
  go_wp2
  all_goals go_ret
  all_goals exact ⟨ret_bool (by unfold alphaN; rw [Bool.eq_iff_iff]; (try simp only [Bool.or_eq_true, Bool.and_eq_true, decide_eq_true_eq, true_iff, Bool.false_eq_true, false_iff]); omega), hb0⟩
theorem digit_any (n : Nat) (w : World) (h : n < 256) : Calls Tryz.prog 73 #[.int .u8 n] w fun e w' => e = .returned (.bool (digitN n)) ∧ Below w.heap.size w w' := by
  have hb0 := Below.refl w.heap.size w
  go_enter Tryz.func73, Tryz.ntmps73
  go_wp2
  all_goals go_ret
  all_goals exact ⟨ret_bool (by unfold digitN; rw [Bool.eq_iff_iff]; (try simp only [Bool.or_eq_true, Bool.and_eq_true, decide_eq_true_eq, true_iff, Bool.false_eq_true, false_iff]); omega), hb0⟩
theorem digitN_t {n : Nat} (h : digitN n = true) : 48 ≤ n ∧ n ≤ 57 := of_decide_eq_true h
theorem digitN_f {n : Nat} (h : digitN n = false) : ¬ (48 ≤ n ∧ n ≤ 57) := of_decide_eq_false h
theorem hex_any (n : Nat) (w : World) (h : n < 256) : Calls Tryz.prog 76 #[.int .u8 n] w fun e w' => e = .returned (.int .i64 (hexN n)) ∧ Below w.heap.size w w' := by
  have hb0 := Below.refl w.heap.size w
  go_enter Tryz.func76, Tryz.ntmps76
  go_wp2_with (go_at_call 73; refine (digit_any _ _ (by omega)).mono ?_; rintro e w1 ⟨rfl, hb1⟩)
  all_goals go_ret
  all_goals refine ⟨ret_int ?_, ‹Below w.heap.size w _›⟩
  all_goals
    first
    | (have hd := digitN_t ‹_›; unfold hexN; rw [if_pos hd]; omega)
    | (have hd := digitN_f ‹_›; unfold hexN; rw [if_neg hd]; first | (rw [if_pos (by omega)]; omega) | (rw [if_neg (by omega)]; first | (rw [if_pos (by omega)]; omega) | (rw [if_neg (by omega)])))

theorem one_str (n : Int) : strOfNums [n] = B [UInt8.ofNat n.toNat] := rfl
set_option maxRecDepth 100000 in
theorem has_any (set : ByteArray) (n : Nat) (w : World) (h : n < 256) (hs : set.size ≤ 9223372036854775807) :
    Calls Tryz.prog 75 #[.string set, .int .u8 n] w fun e w' => e = .returned (.bool (hasN set.data.toList n)) ∧ Below w.heap.size w w' := by
  have hb0 := (Below.refl w.heap.size w).alloc (Nat.le_refl _) (Obj.cells #[Value.int IntKind.u8 ↑n] 5)
  have hc := run_convert_bytes_arg (P := Tryz.prog) (w.alloc (Obj.cells #[Value.int IntKind.u8 ↑n] 5)) 89 5 Tryz.underlying89 Tryz.underlying5 w.heap.size 0 1 1 [(n : Int)] rfl
    (fun i hi => by obtain rfl : i = 0 := by omega
                    simp) 9 Tryz.underlying9
  rw [one_str] at hc
  have hx := has_idx set.data.toList n h
  rw [show UInt8.ofNat ((n : Int)).toNat = UInt8.ofNat n from rfl] at hc
  obtain ⟨b1, hb1⟩ : ∃ b : ByteArray, b = B [UInt8.ofNat n] := ⟨_, rfl⟩
  rw [← hb1] at hc
  have hz : b1.size ≤ 9223372036854775807 := by rw [hb1, B_size]; simp
  have H1 := Lib.hid hb1
  have Hx := Lib.hid hx
  clear hb1 hx
  go_enter Tryz.func75, Tryz.ntmps75
  go_wp2_with (go_at_call 38; refine (index_any _ _ _ hs hz).mono ?_; rintro e w1 ⟨rfl, hb1⟩)
  go_ret
  refine ⟨ret_bool ?_, bt hb0 hb1⟩
  rw [Hx.out, H1.out, B_toList, size_len]

theorem unres_any (n : Nat) (w : World) (h : n < 256) : Calls Tryz.prog 48 #[.int .u8 n] w fun e w' => e = .returned (.bool (unresN n)) ∧ Below w.heap.size w w' := by
  have hb0 := Below.refl w.heap.size w
  go_enter Tryz.func48, Tryz.ntmps48
  go_wp2_with (first
    | (go_at_call 74; refine (alpha_any _ _ h).mono ?_; rintro e w1 ⟨rfl, hb1⟩)
    | (go_at_call 73; refine (digit_any _ _ h).mono ?_; rintro e w1 ⟨rfl, hb1⟩)
    | (go_at_call 75; refine (has_any _ _ _ h (by decide)).mono ?_; rintro e w1 ⟨rfl, hb1⟩))
  all_goals go_ret
  · exact ⟨ret_bool (by simp [unresN, *]), hb1⟩
  · exact ⟨ret_bool (by simp [unresN, *]), bt ‹Below w.heap.size w _› hb1⟩
  · exact ⟨ret_bool (by simp [unresN, *]), bt (bt ‹Below w.heap.size w _› ‹_›) hb1⟩

theorem toList_data (s : ByteArray) : s.toList = s.data.toList := ByteArray.toList_eq s
theorem beq_take (s p : ByteArray) : ((s.extract 0 p.size).toList == p.toList) = p.data.toList.isPrefixOf s.data.toList := by
  rw [toList_data, toList_data, ext_toList, Bool.eq_iff_iff, beq_iff_eq, List.isPrefixOf_iff_prefix, List.drop_zero, ← size_len, List.prefix_iff_eq_take]
  exact eq_comm
theorem no_prefix (s p : ByteArray) (h : ¬ p.size ≤ s.size) : p.data.toList.isPrefixOf s.data.toList = false := by
  rw [Bool.eq_false_iff, ne_eq, List.isPrefixOf_iff_prefix]
  intro hp
  exact h hp.length_le
set_option maxRecDepth 100000 in
theorem begins_any (s p : ByteArray) (w : World) (hs : s.size ≤ 9223372036854775807) (hp : p.size ≤ 9223372036854775807) :
    Calls Tryz.prog 39 #[.string s, .string p] w fun e w' => e = .returned (.bool (p.data.toList.isPrefixOf s.data.toList)) ∧ Below w.heap.size w w' := by
  have hb0 := Below.refl w.heap.size w
  go_enter Tryz.func39, Tryz.ntmps39
  go_wp2
  all_goals go_ret
  · exact ⟨ret_bool (beq_take s p), hb0⟩
  · exact ⟨ret_bool (no_prefix s p ‹_›).symm, hb0⟩

set_option maxHeartbeats 400000 in
set_option maxRecDepth 100000 in
theorem chars_any (s more : ByteArray) (pc : Bool) (w : World) (hs : s.size ≤ 9223372036854775000) (hm : more.size ≤ 9223372036854775807) :
    Calls Tryz.prog 43 #[.string s, .string more, .bool pc] w fun e w' => e = .returned (.bool (charsB more.data.toList pc s.data.toList)) ∧ Below w.heap.size w w' := by
  have hb0 := Below.refl w.heap.size w
  cases pc
  all_goals
    go_enter Tryz.func43, Tryz.ntmps43
    go_wp2
  · go_loopw [7] (fun i wr => ∃ k : Nat, k ≤ s.size ∧ i = .int .i64 k ∧ Hid (charsB more.data.toList false (s.data.toList.drop k) = charsB more.data.toList false s.data.toList) ∧ Below w.heap.size w wr) (fun i _ => s.size - (intOf i).toNat)
    case atStart => exact ⟨0, by omega, rfl, rfl, hb0⟩
    case round =>
      obtain ⟨k, hk, rfl, hp, hb⟩ := hrel
      by_cases hlt : k < s.size
      · obtain ⟨wo, rfl⟩ : ∃ wo : World, wo = wr := ⟨_, rfl⟩
        have hd := Lib.hid (drop_cons s k hlt)
        have hn : s[k].toNat < 256 := s[k].toNat_lt
        go_wp2_with (first
          | (go_at_call 48; refine (unres_any _ _ hn).mono ?_; rintro e w1 ⟨rfl, hb1⟩)
          | (go_at_call 75; refine (has_any _ _ _ hn (by first | assumption | decide)).mono ?_; rintro e w1 ⟨rfl, hb1⟩))
        · have h37 : s[k].toNat = 37 := toNat_of_beq (n := 37) ‹_›
          go_ret
          exact ⟨ret_bool (by rw [← hp.out, hd.out, ch_off _ _ _ h37]), hb⟩
        all_goals have h37 : s[k].toNat ≠ 37 := toNat_of_bne (n := 37) ‹_›
        · go_roundw
          case rel => exact ⟨k + 1, by omega, by go_num, Lib.hid (ch_yes hd.out h37 (ok1 ‹_›) hp.out), bt hb ‹_›⟩
          case measure => simp [intOf]; omega
        · go_roundw
          case rel => exact ⟨k + 1, by omega, by go_num, Lib.hid (ch_yes hd.out h37 (ok2 ‹_›) hp.out), bt (bt hb ‹_›) ‹_›⟩
          case measure => simp [intOf]; omega
        · go_ret
          exact ⟨ret_bool (ch_no hd.out h37 (ok0 ‹_› ‹_› ‹_›) hp.out), bt (bt (bt hb ‹_›) ‹_›) ‹_›⟩
        · go_roundw
          case rel => exact ⟨k + 1, by omega, by go_num, Lib.hid (ch_yes hd.out h37 (ok3 ‹_›) hp.out), bt (bt (bt hb ‹_›) ‹_›) ‹_›⟩
          case measure => simp [intOf]; omega
      · go_wp2
        go_ret
        exact ⟨ret_bool (by rw [← hp.out, List.drop_of_length_le (by rw [size_len]; omega)]; rfl), hb⟩
  · go_loopw [7] (fun i wr => ∃ k : Nat, k ≤ s.size ∧ i = .int .i64 k ∧ Hid (charsB more.data.toList true (s.data.toList.drop k) = charsB more.data.toList true s.data.toList) ∧ Below w.heap.size w wr) (fun i _ => s.size - (intOf i).toNat)
    case atStart => exact ⟨0, by omega, rfl, rfl, hb0⟩
    case round =>
      obtain ⟨k, hk, rfl, hp, hb⟩ := hrel
      by_cases hlt : k < s.size
      · obtain ⟨wo, rfl⟩ : ∃ wo : World, wo = wr := ⟨_, rfl⟩
        have hd := Lib.hid (drop_cons s k hlt)
        have hn : s[k].toNat < 256 := s[k].toNat_lt
        go_wp2_with (first
          | (go_at_call 76; refine (hex_any _ _ (UInt8.toNat_lt _)).mono ?_; rintro e w1 ⟨rfl, hb1⟩)
          | (go_at_call 48; refine (unres_any _ _ hn).mono ?_; rintro e w1 ⟨rfl, hb1⟩)
          | (go_at_call 75; refine (has_any _ _ _ hn (by first | assumption | decide)).mono ?_; rintro e w1 ⟨rfl, hb1⟩))
        all_goals (try have h37 : s[k].toNat = 37 := toNat_of_beq (n := 37) ‹_›)
        all_goals (try have h37 : s[k].toNat ≠ 37 := toNat_of_bne (n := 37) ‹_›)
        all_goals (try have hl1 : k + 2 < s.size := by omega)
        all_goals (try have hd1 : s.data.toList.drop (k + 1) = s[k + 1] :: s.data.toList.drop (k + 2) := drop_cons s (k + 1) (by omega))
        all_goals (try have hd2 : s.data.toList.drop (k + 2) = s[k + 2] :: s.data.toList.drop (k + 3) := drop_cons s (k + 2) (by omega))
        · go_ret
          refine ⟨ret_bool ?_, bt (bt hb ‹_›) ‹_›⟩
          rw [← hp.out, hd.out, hd1, hd2, ch_pct _ _ _ _ _ _ h37, isHex_f (c := s[k + 2]) (by omega)]; simp
        · go_roundw
          case rel =>
            refine ⟨k + 3, by omega, by go_num, Lib.hid ?_, bt (bt hb ‹_›) ‹_›⟩
            rw [← hp.out, hd.out, hd1, hd2, ch_pct _ _ _ _ _ _ h37, isHex_t (c := s[k + 1]) (by omega), isHex_t (c := s[k + 2]) (by omega)]; simp
          case measure => simp [intOf]; omega
        · go_ret
          refine ⟨ret_bool ?_, bt hb ‹_›⟩
          rw [← hp.out, hd.out, hd1, hd2, ch_pct _ _ _ _ _ _ h37, isHex_f (c := s[k + 1]) (by omega)]; simp
        · go_ret
          refine ⟨ret_bool ?_, hb⟩
          rw [← hp.out, hd.out, ch_short _ _ _ _ h37 (by rw [List.length_drop, size_len]; omega)]
        · go_roundw
          case rel => exact ⟨k + 1, by omega, by go_num, Lib.hid (ch_yes hd.out h37 (ok1 ‹_›) hp.out), bt hb ‹_›⟩
          case measure => simp [intOf]; omega
        · go_roundw
          case rel => exact ⟨k + 1, by omega, by go_num, Lib.hid (ch_yes hd.out h37 (ok2 ‹_›) hp.out), bt (bt hb ‹_›) ‹_›⟩
          case measure => simp [intOf]; omega
        · go_ret
          exact ⟨ret_bool (ch_no hd.out h37 (ok0 ‹_› ‹_› ‹_›) hp.out), bt (bt (bt hb ‹_›) ‹_›) ‹_›⟩
        · go_roundw
          case rel => exact ⟨k + 1, by omega, by go_num, Lib.hid (ch_yes hd.out h37 (ok3 ‹_›) hp.out), bt (bt (bt hb ‹_›) ‹_›) ‹_›⟩
          case measure => simp [intOf]; omega
      · go_wp2
        go_ret
        exact ⟨ret_bool (by rw [← hp.out, List.drop_of_length_le (by rw [size_len]; omega)]; rfl), hb⟩
end Go.Proofs.YtfkgkkmcaaefnaaGreatDoor.Wk
