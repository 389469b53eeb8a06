/-
  THE WALKS of the package's small functions: searches, the table, small predicates.
-/
import Derived.Test.YtfkgkkmcaaefnaaGreatDoorS4
import Derived.Test.YtfkgkkmcaaefnaaGreatDoorPw
set_option linter.unusedSimpArgs false
set_option linter.unusedVariables false
namespace Go.Proofs.YtfkgkkmcaaefnaaGreatDoor.Wk
open Go.RowKit Go.Proofs.YtfkgkkmcaaefnaaGreatDoor.Pu

/-- the place of a byte, or -1 -/
def zzi (c : UInt8) (l : L) : Int := if idx [c] l < l.length then (idx [c] l : Int) else -1

set_option maxHeartbeats 1000000 in
set_option maxRecDepth 100000 in
theorem zzIndex_one (s : ByteArray) (c : UInt8) (w : World) (hs : s.size ≤ 9223372036854770000) :
    Calls Tryz.prog 86 #[.string s, .string ⟨#[c]⟩] w fun e w' => e = .returned (.int .i64 (zzi c s.data.toList)) ∧ w = w' := by
  have hle := idx_le [c] s.data.toList
  rw [size_len] at hle
  go_enter Tryz.func86, Tryz.ntmps86
  go_wp2
  go_loop [5] (fun i => ∃ k : Nat, k ≤ s.size ∧ i = .int .i64 k ∧ k ≤ idx [c] s.data.toList) (fun i => s.size - (intOf i).toNat)
  case atStart => exact ⟨0, by omega, rfl, by omega⟩
  case round =>
    obtain ⟨k, hk, rfl, hp⟩ := hrel
    by_cases hlt : k < s.size
    · have Hk := Lib.hid (get_opt s k hlt)
      have hx : (s.extract k (k + 1)).toList = [s[k]] := by
        rw [toList_data, ext_toList, take_snoc s k hlt, List.drop_append_of_le_length (by rw [List.length_take, size_len]; omega), List.drop_of_length_le (by rw [List.length_take]; omega)]; rfl
      have HX := Lib.hid hx
      clear hx
      go_wp2
      · go_ret
        have h1 : ((s.extract k (k + 1)).toList == [c]) = true := ‹_›
        rw [HX.out, beq_iff_eq] at h1
        have h2 : s[k] = c := by simpa using h1
        exact ⟨ret_int (by unfold zzi; rw [idx_stop [c] _ k s[k] hp Hk.out (by rw [inB_one]; simpa using h2), if_pos (by rw [size_len]; omega)]), rfl⟩
      · have h1 : ((s.extract k (k + 1)).toList == [c]) = false := ‹_›
        rw [HX.out, beq_eq_false_iff_ne] at h1
        have h2 : ¬ s[k] = c := fun h => h1 (by rw [h])
        exact ⟨⟨k + 1, by omega, by go_num, idx_step [c] _ k s[k] hp Hk.out (by rw [inB_one]; simpa using h2)⟩, by simp [intOf]; omega⟩
    · go_wp2
      go_ret
      exact ⟨ret_int (by unfold zzi; rw [if_neg (by rw [size_len]; omega)]), rfl⟩

def hasC (c : UInt8) (l : L) : Bool := decide (idx [c] l < l.length)
theorem zzContains_one (s : ByteArray) (c : UInt8) (w : World) (hs : s.size ≤ 9223372036854770000) :
    Calls Tryz.prog 69 #[.string s, .string ⟨#[c]⟩] w fun e w' => e = .returned (.bool (hasC c s.data.toList)) ∧ w = w' := by
  go_enter Tryz.func69, Tryz.ntmps69
  go_wp2_with (go_at_call 86; refine (zzIndex_one _ _ _ hs).mono ?_; rintro e w1 ⟨rfl, rfl⟩)
  go_ret
  refine ⟨ret_bool ?_, rfl⟩
  rw [Bool.eq_iff_iff]; unfold hasC zzi
  simp only [decide_eq_true_eq]
  split <;> omega

def cutF (c : UInt8) (l : L) : L × L × Bool := if idx [c] l < l.length then (l.take (idx [c] l), l.drop (idx [c] l + 1), true) else (l, [], false)
set_option maxHeartbeats 1000000 in
set_option maxRecDepth 100000 in
theorem zzCut_one (s : ByteArray) (c : UInt8) (w : World) (hs : s.size ≤ 9223372036854770000) :
    Calls Tryz.prog 56 #[.string s, .string ⟨#[c]⟩] w fun e w' => ∃ (a b : ByteArray) (f : Bool), e = .returned (.tuple #[.string a, .string b, .bool f]) ∧ Hid (cutF c s.data.toList = (a.data.toList, b.data.toList, f)) ∧ a.size ≤ s.size ∧ b.size ≤ s.size ∧ Below w.heap.size w w' := by
  have hb0 := Below.refl w.heap.size w
  have hle := idx_le [c] s.data.toList
  rw [size_len] at hle
  by_cases h : idx [c] s.data.toList < s.size
  · have hz : zzi c s.data.toList = (idx [c] s.data.toList : Int) := by unfold zzi; rw [if_pos (by rw [size_len]; exact h)]
    have hcut : cutF c s.data.toList = (s.data.toList.take (idx [c] s.data.toList), s.data.toList.drop (idx [c] s.data.toList + 1), true) := by unfold cutF; rw [if_pos (by rw [size_len]; exact h)]
    generalize idx [c] s.data.toList = n at *
    have HZ := Lib.hid hz
    have HC := Lib.hid hcut
    clear hz hcut
    go_enter Tryz.func56, Tryz.ntmps56
    go_wp2_with (fail)
    refine (zzIndex_one _ _ _ hs).mono ?_
    rintro e w1 ⟨rfl, rfl⟩
    rw [HZ.out]
    have hw : IntKind.i64.wrap (↑n + 1) = ↑n + 1 := IntWalk.i64_in _ (by omega)
    have hn1 : 0 ≤ (n : Int) + 1 := by omega
    have hn2 : ((n : Int) + 1).toNat = n + 1 := by omega
    go_wp2
    go_quiet (fail)
    go_wp2
    go_ret3
    exact ⟨s.extract 0 n, s.extract (n + 1) s.size, true, rfl, Lib.hid (by rw [HC.out, ext_toList, List.drop_zero, rest_eq]), ext_size _ _ _, ext_size _ _ _, bdN hb0 _⟩
  · have hz : zzi c s.data.toList = -1 := by unfold zzi; rw [if_neg (by rw [size_len]; exact h)]
    have hcut : cutF c s.data.toList = (s.data.toList, [], false) := by unfold cutF; rw [if_neg (by rw [size_len]; exact h)]
    have HZ := Lib.hid hz
    have HC := Lib.hid hcut
    clear hz hcut h hle
    go_enter Tryz.func56, Tryz.ntmps56
    go_wp2_with (fail)
    refine (zzIndex_one _ _ _ hs).mono ?_
    rintro e w1 ⟨rfl, rfl⟩
    rw [HZ.out]
    go_wp2
    go_ret3
    exact ⟨s, ⟨#[]⟩, false, rfl, Lib.hid (by rw [HC.out]), by omega, Nat.zero_le _, hb0⟩
end Go.Proofs.YtfkgkkmcaaefnaaGreatDoor.Wk
