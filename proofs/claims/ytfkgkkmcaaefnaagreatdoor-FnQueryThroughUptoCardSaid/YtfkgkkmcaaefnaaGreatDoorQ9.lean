/-
  THE WALKS of validOptionalPort at a port, zzIndex where the first byte is missing, validUserinfo, zzCount of one byte.
-/
import Derived.Test.YtfkgkkmcaaefnaaGreatDoorQ2
import Derived.Test.YtfkgkkmcaaefnaaGreatDoorPw
import Derived.Laws.RangeString
set_option linter.unusedSimpArgs false
set_option linter.unusedVariables false
namespace Go.Proofs.YtfkgkkmcaaefnaaGreatDoor.Wk
open Go.RowKit Go.Proofs.YtfkgkkmcaaefnaaGreatDoor.Pu

set_option maxHeartbeats 1000000 in
set_option maxRecDepth 100000 in
theorem port_any (s : ByteArray) (w : World) (hs : s.size ≤ 9223372036854770000) (h : portOk s.data.toList = true) :
    Calls Tryz.prog 139 #[.string s] w fun e w' => e = .returned (.bool true) ∧ Below w.heap.size w w' := by
  have hb0 := Lib.hid (Below.refl w.heap.size w)
  cases hE : s.data.toList with
  | nil =>
    have hs0 : s = ⟨#[]⟩ := by cases s; congr; exact Array.toList_inj.1 hE
    subst hs0
    go_enter Tryz.func139, Tryz.ntmps139
    go_wp2
    go_ret
    exact ⟨rfl, hb0.out⟩
  | cons c r =>
    rw [hE, portOk, Bool.and_eq_true, decide_eq_true_iff] at h
    have hpos : 0 < s.size := by rw [← size_len, hE]; simp
    have hx := get_opt s 0 hpos
    rw [hE] at hx
    have h0 : s[0] = c := (Option.some.inj hx).symm
    have hb : ((s[0].toNat : Int) == 58) = true := by rw [h0, beq_iff_eq]; omega
    have hb2 : ((s[0].toNat : Int) != 58) = false := by rw [bne, hb]; rfl
    have hemp : s.toList.isEmpty = false := by rw [toList_data, hE]; rfl
    have hd : (s.extract 1 s.size).data.toList = r := by rw [ext_toList, ← size_len, List.take_length, hE]; rfl
    have hall : ∀ k (hk : k < (s.extract 1 s.size).size), 48 ≤ (s.extract 1 s.size)[k].toNat ∧ (s.extract 1 s.size)[k].toNat ≤ 57 := by
      intro k hk
      have := List.all_eq_true.1 h.1 (s.extract 1 s.size)[k] (by rw [← hd]; exact List.mem_of_getElem? (get_opt _ k hk))
      unfold digC digitN at this
      exact of_decide_eq_true this
    have hz : (s.extract 1 s.size).size ≤ 9223372036854770000 := by rw [ByteArray.size_extract]; omega
    have HA := Lib.hid hall
    clear hall h hx h0 hd hE
    go_enter Tryz.func139, Tryz.ntmps139
    go_upto_region 6 with (fail)
    generalize s.extract 1 s.size = d at *
    go_loopg [4] d.size (fun g x4 wr => ∃ k : Nat, k ≤ d.size ∧ g = d.size - k ∧ w.iter d k = wr)
    case atStart => exact ⟨0, by omega, by omega, rfl⟩
    case round =>
      obtain ⟨k, hk, rfl, rfl⟩ := hrel
      by_cases hlt : k < d.size
      · have hr := HA.out k hlt
        have hnx := fun ty => run_next_ascii (P := Tryz.prog) w d k ty hlt (by omega)
        have h1 : ¬ ((d[k].toNat : Int) < 48) := by omega
        have h2 : ¬ (57 < (d[k].toNat : Int)) := by omega
        clear hr
        go_wp2
        go_roundg (d.size - (k + 1))
        case measure => omega
        case rel => exact ⟨k + 1, by omega, rfl, rfl⟩
      · have hnx := fun ty => run_next_end (P := Tryz.prog) w d k ty hlt
        go_wp2
        go_ret
        exact ⟨rfl, hb0.out.alloc (Nat.le_refl _) _⟩

set_option maxHeartbeats 1000000 in
set_option maxRecDepth 100000 in
/-- "%25" stands nowhere, for no percent sign does -/
theorem zone_none (s : ByteArray) (w : World) (hs : s.size ≤ 9223372036854770000) (h : ∀ c ∈ s.data.toList, c.toNat ≠ 37) :
    Calls Tryz.prog 86 #[.string s, .string ⟨#[37, 50, 53]⟩] w fun e w' => e = .returned (.int .i64 (-1)) ∧ w = w' := by
  have hne : ∀ k, k + 3 ≤ s.size → ((s.extract k (k + 3)).toList == [37, 50, 53]) = false := by
    intro k hk
    rw [toList_data, ext_toList, Bool.eq_false_iff]
    intro h2
    have h3 := eq_of_beq h2
    have hx := get_opt s k (by omega)
    have : ((s.data.toList.take (k + 3)).drop k)[0]? = some 37 := by rw [h3]; rfl
    rw [List.getElem?_drop, List.getElem?_take, if_pos (by omega), Nat.add_zero, hx] at this
    exact h s[k] (List.mem_of_getElem? hx) (by rw [Option.some.inj this]; rfl)
  have HNE := Lib.hid hne
  clear hne h
  go_enter Tryz.func86, Tryz.ntmps86
  go_wp2
  go_loop [5] (fun i => ∃ k : Nat, k ≤ s.size ∧ i = .int .i64 k) (fun i => s.size - (intOf i).toNat)
  case atStart => exact ⟨0, by omega, rfl⟩
  case round =>
    obtain ⟨k, hk, rfl⟩ := hrel
    by_cases hlt : k + 3 ≤ s.size
    · have h1 := HNE.out k hlt
      have hw1 : ((k : Int) + 3).toNat = k + 3 := by omega
      go_wp2
      all_goals exact ⟨⟨k + 1, by omega, by go_num⟩, by simp [intOf]; omega⟩
    · go_wp2
      all_goals
        go_ret
        exact ⟨rfl, rfl⟩
end Go.Proofs.YtfkgkkmcaaefnaaGreatDoor.Wk
