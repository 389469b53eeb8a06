/-
  THE WALK of unescape in a host where nothing is escaped.
-/
import Derived.Test.YtfkgkkmcaaefnaaGreatDoorQ2
import Derived.Test.YtfkgkkmcaaefnaaGreatDoorPy
set_option linter.unusedSimpArgs false
set_option linter.unusedVariables false
namespace Go.Proofs.YtfkgkkmcaaefnaaGreatDoor.Wk
open Go.RowKit Go.Proofs.YtfkgkkmcaaefnaaGreatDoor.Pu

/-- bytes that a host may hold as they stand -/
def hostN (n : Nat) : Bool := decide (n ≠ 37) && !escN 4 n
set_option maxHeartbeats 4000000 in
set_option maxRecDepth 100000 in
theorem unescape_host (s : ByteArray) (w : World) (hT : Tab w) (hs : s.size ≤ 140737488355328) (hok : s.data.toList.all (fun c => hostN c.toNat) = true) :
    Calls Tryz.prog 94 #[.string s, .int .u8 4] w fun e w' => e = .returned (.tuple #[.string s, .nilIface]) ∧ w = w' := by
  have hall : ∀ k (hk : k < s.size), s[k].toNat ≠ 37 ∧ escN 4 s[k].toNat = false := by
    intro k hk
    have := List.all_eq_true.1 hok s[k] (List.mem_of_getElem? (get_opt s k hk))
    unfold hostN at this
    simp only [Bool.and_eq_true, Bool.not_eq_true', decide_eq_true_iff] at this
    exact this
  have HA := Lib.hid hall
  have HT := Lib.hid hT
  clear hT hok hall
  go_enter Tryz.func94, Tryz.ntmps94
  go_wp2
  go_loop [0, 6, 7, 8] (fun z n h i => ∃ (k : Nat), z = .string s ∧ n = .int .i64 0 ∧ h = .bool false ∧ i = .int .i64 k ∧ k ≤ s.size) (fun _ _ _ i => s.size - (intOf i).toNat)
  case atStart => exact ⟨0, rfl, rfl, rfl, rfl, by omega⟩
  case round =>
    obtain ⟨k, rfl, rfl, rfl, rfl, hk⟩ := hrel
    by_cases hlt : k < s.size
    · have hn : s[k].toNat < 256 := s[k].toNat_lt
      obtain ⟨h37, he⟩ := HA.out k hlt
      have hb37 : ((s[k].toNat : Int) == 37) = false := by rw [beq_eq_false_iff_ne]; omega
      clear h37
      by_cases h43 : s[k].toNat = 43
      · have hb43 : ((s[k].toNat : Int) == 43) = true := by rw [beq_iff_eq]; omega
        clear h43
        go_wp2
        exact ⟨⟨k + 1, rfl, rfl, rfl, by go_num, by omega⟩, by simp [intOf]; omega⟩
      · have hb43 : ((s[k].toNat : Int) == 43) = false := by rw [beq_eq_false_iff_ne]; omega
        clear h43
        by_cases h128 : (s[k].toNat : Int) < 128
        · go_wp2_with (go_at_call 97; refine (shouldEscape_any _ _ _ HT.out hn (by decide)).mono ?_; rintro e w1 ⟨rfl, rfl⟩)
          all_goals first
            | exact ⟨⟨k + 1, rfl, rfl, rfl, by go_num, by omega⟩, by simp [intOf]; omega⟩
            | (exfalso; simp_all)
        · go_wp2_with (fail)
          all_goals exact ⟨⟨k + 1, rfl, rfl, rfl, by go_num, by omega⟩, by simp [intOf]; omega⟩
    · have hks : k = s.size := by omega
      subst hks
      go_wp2
      go_ret2
      exact ⟨rfl, rfl⟩
end Go.Proofs.YtfkgkkmcaaefnaaGreatDoor.Wk
