/-
  THE WALKS of getScheme where there is none.
-/
import Derived.Test.YtfkgkkmcaaefnaaGreatDoorQ3
set_option linter.unusedSimpArgs false
set_option linter.unusedVariables false
namespace Go.Proofs.YtfkgkkmcaaefnaaGreatDoor.Wk
open Go.RowKit Go.Proofs.YtfkgkkmcaaefnaaGreatDoor.Pu

theorem tw_lt (p : UInt8 → Bool) : ∀ (l : L) (k : Nat) (c : UInt8), l[k]? = some c → k < (l.takeWhile p).length → p c = true
  | [], k, c, h, _ => by simp at h
  | a :: l, k, c, h, hk => by
    rw [List.takeWhile_cons] at hk
    split at hk
    · rename_i ha
      cases k with
      | zero => have : a = c := by simpa using h
                rw [← this]; exact ha
      | succ k => exact tw_lt p l k c (by simpa using h) (by simpa using hk)
    · simp at hk
theorem tw_eq (p : UInt8 → Bool) : ∀ (l : L) (c : UInt8), l[(l.takeWhile p).length]? = some c → p c = false
  | [], c, h => by simp at h
  | a :: l, c, h => by
    rw [List.takeWhile_cons] at h
    split at h
    · exact tw_eq p l c (by simpa using h)
    · rename_i ha
      have : a = c := by simpa using h
      rw [← this]; simpa using ha

set_option maxHeartbeats 2000000 in
set_option maxRecDepth 100000 in
theorem getScheme_no (s : ByteArray) (w : World) (hs : s.size ≤ 9223372036854770000) (h58 : s.data.toList[(s.data.toList.takeWhile schemeTail).length]? ≠ some 58) :
    Calls Tryz.prog 89 #[.string s] w fun e w' => e = .returned (.tuple #[.string ⟨#[]⟩, .string s, .nilIface]) ∧ Below w.heap.size w w' := by
  have hb0 := Below.refl w.heap.size w
  have hle : (s.data.toList.takeWhile schemeTail).length ≤ s.size := (List.takeWhile_sublist _).length_le
  have hall1 : ∀ k (hk : k < s.size), k < (s.data.toList.takeWhile schemeTail).length → schemeTail s[k] = true := fun k hk h => tw_lt _ _ k _ (get_opt s k hk) h
  have hall2 : ∀ (hk : (s.data.toList.takeWhile schemeTail).length < s.size), schemeTail (s[(s.data.toList.takeWhile schemeTail).length]'hk) = false ∧ (s[(s.data.toList.takeWhile schemeTail).length]'hk).toNat ≠ 58 := fun hk =>
    ⟨tw_eq _ _ _ (get_opt s _ hk), fun h => h58 (by rw [get_opt s _ hk]; exact congrArg some (UInt8.toNat_inj.1 h))⟩
  generalize (s.data.toList.takeWhile schemeTail).length = n at *
  have HA := Lib.hid hall1
  have HC := Lib.hid hall2
  clear hall1 hall2 h58
  go_enter Tryz.func89, Tryz.ntmps89
  go_wp2
  go_loop [5] (fun i => ∃ k : Nat, k ≤ n ∧ i = .int .i64 k) (fun i => s.size - (intOf i).toNat)
  case atStart => exact ⟨0, by omega, rfl⟩
  case round =>
    obtain ⟨k, hk, rfl⟩ := hrel
    by_cases hlt : k < s.size
    · have hcn : s[k].toNat < 256 := s[k].toNat_lt
      have hfact : (k < n ∧ (97 ≤ s[k].toNat ∧ s[k].toNat ≤ 122 ∨ 65 ≤ s[k].toNat ∧ s[k].toNat ≤ 90 ∨ 48 ≤ s[k].toNat ∧ s[k].toNat ≤ 57 ∨ s[k].toNat = 43 ∨ s[k].toNat = 45 ∨ s[k].toNat = 46)) ∨
          (¬ (97 ≤ s[k].toNat ∧ s[k].toNat ≤ 122 ∨ 65 ≤ s[k].toNat ∧ s[k].toNat ≤ 90 ∨ 48 ≤ s[k].toNat ∧ s[k].toNat ≤ 57 ∨ s[k].toNat = 43 ∨ s[k].toNat = 45 ∨ s[k].toNat = 46) ∧ s[k].toNat ≠ 58) := by
        rcases Nat.lt_or_ge k n with h | h
        · left
          have := HA.out k hlt h
          rw [st_num, decide_eq_true_iff] at this
          exact ⟨h, this⟩
        · right
          have e : k = n := by omega
          subst e
          have := HC.out hlt
          rw [st_num, decide_eq_false_iff_not] at this
          exact this
      have HF := Lib.hid hfact
      clear hfact
      go_wp2
      all_goals first
        | exact ⟨⟨k + 1, by have := HF.out; omega, by go_num⟩, by simp [intOf]; omega⟩
        | (go_ret3; exact ⟨rfl, hb0⟩)
        | (exfalso
           have h1 := HF.out
           simp only [beq_iff_eq, beq_eq_false_iff_ne, ne_eq, Bool.or_eq_true] at *
           omega)
        | exact ⟨⟨k + 1, by (have h1 := HF.out; simp only [beq_iff_eq, beq_eq_false_iff_ne, ne_eq, Bool.or_eq_true] at *; omega), by go_num⟩, by simp [intOf]; omega⟩
    · go_wp2
      go_ret3
      exact ⟨rfl, hb0⟩
end Go.Proofs.YtfkgkkmcaaefnaaGreatDoor.Wk
