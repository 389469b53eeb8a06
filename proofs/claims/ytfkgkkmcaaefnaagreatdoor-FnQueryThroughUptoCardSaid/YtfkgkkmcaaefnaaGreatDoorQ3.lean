/-
  THE WALKS of getScheme.
-/
import Derived.Test.YtfkgkkmcaaefnaaGreatDoorQ2
set_option linter.unusedSimpArgs false
set_option linter.unusedVariables false
namespace Go.Proofs.YtfkgkkmcaaefnaaGreatDoor.Wk
open Go.RowKit Go.Proofs.YtfkgkkmcaaefnaaGreatDoor.Pu

/-- schemeTail by numbers -/
theorem st_num (c : UInt8) : schemeTail c = decide (97 ≤ c.toNat ∧ c.toNat ≤ 122 ∨ 65 ≤ c.toNat ∧ c.toNat ≤ 90 ∨ 48 ≤ c.toNat ∧ c.toNat ≤ 57 ∨ c.toNat = 43 ∨ c.toNat = 45 ∨ c.toNat = 46) := by
  rw [Bool.eq_iff_iff]
  unfold schemeTail alphaN digitN hasN
  simp only [List.any_cons, List.any_nil, Bool.or_false, Bool.or_eq_true, decide_eq_true_eq, beq_iff_eq, UInt8.reduceToNat]
  omega
theorem al_num (c : UInt8) : alphaN c.toNat = decide (97 ≤ c.toNat ∧ c.toNat ≤ 122 ∨ 65 ≤ c.toNat ∧ c.toNat ≤ 90) := rfl

set_option maxHeartbeats 2000000 in
set_option maxRecDepth 100000 in
theorem getScheme_yes (s : ByteArray) (n : Nat) (w : World) (hs : s.size ≤ 9223372036854770000) (hn : n < s.size) (hsc : isScheme (s.data.toList.take n) = true) (h58 : s.data.toList[n]? = some 58) :
    Calls Tryz.prog 89 #[.string s] w fun e w' => e = .returned (.tuple #[.string (s.extract 0 n), .string (s.extract (n + 1) s.size), .nilIface]) ∧ Below w.heap.size w w' := by
  have hb0 := Below.refl w.heap.size w
  have hpos : 0 < n := by
    rcases Nat.eq_zero_or_pos n with h | h
    · subst h; rw [List.take_zero] at hsc; exact absurd hsc (by decide)
    · exact h
  have hall : ∀ k (hk : k < s.size), k < n → schemeTail s[k] = true ∧ (k = 0 → alphaN s[k].toNat = true) := by
    intro k hk hkn
    have hm : (s.data.toList.take n)[k]? = some s[k] := by rw [List.getElem?_take_of_lt hkn]; exact get_opt s k hk
    cases hl : s.data.toList.take n with
    | nil => rw [hl] at hm; simp at hm
    | cons a r =>
      rw [hl] at hm hsc
      rw [isScheme, Bool.and_eq_true] at hsc
      cases k with
      | zero =>
        have : a = s[0] := by simpa using hm
        subst this
        exact ⟨st1 hsc.1, fun _ => hsc.1⟩
      | succ k =>
        refine ⟨List.all_eq_true.1 hsc.2 _ (List.mem_of_getElem? (by simpa using hm)), fun h => by omega⟩
  have hc58 : s[n].toNat = 58 := by rw [get_opt s n hn] at h58; rw [Option.some.inj h58]; rfl
  have HA := Lib.hid hall
  have HC := Lib.hid hc58
  clear hall hc58 h58 hsc
  go_enter Tryz.func89, Tryz.ntmps89
  go_wp2
  go_loop [5] (fun i => ∃ k : Nat, k ≤ n ∧ i = .int .i64 k) (fun i => s.size - (intOf i).toNat)
  case atStart => exact ⟨0, by omega, rfl⟩
  case round =>
    obtain ⟨k, hk, rfl⟩ := hrel
    by_cases hlt : k < n
    · have hks : k < s.size := by omega
      obtain ⟨h1, h2⟩ := HA.out k hks hlt
      rw [st_num, decide_eq_true_iff] at h1
      rw [al_num, decide_eq_true_iff] at h2
      have hcn : s[k].toNat < 256 := s[k].toNat_lt
      have H1 := Lib.hid h1
      have H2 := Lib.hid h2
      clear h1 h2
      go_wp2
      all_goals first
        | exact ⟨⟨k + 1, by omega, by go_num⟩, by simp [intOf]; omega⟩
        | (exfalso
           have h1 := H1.out
           have h2 := H2.out
           simp only [beq_iff_eq, beq_eq_false_iff_ne, ne_eq] at *
           omega)
    · obtain rfl : k = n := by omega
      have hc := HC.out
      have hcb : ((s[k].toNat : Int) == 58) = true := by rw [beq_iff_eq]; omega
      have hk0 : ((k : Int) == 0) = false := by rw [beq_eq_false_iff_ne]; omega
      have HC2 := Lib.hid hc
      have hw : IntKind.i64.wrap (↑k + 1) = ↑k + 1 := IntWalk.i64_in _ (by omega)
      have hw1 : 0 ≤ (k : Int) + 1 := by omega
      have hw2 : ((k : Int) + 1).toNat = k + 1 := by omega
      have hlo : 58 ≤ s[k].toNat := by omega
      have hhi : s[k].toNat ≤ 58 := by omega
      clear hc
      go_wp2
      all_goals first
        | (exfalso; omega)
        | (exfalso
           simp only [beq_iff_eq, beq_eq_false_iff_ne, ne_eq, Bool.or_eq_true] at *
           omega)
        | (go_quiet (fail)
           go_wp2
           go_ret3
           exact ⟨rfl, bdN hb0 _⟩)
end Go.Proofs.YtfkgkkmcaaefnaaGreatDoor.Wk
