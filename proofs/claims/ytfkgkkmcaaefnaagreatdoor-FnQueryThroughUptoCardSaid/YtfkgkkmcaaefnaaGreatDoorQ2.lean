/-
  THE TABLE of the package, and the functions that read it.
-/
import Derived.Test.YtfkgkkmcaaefnaaGreatDoorQ1
import Derived.Laws.BitsAllLaws
set_option linter.unusedSimpArgs false
set_option linter.unusedVariables false
namespace Go.Proofs.YtfkgkkmcaaefnaaGreatDoor.Wk
open Go.RowKit Go.Proofs.YtfkgkkmcaaefnaaGreatDoor.Pu

def tabL : List Nat := [0, 0, 0, 0, 0, 0, 0, 0, 0, 0, 0, 0, 0, 0, 0, 0, 0, 0, 0, 0, 0, 0, 0, 0, 0, 0, 0, 0, 0, 0, 0, 0, 0, 76, 12, 0, 95, 0, 95, 12, 76, 76, 76, 95, 93, 127, 127, 65, 255, 255, 255, 255, 255, 255, 255, 255, 255, 255, 79, 93, 12, 95, 12, 64, 67, 255, 255, 255, 255, 255, 255, 127, 127, 127, 127, 127, 127, 127, 127, 127, 127, 127, 127, 127, 127, 127, 127, 127, 127, 127, 127, 12, 0, 12, 0, 127, 0, 255, 255, 255, 255, 255, 255, 127, 127, 127, 127, 127, 127, 127, 127, 127, 127, 127, 127, 127, 127, 127, 127, 127, 127, 127, 127, 0, 0, 0, 127, 0, 0, 0, 0, 0, 0, 0, 0, 0, 0, 0, 0, 0, 0, 0, 0, 0, 0, 0, 0, 0, 0, 0, 0, 0, 0, 0, 0, 0, 0, 0, 0, 0, 0, 0, 0, 0, 0, 0, 0, 0, 0, 0, 0, 0, 0, 0, 0, 0, 0, 0, 0, 0, 0, 0, 0, 0, 0, 0, 0, 0, 0, 0, 0, 0, 0, 0, 0, 0, 0, 0, 0, 0, 0, 0, 0, 0, 0, 0, 0, 0, 0, 0, 0, 0, 0, 0, 0, 0, 0, 0, 0, 0, 0, 0, 0, 0, 0, 0, 0, 0, 0, 0, 0, 0, 0, 0, 0, 0, 0, 0, 0, 0, 0, 0, 0, 0, 0, 0, 0, 0, 0, 0, 0, 0, 0, 0, 0, 0]
def tab (n : Nat) : Nat := tabL.getD n 0
/-- the world holds the table -/
def Tab (w : World) : Prop := ∀ i, i < 256 → w.cell? ⟨0, i, none⟩ = some (.int .u8 (tab i : Int))
theorem Tab.below {w W w' : World} (h : Tab W) (hb : Below w.heap.size W w') (hs : 0 < w.heap.size) : Tab w' := fun i hi => (hb.cell (p := ⟨0, i, none⟩) hs).trans (h i hi)
theorem Tab.pos {w : World} (h : Tab w) : 0 < w.heap.size := World.block_lt_of_cell? _ _ (h 0 (by decide))

theorem tab_lt (n : Nat) : tab n < 256 := by
  have h : ∀ x ∈ tabL, x < 256 := by decide +kernel
  unfold tab
  rw [List.getD_eq_getElem?_getD]
  cases e : tabL[n]? with
  | none => decide
  | some x => exact h x (List.mem_of_getElem? e)
/-- a byte must be escaped in a mode -/
def escN (m n : Nat) : Bool := decide (tab n &&& m = 0)

theorem shouldEscape_any (n m : Nat) (w : World) (hT : Tab w) (hn : n < 256) (hm : m < 256) : Calls Tryz.prog 97 #[.int .u8 n, .int .u8 m] w fun e w' => e = .returned (.bool (escN m n)) ∧ w = w' := by
  have hc := hT n hn
  clear hT
  go_enter Tryz.func97, Tryz.ntmps97
  go_wp2
  go_ret
  refine ⟨ret_bool ?_, rfl⟩
  rw [u8_and_nat _ _ (tab_lt n) hm, Bool.eq_iff_iff, beq_iff_eq]
  unfold escN
  rw [decide_eq_true_iff]
  omega
theorem ishex_tab : ∀ n, n < 256 → ((tab n &&& 128 ≠ 0) ↔ 0 ≤ hexN n) := by decide +kernel
theorem ishex_any (n : Nat) (w : World) (hT : Tab w) (hn : n < 256) : Calls Tryz.prog 112 #[.int .u8 n] w fun e w' => e = .returned (.bool (decide (0 ≤ hexN n))) ∧ w = w' := by
  have hc := hT n hn
  clear hT
  go_enter Tryz.func112, Tryz.ntmps112
  go_wp2
  go_ret
  refine ⟨ret_bool ?_, rfl⟩
  have h1 := u8_and_nat (tab n) 128 (tab_lt n) (by decide)
  rw [Bool.eq_iff_iff, decide_eq_true_iff, ← ishex_tab n hn]
  rw [show ((128 : Nat) : Int) = 128 from rfl] at h1
  rw [h1, bne_iff_ne]
  omega
theorem unhex_eq (n : Nat) (h : 0 ≤ hexN n) : (9 * ((n : Int) / 64) + (n : Int) % 16) = hexN n := by
  unfold hexN at *
  split
  · omega
  · split
    · omega
    · split
      · omega
      · rename_i h1 h2 h3; rw [if_neg h1, if_neg h2, if_neg h3] at h; omega
theorem unhex_any (n : Nat) (w : World) (hn : n < 256) (hx : 0 ≤ hexN n) : Calls Tryz.prog 113 #[.int .u8 n] w fun e w' => e = .returned (.int .u8 (hexN n)) ∧ w = w' := by
  have HX := Lib.hid hx
  clear hx
  go_enter Tryz.func113, Tryz.ntmps113
  go_wp2
  go_ret
  exact ⟨ret_int (unhex_eq n HX.out), rfl⟩

/-- a control character -/
def ctlN (n : Nat) : Bool := decide (n < 32 ∨ n = 127)
set_option maxHeartbeats 1000000 in
set_option maxRecDepth 100000 in
theorem ctl_any (s : ByteArray) (w : World) (hs : s.size ≤ 9223372036854770000) (h : s.data.toList.all (fun c => !ctlN c.toNat) = true) :
    Calls Tryz.prog 87 #[.string s] w fun e w' => e = .returned (.bool false) ∧ w = w' := by
  have hall : ∀ k (hk : k < s.size), 32 ≤ s[k].toNat ∧ s[k].toNat ≠ 127 := by
    intro k hk
    have := List.all_eq_true.1 h s[k] (List.mem_of_getElem? (get_opt s k hk))
    unfold ctlN at this
    simp only [Bool.not_eq_true', decide_eq_false_iff_not] at this
    omega
  have HA := Lib.hid hall
  clear hall h
  go_enter Tryz.func87, Tryz.ntmps87
  go_wp2
  go_loop [3] (fun i => ∃ k : Nat, k ≤ s.size ∧ i = .int .i64 k) (fun i => s.size - (intOf i).toNat)
  case atStart => exact ⟨0, by omega, rfl⟩
  case round =>
    obtain ⟨k, hk, rfl⟩ := hrel
    by_cases hlt : k < s.size
    · have h1 := (HA.out k hlt).1
      have h2 : ((s[k].toNat : Int) == 127) = false := by rw [beq_eq_false_iff_ne]; have := (HA.out k hlt).2; omega
      go_wp2
      exact ⟨⟨k + 1, by omega, by go_num⟩, by simp [intOf]; omega⟩
    · go_wp2
      go_ret
      exact ⟨rfl, rfl⟩

/-- validEncoded: these bytes are let as they are -/
def veN (m n : Nat) : Bool := hasN [33, 36, 38, 39, 40, 41, 42, 43, 44, 59, 61, 58, 64, 91, 93, 37] n || !escN m n
def veL (m : Nat) (l : L) : Bool := l.all (fun c => veN m c.toNat)
set_option maxHeartbeats 1000000 in
set_option maxRecDepth 100000 in
theorem validEnc_any (s : ByteArray) (m : Nat) (w : World) (hT : Tab w) (hm : m < 256) (hs : s.size ≤ 9223372036854770000) (h : veL m s.data.toList = true) :
    Calls Tryz.prog 98 #[.string s, .int .u8 m] w fun e w' => e = .returned (.bool true) ∧ w = w' := by
  have hall : ∀ k (hk : k < s.size), veN m s[k].toNat = true := fun k hk => List.all_eq_true.1 h s[k] (List.mem_of_getElem? (get_opt s k hk))
  have HA := Lib.hid hall
  have HT := Lib.hid hT
  clear hall h hT
  go_enter Tryz.func98, Tryz.ntmps98
  go_wp2
  go_loop [5] (fun i => ∃ k : Nat, k ≤ s.size ∧ i = .int .i64 k) (fun i => s.size - (intOf i).toNat)
  case atStart => exact ⟨0, by omega, rfl⟩
  case round =>
    obtain ⟨k, hk, rfl⟩ := hrel
    by_cases hlt : k < s.size
    · have hn : s[k].toNat < 256 := s[k].toNat_lt
      have hx := HA.out k hlt
      have HX := Lib.hid hx
      clear hx
      go_wp2_with (go_at_call 97; refine (shouldEscape_any _ _ _ HT.out hn hm).mono ?_; rintro e w1 ⟨rfl, rfl⟩)
      all_goals first
        | exact ⟨⟨k + 1, by omega, by go_num⟩, by simp [intOf]; omega⟩
        | (exfalso
           have h2 := HX.out
           unfold veN at h2
           rw [‹escN m s[k].toNat = true›] at h2
           unfold hasN at h2
           simp only [List.any_cons, List.any_nil, Bool.not_true, Bool.or_false, Bool.or_eq_true, beq_iff_eq, UInt8.reduceToNat] at h2
           simp only [beq_eq_false_iff_ne, ne_eq] at *
           omega)
    · go_wp2
      go_ret
      exact ⟨rfl, rfl⟩
end Go.Proofs.YtfkgkkmcaaefnaaGreatDoor.Wk
