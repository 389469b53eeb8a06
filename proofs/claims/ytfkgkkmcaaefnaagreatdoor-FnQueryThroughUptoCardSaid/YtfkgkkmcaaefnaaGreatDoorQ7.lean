/-
  PLAIN: what escape computes. (In the walks' name space: it reads the package's table.)
-/
import Derived.Test.YtfkgkkmcaaefnaaGreatDoorQ2
import Derived.Test.YtfkgkkmcaaefnaaGreatDoorS10
import Derived.Test.YtfkgkkmcaaefnaaGreatDoorPy
set_option linter.unusedSimpArgs false
set_option linter.unusedVariables false
namespace Go.Proofs.YtfkgkkmcaaefnaaGreatDoor.Wk
open Go.RowKit Go.Proofs.YtfkgkkmcaaefnaaGreatDoor.Pu

/-- an upper-case hexadecimal digit -/
def upx (n : Nat) : UInt8 := if n < 10 then UInt8.ofNat (48 + n) else UInt8.ofNat (55 + n)
/-- a blank that becomes a plus sign -/
def spB (m : Nat) (c : UInt8) : Bool := decide (c.toNat = 32) && decide (m = 32)
def hxB (m : Nat) (c : UInt8) : Bool := escN m c.toNat && !spB m c
def esc1 (m : Nat) (c : UInt8) : L := if spB m c then [43] else if escN m c.toNat then [37, upx (c.toNat / 16), upx (c.toNat % 16)] else [c]
def escF (m : Nat) (l : L) : L := l.flatMap (esc1 m)
def spN (m : Nat) (l : L) : Nat := l.countP (spB m)
def hxN (m : Nat) (l : L) : Nat := l.countP (hxB m)
theorem sp_esc (m : Nat) (c : UInt8) (h : spB m c = true) : escN m c.toNat = true := by
  unfold spB at h
  simp only [Bool.and_eq_true, decide_eq_true_eq] at h
  rw [h.1, h.2]; decide
theorem escF_nil (m : Nat) : escF m [] = [] := rfl
theorem escF_cons (m : Nat) (c : UInt8) (r : L) : escF m (c :: r) = esc1 m c ++ escF m r := by unfold escF; rw [List.flatMap_cons]
theorem escF_app (m : Nat) (a b : L) : escF m (a ++ b) = escF m a ++ escF m b := by unfold escF; rw [List.flatMap_append]
theorem esc1_len (m : Nat) (c : UInt8) : (esc1 m c).length = 1 + 2 * (if hxB m c = true then 1 else 0) := by
  unfold esc1 hxB
  cases spB m c <;> cases escN m c.toNat <;> rfl
theorem escF_len (m : Nat) : ∀ l : L, (escF m l).length = l.length + 2 * hxN m l
  | [] => rfl
  | c :: r => by
    have := escF_len m r
    unfold hxN at *
    rw [escF_cons, List.length_append, esc1_len, List.countP_cons, List.length_cons, this]
    omega
theorem escF_id (m : Nat) : ∀ l : L, spN m l = 0 → hxN m l = 0 → escF m l = l
  | [], _, _ => rfl
  | c :: r, h1, h2 => by
    unfold spN at h1
    unfold hxN at h2
    rw [List.countP_cons] at h1 h2
    have e1 : spB m c = false := by cases h : spB m c with | false => rfl | true => rw [h] at h1; simp at h1
    have e2 : hxB m c = false := by cases h : hxB m c with | false => rfl | true => rw [h] at h2; simp at h2
    have e3 : escN m c.toNat = false := by unfold hxB at e2; rw [e1] at e2; simpa using e2
    rw [escF_cons, escF_id m r (by unfold spN; omega) (by unfold hxN; omega)]
    unfold esc1
    rw [e1, e3]; rfl
/-- a blank to a plus sign -/
def plusC (c : UInt8) : UInt8 := if c.toNat = 32 then 43 else c
theorem escF_plus (m : Nat) (hm : m = 32) : ∀ l : L, hxN m l = 0 → escF m l = l.map plusC
  | [], _ => rfl
  | c :: r, h2 => by
    unfold hxN at h2
    rw [List.countP_cons] at h2
    have e2 : hxB m c = false := by cases h : hxB m c with | false => rfl | true => rw [h] at h2; simp at h2
    rw [escF_cons, escF_plus m hm r (by unfold hxN; omega), List.map_cons]
    unfold esc1 plusC
    unfold hxB at e2
    cases h : spB m c with
    | true =>
      unfold spB at h
      simp only [Bool.and_eq_true, decide_eq_true_eq] at h
      rw [if_pos h.1]; rfl
    | false =>
      rw [h] at e2
      rw [show escN m c.toNat = false by simpa using e2]
      unfold spB at h
      have : ¬ c.toNat = 32 := fun e => by rw [e, hm] at h; exact absurd h (by decide)
      rw [if_neg this]; rfl
theorem cnt_take (p : UInt8 → Bool) (s : ByteArray) (k : Nat) (h : k < s.size) : (s.data.toList.take (k + 1)).countP p = (s.data.toList.take k).countP p + (if p s[k] = true then 1 else 0) := by
  rw [List.take_succ_eq_append_getElem (show k < s.data.toList.length from h), List.countP_append, List.countP_singleton]; rfl
theorem sp_pos (m : Nat) (l : L) (h : 0 < spN m l) : m = 32 := by
  unfold spN at h
  rw [List.countP_pos_iff] at h
  obtain ⟨c, _, hc⟩ := h
  unfold spB at hc
  simp only [Bool.and_eq_true, decide_eq_true_eq] at hc
  exact hc.2
theorem cnt_le (p : UInt8 → Bool) (l : L) : l.countP p ≤ l.length := List.countP_le_length
end Go.Proofs.YtfkgkkmcaaefnaaGreatDoor.Wk
