/-
  PLAIN LISTS OF BYTES: remove_dot_segments, as the reference does it.
-/
import Derived.Test.YtfkgkkmcaaefnaaGreatDoorPw
namespace Go.Proofs.YtfkgkkmcaaefnaaGreatDoor.Pu

/-- how many bytes lie up to the last slash, it included -/
def lastSl (l : L) : Nat := (l.reverse.dropWhile (fun c => decide (c ≠ 47))).length
def dropSeg (l : L) : L := l.take (lastSl l - 1)
theorem lastSl_nil : lastSl [] = 0 := rfl
theorem lastSl_snoc (l : L) (c : UInt8) : lastSl (l ++ [c]) = if c = 47 then l.length + 1 else lastSl l := by
  unfold lastSl
  rw [List.reverse_append, List.reverse_singleton, List.singleton_append, List.dropWhile_cons]
  by_cases h : c = 47
  · rw [if_neg (by simp [h]), if_pos h]; simp
  · rw [if_pos (by simp [h]), if_neg h]
theorem lastSl_le (l : L) : lastSl l ≤ l.length := by
  unfold lastSl
  have := (List.dropWhile_sublist (fun c : UInt8 => decide (c ≠ 47)) (l := l.reverse)).length_le
  simpa using this
theorem dropSeg_le (l : L) : (dropSeg l).length ≤ l.length := by unfold dropSeg; rw [List.length_take]; omega

def rdStep (p out : L) : L × L :=
  if ([46, 46, 47] : L).isPrefixOf p = true then (p.drop 3, out)
  else if ([46, 47] : L).isPrefixOf p = true then (p.drop 2, out)
  else if ([47, 46, 47] : L).isPrefixOf p = true then (p.drop 2, out)
  else if p = [47, 46] then ([47], out)
  else if ([47, 46, 46, 47] : L).isPrefixOf p = true then (p.drop 3, dropSeg out)
  else if p = [47, 46, 46] then ([47], dropSeg out)
  else if p = [46] ∨ p = [46, 46] then ([], out)
  else (p.drop (1 + idx [47] (p.drop 1)), out ++ p.take (1 + idx [47] (p.drop 1)))
def rdF : Nat → L → L → L
  | 0, _, out => out
  | k + 1, p, out => if p = [] then out else rdF k (rdStep p out).1 (rdStep p out).2
def removeDots (s : L) : L := rdF s.length s []
theorem rdF_nil (k : Nat) (out : L) : rdF k [] out = out := by cases k <;> simp [rdF]
theorem rdF_go {k : Nat} {p out p' out' : L} (h : p ≠ []) (h1 : rdStep p out = (p', out')) : rdF (k + 1) p out = rdF k p' out' := by
  rw [rdF, if_neg h, h1]
theorem pre_len {a p : L} (h : a.isPrefixOf p = true) : a.length ≤ p.length := (List.isPrefixOf_iff_prefix.1 h).length_le
section
variable {p out : L}
theorem rs1 (h1 : ([46, 46, 47] : L).isPrefixOf p = true) : rdStep p out = (p.drop 3, out) := by unfold rdStep; rw [if_pos h1]
theorem rs2 (h1 : ([46, 46, 47] : L).isPrefixOf p = false) (h2 : ([46, 47] : L).isPrefixOf p = true) : rdStep p out = (p.drop 2, out) := by
  unfold rdStep; rw [if_neg (by rw [h1]; decide), if_pos h2]
theorem rs3 (h1 : ([46, 46, 47] : L).isPrefixOf p = false) (h2 : ([46, 47] : L).isPrefixOf p = false) (h3 : ([47, 46, 47] : L).isPrefixOf p = true) : rdStep p out = (p.drop 2, out) := by
  unfold rdStep; rw [if_neg (by rw [h1]; decide), if_neg (by rw [h2]; decide), if_pos h3]
theorem rs4 (h4 : p = [47, 46]) : rdStep p out = ([47], out) := by subst h4; unfold rdStep; simp
theorem rs5 (h3 : ([47, 46, 47] : L).isPrefixOf p = false) (h5 : ([47, 46, 46, 47] : L).isPrefixOf p = true) : rdStep p out = (p.drop 3, dropSeg out) := by
  obtain ⟨l, rfl⟩ := List.isPrefixOf_iff_prefix.1 h5
  unfold rdStep; simp
theorem rs6 (h6 : p = [47, 46, 46]) : rdStep p out = ([47], dropSeg out) := by subst h6; unfold rdStep; simp
theorem rs7 (h7 : p = [46] ∨ p = [46, 46]) : rdStep p out = ([], out) := by rcases h7 with rfl | rfl <;> (unfold rdStep; simp)
theorem rs8 (h1 : ([46, 46, 47] : L).isPrefixOf p = false) (h2 : ([46, 47] : L).isPrefixOf p = false) (h3 : ([47, 46, 47] : L).isPrefixOf p = false) (h4 : ¬ p = [47, 46]) (h5 : ([47, 46, 46, 47] : L).isPrefixOf p = false)
    (h6 : ¬ p = [47, 46, 46]) (h7 : ¬ (p = [46] ∨ p = [46, 46])) : rdStep p out = (p.drop (1 + idx [47] (p.drop 1)), out ++ p.take (1 + idx [47] (p.drop 1))) := by
  unfold rdStep
  rw [if_neg (by rw [h1]; decide), if_neg (by rw [h2]; decide), if_neg (by rw [h3]; decide), if_neg h4, if_neg (by rw [h5]; decide), if_neg h6, if_neg h7]
end
end Go.Proofs.YtfkgkkmcaaefnaaGreatDoor.Pu
