/-
  THE WALK of resolvePath.
-/
import Derived.Test.YtfkgkkmcaaefnaaGreatDoorR1
import Derived.Test.YtfkgkkmcaaefnaaGreatDoorQ8
import Derived.Lib.LastIndexByte
import Derived.Deep.CutBlock
set_option linter.unusedSimpArgs false
set_option linter.unusedVariables false
namespace Go.Proofs.YtfkgkkmcaaefnaaGreatDoor.Wk
open Go.RowKit Go.Proofs.YtfkgkkmcaaefnaaGreatDoor.Pu

/-- how many bytes lie up to the last x, it included -/
def lastC (x : UInt8) (l : L) : Nat := (l.reverse.dropWhile (fun c => decide (c ≠ x))).length
theorem lastC_47 (l : L) : lastC 47 l = lastSl l := rfl
theorem lastC_snoc (x : UInt8) (l : L) (c : UInt8) : lastC x (l ++ [c]) = if c = x then l.length + 1 else lastC x l := by
  unfold lastC
  rw [List.reverse_append, List.reverse_singleton, List.singleton_append, List.dropWhile_cons]
  by_cases h : c = x
  · rw [if_neg (by simp [h]), if_pos h]; simp
  · rw [if_pos (by simp [h]), if_neg h]
theorem lastC_le (x : UInt8) (l : L) : lastC x l ≤ l.length := by
  unfold lastC
  have := (List.dropWhile_sublist (fun c : UInt8 => decide (c ≠ x)) (l := l.reverse)).length_le
  simpa using this
theorem lib_lastIdx (x : UInt8) (s : ByteArray) : ∀ (k : Nat), k ≤ s.size → Lib.lastIdx s (x.toNat : Int) k = (lastC x (s.data.toList.take k) : Int) - 1
  | 0, _ => by rw [List.take_zero]; rfl
  | k + 1, h => by
    have hk : k < s.data.toList.length := by rw [size_len]; omega
    rw [List.take_succ_eq_append_getElem hk, lastC_snoc, List.length_take, Nat.min_eq_left (Nat.le_of_lt hk)]
    have e : s.data[k]! = s.data.toList[k] := by
      rw [getElem!_pos s.data k (by simpa using hk)]; simp
    unfold Lib.lastIdx
    rw [e]
    by_cases h47 : s.data.toList[k] = x
    · rw [if_pos (by rw [h47]), if_pos h47]; omega
    · rw [if_neg (fun h => h47 (UInt8.toNat_inj.1 (by omega))), if_neg h47]
      exact lib_lastIdx x s k (by omega)
theorem lib_last (x : UInt8) (s : ByteArray) : Lib.lastIndexByte s (x.toNat : Int) = (lastC x s.data.toList : Int) - 1 := by
  have := lib_lastIdx x s s.size (Nat.le_refl _)
  rw [← size_len, List.take_length] at this
  exact this
theorem lastIndex_any (x : UInt8) (s : ByteArray) (w : World) (hs : s.size < 4611686018427387904) :
    Calls Tryz.prog 101 #[.string s, .string ⟨#[x]⟩] w fun e w' => e = .returned (.int .i64 ((lastC x s.data.toList : Int) - 1)) ∧ w = w' := by
  refine (Tryz.strings_LastIndex_one s ⟨#[x]⟩ rfl hs w).mono ?_
  rintro e w1 ⟨rfl, rfl⟩
  exact ⟨ret_int (lib_last x s), rfl⟩

/-- the path that is resolved -/
def fullF (b r : L) : L := if r = [] then b else if r[0]? = some 47 then r else b.take (lastSl b) ++ r

/-- dst holds a slash and these bytes -/
def dstAt (B : Nat) (w : World) (g cap : Nat) (O : L) : Prop := w.ownsRow B 5 1 (.slice (some ⟨g, 0, none⟩) (O.length + 1) cap) (O.length + 1) (Lib.byteCells (47 :: O))
theorem bc_get (l : L) (j : Nat) : (Lib.byteCells l)[j]? = (l[j]?).map (fun c => Value.int .u8 (c.toNat : Int)) := by
  unfold Lib.byteCells; rw [List.getElem?_map]
theorem dstAt.cell {B : Nat} {w : World} {g cap : Nat} {O : L} (h : dstAt B w g cap O) {j : Nat} {c : UInt8} (hj : (47 :: O)[j]? = some c) : w.cell? ⟨g, j, none⟩ = some (.int .u8 (c.toNat : Int)) := by
  obtain ⟨h1, h2⟩ := h
  rcases h2 with ⟨h, _⟩ | ⟨g', cap', cur, hv, hg, hh, hc, hm, hcs, ht⟩
  · cases h
  · have e : g' = g := by cases hv; rfl
    subst e
    rw [blk_cell hh]
    have hx : (Lib.byteCells (47 :: O))[j]? = some (.int .u8 (c.toNat : Int)) := by rw [bc_get, hj]; rfl
    rw [← ht, List.getElem?_take] at hx
    split at hx
    · simpa using hx
    · cases hx
theorem dstAt.cap {B : Nat} {w : World} {g cap : Nat} {O : L} (h : dstAt B w g cap O) : O.length + 1 ≤ cap ∧ B ≤ g := by
  obtain ⟨h1, h2⟩ := h
  rcases h2 with ⟨h, _⟩ | ⟨g', cap', cur, hv, hg, hh, hc, hm, hcs, ht⟩
  · cases h
  · have e : g' = g ∧ cap' = cap := by cases hv; exact ⟨rfl, rfl⟩
    obtain ⟨rfl, rfl⟩ := e
    exact ⟨hc, hg⟩
theorem dstAt.cut {B : Nat} {w : World} {g cap : Nat} {O : L} (h : dstAt B w g cap O) (m : Nat) (hm : m ≤ O.length) : dstAt B w g cap (O.take m) := by
  obtain ⟨h1, h2⟩ := h
  refine ⟨by simp [Lib.byteCells], ?_⟩
  rcases h2 with ⟨h, _⟩ | ⟨g', cap', cur, hv, hg, hh, hc, hmx, hcs, ht⟩
  · cases h
  · have e : g' = g ∧ cap' = cap := by cases hv; exact ⟨rfl, rfl⟩
    obtain ⟨rfl, rfl⟩ := e
    right
    have hl : (O.take m).length = m := by rw [List.length_take]; omega
    refine ⟨g', cap', cur, by rw [hl], hg, hh, by rw [hl]; omega, hmx, hcs, ?_⟩
    rw [hl]
    have : (Lib.byteCells (47 :: O)).take (m + 1) = Lib.byteCells (47 :: O.take m) := by unfold Lib.byteCells; simp [List.map_take]
    rw [← this, ← ht, List.take_take]
    congr 1; omega
theorem dstAt.below {B : Nat} {w w' : World} {g cap : Nat} {O : L} (h : dstAt B w g cap O) (hb : Below w.heap.size w w') : dstAt B w' g cap O := by
  obtain ⟨h1, h2⟩ := h
  refine ⟨h1, ?_⟩
  rcases h2 with ⟨h, _⟩ | ⟨g', cap', cur, hv, hg, hh, r⟩
  · cases h
  · right
    exact ⟨g', cap', cur, hv, hg, by rw [hb.block g' (Array.getElem?_eq_some_iff.1 hh).1]; exact hh, r⟩
theorem dstAt.of {B : Nat} {w : World} {v : Value} {n : Nat} {O : L} (hn : n = O.length + 1) (h : w.ownsRow B 5 1 v n (Lib.byteCells (47 :: O))) : ∃ g cap, v = .slice (some ⟨g, 0, none⟩) (O.length + 1) cap ∧ dstAt B w g cap O := by
  subst hn
  obtain ⟨h1, h2⟩ := h
  rcases h2 with ⟨_, h⟩ | ⟨g', cap', cur, hv, r⟩
  · omega
  · refine ⟨g', cap', hv, ?_⟩
    subst hv
    exact ⟨h1, Or.inr ⟨g', cap', cur, rfl, r⟩⟩

def strSize : Value → Nat | .string s => s.size | _ => 0
def boolN : Value → Nat | .bool true => 1 | _ => 0

theorem rpOut_next {l : L} {O : L} {f : Bool} (h : idx [47] l < l.length) : rpOut (segs 47 l) (O, f) = rpOut (segs 47 (l.drop (idx [47] l + 1))) (rpStep (l.take (idx [47] l)) (O, f)) := by
  rw [segs_cut 47 l h, rpOut_cons (segs_ne _ _)]
theorem rpOut_last {l : L} {O : L} {f : Bool} (h : ¬ idx [47] l < l.length) : rpOut (segs 47 l) (O, f) = rpFin l (O, f) := by
  have := idx_le [47] l
  rw [segs_last 47 l (by omega)]; rfl
/-- what one round leaves -/
theorem round_rp {l a b : L} {fd : Bool} (h : cutF 47 l = (a, b, fd)) (O : L) (f : Bool) :
    rpOut (segs 47 l) (O, f) = if fd = true then rpOut (segs 47 b) (rpStep a (O, f)) else if isDot a = true then (rpStep a (O, f)).1 ++ [47] else (rpStep a (O, f)).1 := by
  unfold cutF at h
  by_cases hl : idx [47] l < l.length
  · rw [if_pos hl] at h
    simp only [Prod.mk.injEq] at h
    rw [rpOut_next hl, h.1, h.2.1, if_pos h.2.2.symm]
  · rw [if_neg hl] at h
    simp only [Prod.mk.injEq] at h
    rw [rpOut_last hl, h.1, if_neg (by rw [← h.2.2]; decide)]; rfl
theorem cutF_len {l a b : L} {fd : Bool} (h : cutF 47 l = (a, b, fd)) : a.length + b.length + (if fd = true then 1 else 0) = l.length := by
  unfold cutF at h
  split at h
  · simp only [Prod.mk.injEq] at h
    rw [← h.1, ← h.2.1, ← h.2.2, List.length_take, List.length_drop, if_pos rfl]; omega
  · simp only [Prod.mk.injEq] at h
    rw [← h.1, ← h.2.1, ← h.2.2]; simp
end Go.Proofs.YtfkgkkmcaaefnaaGreatDoor.Wk
