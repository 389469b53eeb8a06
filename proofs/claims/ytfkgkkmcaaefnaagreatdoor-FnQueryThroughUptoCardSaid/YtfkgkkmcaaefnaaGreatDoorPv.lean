/-
  PLAIN LISTS OF BYTES, more: segments, IP addresses, authorities.
-/
import Derived.Test.YtfkgkkmcaaefnaaGreatDoorPu
namespace Go.Proofs.YtfkgkkmcaaefnaaGreatDoor.Pu

/-- the parts of s between the bytes c -/
def segs (c : UInt8) : L → List L
  | [] => [[]]
  | a :: r => if a = c then [] :: segs c r else
    match segs c r with
    | h :: t => (a :: h) :: t
    | [] => [[a]]
theorem segs_ne (c : UInt8) : ∀ s : L, segs c s ≠ []
  | [] => by simp [segs]
  | a :: r => by
    rw [segs]
    split
    · simp
    · split <;> simp
theorem inB_one (c a : UInt8) : inB [c] a = decide (a = c) := by
  unfold inB; simp only [List.any_cons, List.any_nil, Bool.or_false]
  rw [Bool.eq_iff_iff, beq_iff_eq, decide_eq_true_iff]; exact eq_comm
theorem segs_last (c : UInt8) : ∀ s : L, idx [c] s = s.length → segs c s = [s]
  | [], _ => rfl
  | a :: r, h => by
    by_cases ha : a = c
    · rw [idx_hit _ _ _ (by rw [inB_one]; simpa using ha)] at h; simp at h
    · rw [idx_miss _ _ _ (by rw [inB_one]; simpa using ha)] at h
      rw [segs, if_neg ha, segs_last c r (by simpa using h)]
theorem segs_cut (c : UInt8) : ∀ s : L, idx [c] s < s.length → segs c s = s.take (idx [c] s) :: segs c (s.drop (idx [c] s + 1))
  | [], h => by simp at h
  | a :: r, h => by
    by_cases ha : a = c
    · rw [idx_hit _ _ _ (by rw [inB_one]; simpa using ha)]
      rw [segs, if_pos ha]; simp
    · rw [idx_miss _ _ _ (by rw [inB_one]; simpa using ha)] at h ⊢
      rw [segs, if_neg ha, segs_cut c r (by simpa using h)]
      simp

def isDot (s : L) : Bool := s == [46] || s == [46, 46]
def dotsB (p : L) : Bool := (segs 47 p).any isDot

theorem segs_head (c : UInt8) (s : L) : ∃ t, segs c s = s.take (idx [c] s) :: t := by
  by_cases h : idx [c] s < s.length
  · exact ⟨_, segs_cut c s h⟩
  · have := idx_le [c] s
    have e : idx [c] s = s.length := by omega
    exact ⟨[], by rw [segs_last c s e, e, List.take_length]⟩
theorem dots_hit {p : L} {n : Nat} (hn : idx [47] p = n) (h : isDot (p.take n) = true) : dotsB p = true := by
  obtain ⟨t, ht⟩ := segs_head 47 p
  rw [dotsB, ht, hn, List.any_cons, h]; rfl
theorem dots_end {p : L} {n : Nat} (hn : idx [47] p = n) (h : isDot (p.take n) = false) (he : n = p.length) : dotsB p = false := by
  rw [dotsB, segs_last 47 p (by omega)]
  rw [he, List.take_length] at h
  simp [h]
theorem dots_next {p : L} {n : Nat} (hn : idx [47] p = n) (h : isDot (p.take n) = false) (he : n < p.length) : dotsB (p.drop (n + 1)) = dotsB p := by
  conv => rhs; rw [dotsB, segs_cut 47 p (by omega), hn, List.any_cons, h]
  rfl
theorem isDot_1 {p : L} (h : p = [46]) : isDot p = true := by rw [h]; rfl
theorem isDot_2 {p : L} (h : (p == [46]) = true ∨ (p == [46, 46]) = true) : isDot p = true := by unfold isDot; rw [Bool.or_eq_true]; exact h
theorem isDot_0 {p : L} (h : (p == [46]) = false ∧ (p == [46, 46]) = false) : isDot p = false := by unfold isDot; rw [h.1, h.2]; rfl

/-- an octet of an IPv4 address -/
def digC (c : UInt8) : Bool := digitN c.toNat
def octVal (d : L) : Nat := d.foldl (fun v c => v * 10 + (c.toNat - 48)) 0
def badO (d : L) : Bool := decide (d.length = 0) || decide (3 < d.length) || (decide (1 < d.length) && decide (d[0]? = some 48))
def octet (d : L) : Bool := !badO d && d.all digC && decide (octVal d ≤ 255)
theorem octVal_snoc (d : L) (c : UInt8) : octVal (d ++ [c]) = octVal d * 10 + (c.toNat - 48) := by unfold octVal; rw [List.foldl_append]; rfl
theorem take_snoc (d : ByteArray) (k : Nat) (h : k < d.size) : d.data.toList.take (k + 1) = d.data.toList.take k ++ [d[k]] := by
  rw [List.take_succ_eq_append_getElem (show k < d.data.toList.length from h)]; rfl
theorem badO_f {d : L} (h : badO d = false) : 1 ≤ d.length ∧ d.length ≤ 3 := by
  unfold badO at h
  simp only [Bool.or_eq_false_iff, decide_eq_false_iff_not] at h
  omega
def v4r : Nat → L → Bool
  | 0, s => s.isEmpty
  | j + 1, s => octet (s.take (idx [46] s)) && (decide (idx [46] s < s.length) == decide (j ≠ 0)) && v4r j (s.drop (idx [46] s + 1))
theorem v4r_bad {j : Nat} {s : L} {n : Nat} (hn : idx [46] s = n) (h : octet (s.take n) = false) : v4r (j + 1) s = false := by
  rw [v4r, hn, h]; rfl
theorem v4r_sep {j : Nat} {s : L} {n : Nat} (hn : idx [46] s = n) (h : (decide (n < s.length) == decide (j ≠ 0)) = false) : v4r (j + 1) s = false := by
  rw [v4r, hn, h]; simp
theorem v4r_go {j : Nat} {s : L} {n : Nat} (hn : idx [46] s = n) (h : octet (s.take n) = true) (h2 : (decide (n < s.length) == decide (j ≠ 0)) = true) : v4r (j + 1) s = v4r j (s.drop (n + 1)) := by
  conv => lhs; rw [v4r, hn, h, h2]
  simp
theorem oct_bad {d : L} (h : badO d = true) : octet d = false := by unfold octet; rw [h]; rfl
theorem oct_dig {d : L} {c : UInt8} (hc : c ∈ d) (h : digitN c.toNat = false) : octet d = false := by
  have : d.all digC = false := by rw [List.all_eq_false]; exact ⟨c, hc, by simp [digC, h]⟩
  unfold octet; rw [this]; simp
theorem oct_big {d : L} (h : 255 < octVal d) : octet d = false := by
  unfold octet; rw [decide_eq_false (by omega)]; simp
theorem oct_ok {d : L} (h : badO d = false) (h1 : d.all digC = true) (h2 : octVal d ≤ 255) : octet d = true := by
  unfold octet; rw [h, h1, decide_eq_true h2]; rfl
def v4 (s : L) : Bool := v4r 4 s

def hexp (p : L) : Bool := decide (p.length ≠ 0) && decide (p.length ≤ 4) && p.all isHex
/-- how many pieces, if all are well -/
def pcs (last : Bool) : List L → Option Nat
  | [] => none
  | [p] => if (last && v4 p) = true then some 2 else if hexp p = true then some 1 else none
  | p :: q :: r => if hexp p = true then (pcs last (q :: r)).map (· + 1) else none
def num (o : Option Nat) : Int := match o with | some n => n | none => -1
def piecesF (last : Bool) (s : L) : Int := if s = [] then 0 else num (pcs last (segs 58 s))

theorem pc_end4 {last : Bool} {p : L} (hn : idx [58] p = p.length) (h : (last && v4 p) = true) : pcs last (segs 58 p) = some 2 := by
  rw [segs_last 58 p hn, pcs, if_pos h]
theorem pc_end1 {last : Bool} {p : L} (hn : idx [58] p = p.length) (h : (last && v4 p) = false) (hx : hexp p = true) : pcs last (segs 58 p) = some 1 := by
  rw [segs_last 58 p hn, pcs, if_neg (by rw [h]; decide), if_pos hx]
theorem pc_end0 {last : Bool} {p : L} (hn : idx [58] p = p.length) (h : (last && v4 p) = false) (hx : hexp p = false) : pcs last (segs 58 p) = none := by
  rw [segs_last 58 p hn, pcs, if_neg (by rw [h]; decide), if_neg (by rw [hx]; decide)]
theorem pc_next {last : Bool} {p : L} {n : Nat} (hn : idx [58] p = n) (hl : n < p.length) (hx : hexp (p.take n) = true) : pcs last (segs 58 p) = (pcs last (segs 58 (p.drop (n + 1)))).map (· + 1) := by
  rw [segs_cut 58 p (by omega), hn]
  cases hq : segs 58 (p.drop (n + 1)) with
  | nil => exact absurd hq (segs_ne _ _)
  | cons q r => rw [pcs, if_pos hx]
theorem pc_bad {last : Bool} {p : L} {n : Nat} (hn : idx [58] p = n) (hl : n < p.length) (hx : hexp (p.take n) = false) : pcs last (segs 58 p) = none := by
  rw [segs_cut 58 p (by omega), hn]
  cases hq : segs 58 (p.drop (n + 1)) with
  | nil => exact absurd hq (segs_ne _ _)
  | cons q r => rw [pcs, if_neg (by rw [hx]; decide)]
theorem hx_len {p : L} (h : ¬ (p.length ≠ 0 ∧ p.length ≤ 4)) : hexp p = false := by
  unfold hexp
  rw [Bool.eq_false_iff]; simp only [ne_eq, Bool.and_eq_true, decide_eq_true_eq]; intro h2; exact h h2.1
theorem hx_mem {p : L} {c : UInt8} (hc : c ∈ p) (h : isHex c = false) : hexp p = false := by
  have : p.all isHex = false := by rw [List.all_eq_false]; exact ⟨c, hc, by simp [h]⟩
  unfold hexp; rw [this]; simp
theorem hx_ok {p : L} (h : p.length ≠ 0 ∧ p.length ≤ 4) (ha : p.all isHex = true) : hexp p = true := by
  unfold hexp; rw [ha, decide_eq_true h.1, decide_eq_true h.2]; rfl

/-- the place of the first "::" -/
def dc : L → Option Nat
  | [] => none
  | a :: r => if a = 58 ∧ r[0]? = some 58 then some 0 else (dc r).map (· + 1)
theorem dc_hit {a b : UInt8} {r q : L} {k : Nat} {s : L} (hp : (dc q).map (· + k) = dc s) (hq : q = a :: b :: r) (ha : a.toNat = 58) (hb : b.toNat = 58) : dc s = some k := by
  have ea : a = 58 := UInt8.toNat_inj.1 ha
  have eb : b = 58 := UInt8.toNat_inj.1 hb
  rw [← hp, hq, dc, if_pos ⟨ea, by rw [eb]; rfl⟩]; simp
theorem dc_miss {a b : UInt8} {r q : L} {k : Nat} {s : L} (hp : (dc q).map (· + k) = dc s) (hq : q = a :: b :: r) (h : ¬ (a.toNat = 58 ∧ b.toNat = 58)) : (dc (b :: r)).map (· + (k + 1)) = dc s := by
  rw [← hp, hq]
  have hneg : ¬ (a = 58 ∧ (b :: r)[0]? = some 58) := by
    rintro ⟨h1, h2⟩
    have h3 : b = 58 := by simpa using h2
    exact h ⟨by rw [h1]; rfl, by rw [h3]; rfl⟩
  conv => rhs; rw [dc, if_neg hneg]
  rw [Option.map_map]
  congr 1
  funext x; simp; omega
theorem dc_short {q : L} {k : Nat} {s : L} (hp : (dc q).map (· + k) = dc s) (hq : q.length ≤ 1) : dc s = none := by
  rw [← hp]
  match q, hq with
  | [], _ => rfl
  | [a], _ => simp [dc]
theorem segs_length (c : UInt8) : ∀ s : L, (segs c s).length ≤ s.length + 1
  | [] => by simp [segs]
  | a :: r => by
    have := segs_length c r
    rw [segs]
    split
    · simp; omega
    · split
      · rename_i h t e; rw [e] at this; simp at *; omega
      · simp
theorem pcs_le (last : Bool) : ∀ (l : List L) (n : Nat), pcs last l = some n → n ≤ l.length + 1
  | [], n, h => by simp [pcs] at h
  | [p], n, h => by
    rw [pcs] at h
    split at h
    · simp at h; simp; omega
    · split at h <;> simp at h; simp; omega
  | p :: q :: r, n, h => by
    rw [pcs] at h
    split at h
    · obtain ⟨m, hm, e⟩ := Option.map_eq_some_iff.1 h
      have := pcs_le last (q :: r) m hm
      simp at *; omega
    · simp at h
theorem piecesF_bd (last : Bool) (s : L) : -1 ≤ piecesF last s ∧ piecesF last s ≤ s.length + 2 := by
  unfold piecesF
  split
  · omega
  · cases h : pcs last (segs 58 s) with
    | none => simp [num]; omega
    | some n =>
      have := pcs_le last _ n h
      have := segs_length 58 s
      simp [num]; omega
def v6F (s : L) : Bool :=
  match dc s with
  | some i => decide (0 ≤ piecesF false (s.take i)) && decide (0 ≤ piecesF true (s.drop (i + 2))) && decide (piecesF false (s.take i) + piecesF true (s.drop (i + 2)) ≤ 7)
  | none => decide (piecesF true s = 8)
theorem v6_some {s : L} {i : Nat} (h : dc s = some i) : v6F s = (decide (0 ≤ piecesF false (s.take i)) && decide (0 ≤ piecesF true (s.drop (i + 2))) && decide (piecesF false (s.take i) + piecesF true (s.drop (i + 2)) ≤ 7)) := by
  unfold v6F; rw [h]
theorem v6_none {s : L} (h : dc s = none) : v6F s = decide (piecesF true s = 8) := by
  unfold v6F; rw [h]
end Go.Proofs.YtfkgkkmcaaefnaaGreatDoor.Pu
