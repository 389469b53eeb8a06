/-
  PLAIN LISTS OF BYTES: what the functions of the reference compute, without the program. No program text.
-/
import Derived.Below
import Derived.Lib.Hide
namespace Go.Proofs.YtfkgkkmcaaefnaaGreatDoor.Pu

abbrev L := List UInt8

/-- a string out of its bytes -/
def B (l : L) : ByteArray := ⟨l.toArray⟩
theorem B_toList (l : L) : (B l).data.toList = l := by simp [B]
theorem B_of (s : ByteArray) : B s.data.toList = s := by cases s; simp [B]
theorem B_size (l : L) : (B l).size = l.length := rfl
theorem size_len (s : ByteArray) : s.data.toList.length = s.size := rfl
theorem ext_toList (s : ByteArray) (a b : Nat) : (s.extract a b).data.toList = (s.data.toList.take b).drop a := by
  rw [ByteArray.data_extract, Array.toList_extract, List.extract_eq_take_drop, List.drop_take]
theorem ext_B (s : ByteArray) (a b : Nat) : s.extract a b = B ((s.data.toList.take b).drop a) := by
  rw [← ext_toList, B_of]
theorem get_toList (s : ByteArray) (k : Nat) (h : k < s.size) : s.data.toList[k]'h = s[k] := rfl
theorem get_opt (s : ByteArray) (k : Nat) (h : k < s.size) : s.data.toList[k]? = some s[k] := by
  rw [List.getElem?_eq_getElem (show k < s.data.toList.length from h)]; rfl
theorem drop_cons (s : ByteArray) (k : Nat) (h : k < s.size) : s.data.toList.drop k = s[k] :: s.data.toList.drop (k + 1) := by
  rw [List.drop_eq_getElem_cons (show k < s.data.toList.length from h)]; rfl

/-- a byte is in a set -/
def inB (set : L) (c : UInt8) : Bool := set.any (· == c)
/-- the place of the first byte of s that is in set, or s's length -/
def idx (set s : L) : Nat := (s.takeWhile (fun c => !inB set c)).length
theorem idx_le (set s : L) : idx set s ≤ s.length := by
  unfold idx; exact (List.takeWhile_sublist _).length_le
theorem idx_nil (set : L) : idx set [] = 0 := rfl
theorem idx_hit (set s : L) (a : UInt8) (h : inB set a = true) : idx set (a :: s) = 0 := by
  unfold idx; rw [List.takeWhile_cons, if_neg (by simp [h])]; rfl
theorem idx_miss (set s : L) (a : UInt8) (h : inB set a = false) : idx set (a :: s) = idx set s + 1 := by
  unfold idx; rw [List.takeWhile_cons, if_pos (by simp [h])]; rfl
theorem idx_stop (set : L) : ∀ (s : L) (k : Nat) (c : UInt8), k ≤ idx set s → s[k]? = some c → inB set c = true → idx set s = k
  | [], k, c, _, h, _ => by simp at h
  | a :: s, 0, c, _, h, hc => by
    have : a = c := by simpa using h
    subst this
    exact idx_hit _ _ _ hc
  | a :: s, k + 1, c, hk, h, hc => by
    cases ha : inB set a with
    | true => rw [idx_hit _ _ _ ha] at hk; omega
    | false =>
      rw [idx_miss _ _ _ ha] at hk ⊢
      rw [idx_stop set s k c (by omega) (by simpa using h) hc]
theorem idx_step (set : L) : ∀ (s : L) (k : Nat) (c : UInt8), k ≤ idx set s → s[k]? = some c → inB set c = false → k + 1 ≤ idx set s
  | [], k, c, _, h, _ => by simp at h
  | a :: s, 0, c, _, h, hc => by
    have : a = c := by simpa using h
    subst this
    rw [idx_miss _ _ _ hc]; omega
  | a :: s, k + 1, c, hk, h, hc => by
    cases ha : inB set a with
    | true => rw [idx_hit _ _ _ ha] at hk; omega
    | false =>
      rw [idx_miss _ _ _ ha] at hk ⊢
      have := idx_step set s k c (by omega) (by simpa using h) hc
      omega
theorem take_idx (set s : L) : s.take (idx set s) = s.takeWhile (fun c => !inB set c) := by
  induction s with
  | nil => rfl
  | cons a s ih =>
    cases ha : inB set a with
    | true => rw [idx_hit _ _ _ ha, List.takeWhile_cons, if_neg (by simp [ha])]; rfl
    | false => rw [idx_miss _ _ _ ha, List.takeWhile_cons, if_pos (by simp [ha]), List.take_succ_cons, ih]
theorem drop_idx (set s : L) : s.drop (idx set s) = s.dropWhile (fun c => !inB set c) := by
  induction s with
  | nil => rfl
  | cons a s ih =>
    cases ha : inB set a with
    | true => rw [idx_hit _ _ _ ha, List.dropWhile_cons, if_neg (by simp [ha])]; rfl
    | false => rw [idx_miss _ _ _ ha, List.dropWhile_cons, if_pos (by simp [ha]), List.drop_succ_cons, ih]

theorem idx_lt (set : L) : ∀ s : L, (idx set s < s.length ↔ s.any (inB set) = true)
  | [] => by simp [idx_nil]
  | a :: s => by
    have := idx_lt set s
    cases ha : inB set a with
    | true => rw [idx_hit _ _ _ ha]; simp [ha]
    | false => rw [idx_miss _ _ _ ha]; simp only [List.length_cons, List.any_cons, ha, Bool.false_or, ← this]; omega

/-! bytes, by their numbers -/
def alphaN (n : Nat) : Bool := decide (97 ≤ n ∧ n ≤ 122 ∨ 65 ≤ n ∧ n ≤ 90)
def digitN (n : Nat) : Bool := decide (48 ≤ n ∧ n ≤ 57)
def hexN (n : Nat) : Int := if 48 ≤ n ∧ n ≤ 57 then n - 48 else if 97 ≤ n ∧ n ≤ 102 then n - 87 else if 65 ≤ n ∧ n ≤ 70 then n - 55 else -1
def hasN (l : L) (n : Nat) : Bool := l.any (fun c => c.toNat == n)
theorem has_idx (l : L) (n : Nat) (h : n < 256) : hasN l n = decide (idx [UInt8.ofNat n] l < l.length) := by
  rw [Bool.eq_iff_iff, decide_eq_true_iff, idx_lt]
  unfold hasN inB
  simp only [List.any_eq_true, List.any_cons, List.any_nil, Bool.or_false, beq_iff_eq]
  constructor
  · rintro ⟨x, hx, e⟩; exact ⟨x, hx, UInt8.toNat_inj.1 (by rw [e]; simp [Nat.mod_eq_of_lt h])⟩
  · rintro ⟨x, hx, e⟩; exact ⟨x, hx, by rw [← e]; simp [Nat.mod_eq_of_lt h]⟩
def unresN (n : Nat) : Bool := alphaN n || digitN n || hasN [45, 46, 95, 126] n
/-- !$&'()*+,;= -/
def subd : L := [33, 36, 38, 39, 40, 41, 42, 43, 44, 59, 61]
def okN (more : L) (n : Nat) : Bool := unresN n || hasN subd n || hasN more n
def isHex (c : UInt8) : Bool := decide (0 ≤ hexN c.toNat)

/-- chars -/
def charsB (more : L) (pc : Bool) : L → Bool
  | [] => true
  | c :: r => if c.toNat = 37 then
      match r with
      | a :: b :: r' => pc && isHex a && isHex b && charsB more pc r'
      | _ => false
    else okN more c.toNat && charsB more pc r

theorem ch_pct (more : L) (pc : Bool) (c a b : UInt8) (r : L) (h : c.toNat = 37) : charsB more pc (c :: a :: b :: r) = (pc && isHex a && isHex b && charsB more pc r) := by
  rw [charsB, if_pos h]
theorem ch_short (more : L) (pc : Bool) (c : UInt8) (r : L) (h : c.toNat = 37) (hr : r.length < 2) : charsB more pc (c :: r) = false := by
  rw [charsB.eq_def]
  simp only [if_pos h]
  match r, hr with
  | [], _ => rfl
  | [_], _ => rfl
theorem ch_off (more : L) (c : UInt8) (r : L) (h : c.toNat = 37) : charsB more false (c :: r) = false := by
  rw [charsB.eq_def]
  simp only [if_pos h]
  match r with
  | [] => rfl
  | [_] => rfl
  | _ :: _ :: _ => rfl
theorem ch_else (more : L) (pc : Bool) (c : UInt8) (r : L) (h : c.toNat ≠ 37) : charsB more pc (c :: r) = (okN more c.toNat && charsB more pc r) := by
  rw [charsB.eq_def]
  simp only [if_neg h]
theorem ok1 {more : L} {n : Nat} (h : unresN n = true) : okN more n = true := by unfold okN; rw [h]; rfl
theorem ok2 {more : L} {n : Nat} (h : hasN [33, 36, 38, 39, 40, 41, 42, 43, 44, 59, 61] n = true) : okN more n = true := by unfold okN subd; rw [h]; simp
theorem ok3 {more : L} {n : Nat} (h : (!hasN more n) = false) : okN more n = true := by unfold okN; rw [show hasN more n = true by simpa using h]; simp
theorem ok0 {more : L} {n : Nat} (h1 : ¬ unresN n = true) (h2 : ¬ hasN [33, 36, 38, 39, 40, 41, 42, 43, 44, 59, 61] n = true) (h3 : (!hasN more n) = true) : okN more n = false := by
  unfold okN subd; rw [show hasN more n = false by simpa using h3, Bool.eq_false_iff.2 h1, Bool.eq_false_iff.2 h2]; rfl
theorem ch_yes {more : L} {pc : Bool} {c : UInt8} {r q : L} {s : Bool} (hd : q = c :: r) (h : c.toNat ≠ 37) (ho : okN more c.toNat = true) (hp : charsB more pc q = s) : charsB more pc r = s := by
  rw [hd, ch_else _ _ _ _ h, ho] at hp; simpa using hp
theorem ch_no {more : L} {pc : Bool} {c : UInt8} {r q : L} {s : Bool} (hd : q = c :: r) (h : c.toNat ≠ 37) (ho : okN more c.toNat = false) (hp : charsB more pc q = s) : false = s := by
  rw [hd, ch_else _ _ _ _ h, ho] at hp; simpa using hp
theorem isHex_t {c : UInt8} (h : 0 ≤ hexN c.toNat) : isHex c = true := decide_eq_true h
theorem isHex_f {c : UInt8} (h : hexN c.toNat < 0) : isHex c = false := decide_eq_false (by omega)
theorem toNat_of_beq {c : UInt8} {n : Nat} (h : ((c.toNat : Int) == n) = true) : c.toNat = n := by have := beq_iff_eq.1 h; omega
theorem toNat_of_bne {c : UInt8} {n : Nat} (h : ((c.toNat : Int) == n) = false) : c.toNat ≠ n := by have := beq_eq_false_iff_ne.1 h; omega

def unresL (l : L) : Bool := l.all (fun c => unresN c.toNat)

theorem un_yes {c : UInt8} {r q : L} {b : Bool} (hd : q = c :: r) (h : unresN c.toNat = true) (hp : unresL q = b) : unresL r = b := by
  rw [hd, unresL, List.all_cons, h, Bool.true_and] at hp; exact hp
theorem un_no {c : UInt8} {r q : L} {b : Bool} (hd : q = c :: r) (h : unresN c.toNat = false) (hp : unresL q = b) : false = b := by
  rw [hd, unresL, List.all_cons, h] at hp; simpa using hp
def schemeTail (c : UInt8) : Bool := alphaN c.toNat || digitN c.toNat || hasN [43, 45, 46] c.toNat
def isScheme : L → Bool
  | [] => false
  | c :: r => alphaN c.toNat && r.all schemeTail

theorem st_yes {c : UInt8} {r q : L} {b : Bool} (hd : q = c :: r) (h : schemeTail c = true) (hp : q.all schemeTail = b) : r.all schemeTail = b := by
  rw [hd, List.all_cons, h, Bool.true_and] at hp; exact hp
theorem st_no {c : UInt8} {r q : L} {b : Bool} (hd : q = c :: r) (h : schemeTail c = false) (hp : q.all schemeTail = b) : false = b := by
  rw [hd, List.all_cons, h, Bool.false_and] at hp; exact hp
theorem st1 {c : UInt8} (h : alphaN c.toNat = true) : schemeTail c = true := by unfold schemeTail; rw [h]; rfl
theorem st2 {c : UInt8} (h : digitN c.toNat = true) : schemeTail c = true := by unfold schemeTail; rw [h]; simp
theorem st3 {c : UInt8} (h : hasN [43, 45, 46] c.toNat = true) : schemeTail c = true := by unfold schemeTail; rw [h]; simp
theorem st0 {c : UInt8} (h1 : alphaN c.toNat = false) (h2 : digitN c.toNat = false) (h3 : hasN [43, 45, 46] c.toNat = false) : schemeTail c = false := by unfold schemeTail; rw [h1, h2, h3]; rfl
def lowerC (c : UInt8) : UInt8 := if 65 ≤ c.toNat ∧ c.toNat ≤ 90 then c + 32 else c
def lowerL (l : L) : L := l.map lowerC

/-! ### references in five parts -/
structure Ref where
  hs : Bool
  sc : L
  ha : Bool
  au : L
  pa : L
  hq : Bool
  qu : L
  hf : Bool
  fr : L
/-- the same with strings -/
structure RefB where
  hs : Bool
  sc : ByteArray
  ha : Bool
  au : ByteArray
  pa : ByteArray
  hq : Bool
  qu : ByteArray
  hf : Bool
  fr : ByteArray
def RefB.l (r : RefB) : Ref := ⟨r.hs, r.sc.data.toList, r.ha, r.au.data.toList, r.pa.data.toList, r.hq, r.qu.data.toList, r.hf, r.fr.data.toList⟩

def optIf {α : Type} (b : Bool) (x : α) : Option α := if b = true then some x else none
/-- the scheme, and what follows its colon -/
def split1 (s : L) : Option (L × L) :=
  let n := idx [58, 47, 63, 35] s
  if 0 < n ∧ s[n]? = some 58 then some (s.take n, s.drop (n + 1)) else none
/-- the authority, and what follows it -/
def split2 (s : L) : Option (L × L) :=
  if [47, 47].isPrefixOf s then some ((s.drop 2).take (idx [47, 63, 35] (s.drop 2)), (s.drop 2).drop (idx [47, 63, 35] (s.drop 2))) else none
/-- the query, and what follows it -/
def split4 (s : L) : Option (L × L) :=
  if [63].isPrefixOf s then some ((s.take (idx [35] s)).drop 1, s.drop (idx [35] s)) else none
def split5 (s : L) : Option L := if [35].isPrefixOf s then some (s.drop 1) else none
def splitF (s : L) : Ref :=
  let s1 := ((split1 s).map (·.2)).getD s
  let s2 := ((split2 s1).map (·.2)).getD s1
  let s3 := s2.drop (idx [63, 35] s2)
  let s4 := ((split4 s3).map (·.2)).getD s3
  { hs := (split1 s).isSome, sc := ((split1 s).map (·.1)).getD [], ha := (split2 s1).isSome, au := ((split2 s1).map (·.1)).getD [], pa := s2.take (idx [63, 35] s2),
    hq := (split4 s3).isSome, qu := ((split4 s3).map (·.1)).getD [], hf := (split5 s4).isSome, fr := (split5 s4).getD [] }
theorem splitF_glue {s s1 s2 s3 s4 sc au pa qu fr : L} {b b2 b4 b5 : Bool} {n : Nat} (h1 : split1 s = optIf b (sc, s1)) (f1 : b = false → s1 = s ∧ sc = []) (h2 : split2 s1 = optIf b2 (au, s2)) (f2 : b2 = false → s2 = s1 ∧ au = [])
    (hn : idx [63, 35] s2 = n) (hp : pa = s2.take n) (h3 : s3 = s2.drop n) (h4 : split4 s3 = optIf b4 (qu, s4)) (f4 : b4 = false → s4 = s3 ∧ qu = []) (h5 : split5 s4 = optIf b5 fr) (f5 : b5 = false → fr = []) :
    (⟨b, sc, b2, au, pa, b4, qu, b5, fr⟩ : Ref) = splitF s := by
  have e1 : ((split1 s).map (·.2)).getD s = s1 := by rw [h1]; cases b <;> simp [optIf] ; exact ((f1 rfl).1).symm
  have e2 : ((split2 s1).map (·.2)).getD s1 = s2 := by rw [h2]; cases b2 <;> simp [optIf] ; exact ((f2 rfl).1).symm
  have e4 : ((split4 s3).map (·.2)).getD s3 = s4 := by rw [h4]; cases b4 <;> simp [optIf] ; exact ((f4 rfl).1).symm
  unfold splitF
  simp only [e1, e2, hn, ← h3, e4, ← hp]
  rw [h1, h2, h4, h5]
  have g1 : (optIf b (sc, s1)).isSome = b := by cases b <;> rfl
  have g2 : ((optIf b (sc, s1)).map (·.1)).getD [] = sc := by cases b <;> simp [optIf]; exact (f1 rfl).2
  have g3 : (optIf b2 (au, s2)).isSome = b2 := by cases b2 <;> rfl
  have g4 : ((optIf b2 (au, s2)).map (·.1)).getD [] = au := by cases b2 <;> simp [optIf]; exact (f2 rfl).2
  have g5 : (optIf b4 (qu, s4)).isSome = b4 := by cases b4 <;> rfl
  have g6 : ((optIf b4 (qu, s4)).map (·.1)).getD [] = qu := by cases b4 <;> simp [optIf]; exact (f4 rfl).2
  have g7 : (optIf b5 fr).isSome = b5 := by cases b5 <;> rfl
  have g8 : (optIf b5 fr).getD [] = fr := by cases b5 <;> simp [optIf]; exact f5 rfl
  simp only [g1, g2, g3, g4, g5, g6, g7, g8]
end Go.Proofs.YtfkgkkmcaaefnaaGreatDoor.Pu
