/-
  PLAIN LISTS OF BYTES: authorities; valid references.
-/
import Derived.Test.YtfkgkkmcaaefnaaGreatDoorPv
namespace Go.Proofs.YtfkgkkmcaaefnaaGreatDoor.Pu

structure Auth where
  hu : Bool
  us : L
  ho : L
  ok : Bool
def auth1 (s : L) : Option (L × L) := if idx [64] s < s.length then some (s.take (idx [64] s), s.drop (idx [64] s + 1)) else none
def portOk : L → Bool
  | [] => true
  | c :: r => r.all digC && decide (c.toNat = 58)
def hostF (h : L) : Bool :=
  if ([91] : L).isPrefixOf h = true then
    if idx [93] h = h.length then false else v6F ((h.take (idx [93] h)).drop 1) && portOk (h.drop (idx [93] h + 1))
  else charsB [] false (h.take (idx [58] h)) && portOk (h.drop (idx [58] h))
def authF (s : L) : Auth :=
  match auth1 s with
  | some (u, h) => if charsB [58] true u = true then ⟨true, u, h, hostF h⟩ else ⟨true, u, [], false⟩
  | none => ⟨false, [], s, hostF s⟩
theorem authF_bad {s u h : L} (h1 : auth1 s = some (u, h)) (hc : charsB [58] true u = false) : authF s = ⟨true, u, [], false⟩ := by
  unfold authF; rw [h1]; simp only [hc]; rfl
theorem authF_go {s u h : L} {hu : Bool} (h1 : auth1 s = optIf hu (u, h)) (h2 : if hu = true then charsB [58] true u = true else h = s ∧ u = []) : authF s = ⟨hu, u, h, hostF h⟩ := by
  unfold authF; rw [h1]
  cases hu
  · obtain ⟨e1, e2⟩ : h = s ∧ u = [] := h2
    subst e1 e2; rfl
  · have h3 : charsB [58] true u = true := h2
    show (if charsB [58] true u = true then _ else _) = _
    rw [if_pos h3]
theorem host_b1 {h : L} (hp : ([91] : L).isPrefixOf h = true) (hn : idx [93] h = h.length) : hostF h = false := by
  unfold hostF; rw [if_pos hp, if_pos hn]
theorem host_b {h : L} {n : Nat} (hp : ([91] : L).isPrefixOf h = true) (hn : idx [93] h = n) (hl : n < h.length) : hostF h = (v6F ((h.take n).drop 1) && portOk (h.drop (n + 1))) := by
  unfold hostF; rw [if_pos hp, hn, if_neg (by omega)]
theorem host_n {h : L} {n : Nat} (hp : ([91] : L).isPrefixOf h = false) (hn : idx [58] h = n) : hostF h = (charsB [] false (h.take n) && portOk (h.drop n)) := by
  unfold hostF; rw [if_neg (by rw [hp]; decide), hn]

def goodC (r : Ref) : Bool := (!r.hs || isScheme r.sc) && charsB [58, 64, 47] true r.pa && charsB [58, 64, 47, 63] true r.qu && charsB [58, 64, 47, 63] true r.fr
def pathA (p : L) : Bool := p.isEmpty || decide (p[0]? = some 47)
def pathN (hs : Bool) (p : L) : Bool := !([47, 47] : L).isPrefixOf p && (hs || decide (idx [58] (p.take (idx [47] p)) = idx [47] p))
def validF (r : Ref) : Bool := goodC r && (if r.ha = true then (authF r.au).ok && pathA r.pa else pathN r.hs r.pa)
def starF (r : Ref) : Bool := !r.hs && !r.ha && decide (r.pa = [37, 50, 65])
def exactU (u : L) : Bool := unresL (u.take (idx [58] u)) && (decide (idx [58] u = u.length) || unresL (u.drop (idx [58] u + 1)))
def exactF (r : Ref) : Bool := !(r.ha && (authF r.au).ho.isEmpty && ((authF r.au).hu || !r.hs || r.pa.isEmpty)) && exactU (authF r.au).us
def joinF (r : Ref) : L :=
  (if r.hs = true then r.sc ++ [58] else []) ++ (if r.ha = true then [47, 47] ++ r.au else []) ++ r.pa ++ (if r.hq = true then [63] ++ r.qu else []) ++ (if r.hf = true ∧ r.fr ≠ [] then [35] ++ r.fr else [])

def RefB.le (r : RefB) (N : Nat) : Prop := r.sc.size ≤ N ∧ r.au.size ≤ N ∧ r.pa.size ≤ N ∧ r.qu.size ≤ N ∧ r.fr.size ≤ N
def Ref.le (r : Ref) (N : Nat) : Prop := r.sc.length ≤ N ∧ r.au.length ≤ N ∧ r.pa.length ≤ N ∧ r.qu.length ≤ N ∧ r.fr.length ≤ N
theorem RefB.le_iff (r : RefB) (N : Nat) : r.l.le N ↔ r.le N := Iff.rfl
theorem split1_le {s a b : L} (h : split1 s = some (a, b)) : a.length ≤ s.length ∧ b.length ≤ s.length := by
  unfold split1 at h
  simp only at h
  split at h
  · have := Option.some.inj h
    simp only [Prod.mk.injEq] at this
    rw [← this.1, ← this.2, List.length_take, List.length_drop]; omega
  · cases h
theorem split2_le {s a b : L} (h : split2 s = some (a, b)) : a.length ≤ s.length ∧ b.length ≤ s.length := by
  unfold split2 at h
  split at h
  · have := Option.some.inj h
    simp only [Prod.mk.injEq] at this
    rw [← this.1, ← this.2]; simp only [List.length_take, List.length_drop]; omega
  · cases h
theorem split4_le {s a b : L} (h : split4 s = some (a, b)) : a.length ≤ s.length ∧ b.length ≤ s.length := by
  unfold split4 at h
  split at h
  · have := Option.some.inj h
    simp only [Prod.mk.injEq] at this
    rw [← this.1, ← this.2, List.length_drop, List.length_take, List.length_drop]; omega
  · cases h
theorem split5_le {s a : L} (h : split5 s = some a) : a.length ≤ s.length := by
  unfold split5 at h
  split at h
  · rw [← Option.some.inj h, List.length_drop]; omega
  · cases h
theorem opt_le {o : Option (L × L)} {s : L} {N : Nat} (h : ∀ a b, o = some (a, b) → a.length ≤ N ∧ b.length ≤ N) (hs : s.length ≤ N) :
    ((o.map (·.1)).getD []).length ≤ N ∧ ((o.map (·.2)).getD s).length ≤ N := by
  cases o with
  | none => exact ⟨Nat.zero_le _, hs⟩
  | some x => exact h x.1 x.2 rfl
theorem splitF_le (s : L) : (splitF s).le s.length := by
  have a1 := opt_le (o := split1 s) (s := s) (N := s.length) (fun a b h => split1_le h) (Nat.le_refl _)
  have a2 := opt_le (o := split2 (((split1 s).map (·.2)).getD s)) (s := ((split1 s).map (·.2)).getD s) (N := s.length) (fun a b h => ⟨Nat.le_trans (split2_le h).1 a1.2, Nat.le_trans (split2_le h).2 a1.2⟩) a1.2
  generalize e1 : ((split1 s).map (·.2)).getD s = s1 at *
  generalize e2 : ((split2 s1).map (·.2)).getD s1 = s2 at *
  have a3 : (s2.drop (idx [63, 35] s2)).length ≤ s.length := by rw [List.length_drop]; omega
  have a4 := opt_le (o := split4 (s2.drop (idx [63, 35] s2))) (s := s2.drop (idx [63, 35] s2)) (N := s.length) (fun a b h => ⟨Nat.le_trans (split4_le h).1 a3, Nat.le_trans (split4_le h).2 a3⟩) a3
  generalize e3 : s2.drop (idx [63, 35] s2) = s3 at *
  generalize e4 : ((split4 s3).map (·.2)).getD s3 = s4 at *
  unfold splitF Ref.le
  simp only [e1, e2, e3, e4]
  refine ⟨a1.1, a2.1, ?_, a4.1, ?_⟩
  · rw [List.length_take]; omega
  · cases h5 : split5 s4 with
    | none => exact Nat.zero_le _
    | some x => exact Nat.le_trans (split5_le h5) a4.2
theorem goodC_1 {r : Ref} (h : r.hs = true) (h2 : isScheme r.sc = false) : goodC r = false := by unfold goodC; rw [h, h2]; rfl
theorem goodC_2 {r : Ref} (h : charsB [58, 64, 47] true r.pa = false) : goodC r = false := by unfold goodC; rw [h]; simp
theorem goodC_3 {r : Ref} (h : charsB [58, 64, 47, 63] true r.qu = false) : goodC r = false := by unfold goodC; rw [h]; simp
theorem goodC_4 {r : Ref} (h : charsB [58, 64, 47, 63] true r.fr = false) : goodC r = false := by unfold goodC; rw [h]; simp
theorem goodC_y {r : Ref} (h1 : r.hs = true → isScheme r.sc = true) (h2 : charsB [58, 64, 47] true r.pa = true) (h3 : charsB [58, 64, 47, 63] true r.qu = true) (h4 : charsB [58, 64, 47, 63] true r.fr = true) : goodC r = true := by
  unfold goodC; rw [h2, h3, h4]
  cases h : r.hs
  · rfl
  · rw [h1 h]; rfl
end Go.Proofs.YtfkgkkmcaaefnaaGreatDoor.Pu
