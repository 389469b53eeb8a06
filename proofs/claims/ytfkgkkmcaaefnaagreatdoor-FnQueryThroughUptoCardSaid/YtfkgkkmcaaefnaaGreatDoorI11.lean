/-
  PLAIN: a reference in its parts, and what parse asks of it. No program text but the table's facts.
  PLAIN: what Split, Valid and Exact say of a reference, as parse asks it.
-/
import Derived.Test.YtfkgkkmcaaefnaaGreatDoorI10
import Derived.Test.YtfkgkkmcaaefnaaGreatDoorQ4
set_option linter.unusedSimpArgs false
set_option linter.unusedVariables false
namespace Go.Proofs.YtfkgkkmcaaefnaaGreatDoor.Wk
open Go.RowKit Go.Proofs.YtfkgkkmcaaefnaaGreatDoor.Pu

def hierF (r : Ref) : L := (if r.ha = true then 47 :: 47 :: r.au else []) ++ r.pa
def tailF (r : Ref) : L := if r.hq = true then 63 :: r.qu else []
def restF (r : Ref) : L := hierF r ++ tailF r
def preF (r : Ref) : L := (if r.hs = true then r.sc ++ [58] else []) ++ restF r
def fragF (r : Ref) : L := if r.hf = true then 35 :: r.fr else []
/-- what is known of a reference that is parsed here -/
structure Fine (r : Ref) : Prop where
  sch : r.hs = true → isScheme r.sc = true
  nsc : r.hs = false → r.sc = []
  pat : charsB [58, 64, 47] true r.pa = true
  que : charsB [58, 64, 47, 63] true r.qu = true
  fra : charsB [58, 64, 47, 63] true r.fr = true
  aut : r.ha = true → (authF r.au).ok = true ∧ (r.pa = [] ∨ r.pa[0]? = some 47)
  nau : r.ha = false → r.au = [] ∧ ([47, 47] : L).isPrefixOf r.pa = false ∧ (r.hs = true ∨ idx [58] (r.pa.take (idx [47] r.pa)) = idx [47] r.pa)
  nqu : r.hq = false → r.qu = []
  nfr : r.hf = false → r.fr = []
  emp : r.ha = true → r.hs = true ∨ r.au ≠ []

theorem ok_path : ∀ n, n < 256 → (n = 37 ∨ okN [58, 64, 47] n = true) → ctlN n = false ∧ n ≠ 63 ∧ n ≠ 35 := by
  intro n _ h
  unfold okN unresN alphaN digitN hasN subd at h
  simp only [List.any_cons, List.any_nil, Bool.or_false, Bool.or_eq_true, decide_eq_true_eq, beq_iff_eq, UInt8.reduceToNat] at h
  unfold ctlN
  rw [decide_eq_false_iff_not]
  omega
theorem ok_query : ∀ n, n < 256 → (n = 37 ∨ okN [58, 64, 47, 63] n = true) → ctlN n = false ∧ n ≠ 35 := by
  intro n _ h
  unfold okN unresN alphaN digitN hasN subd at h
  simp only [List.any_cons, List.any_nil, Bool.or_false, Bool.or_eq_true, decide_eq_true_eq, beq_iff_eq, UInt8.reduceToNat] at h
  unfold ctlN
  rw [decide_eq_false_iff_not]
  omega
theorem host_ctl : ∀ n, n < 256 → hostN n = true → ctlN n = false ∧ n ≠ 63 ∧ n ≠ 35 ∧ n ≠ 47 := by decide +kernel
theorem st_ctl (c : UInt8) (h : schemeTail c = true) : ctlN c.toNat = false ∧ c.toNat ≠ 63 ∧ c.toNat ≠ 35 ∧ c.toNat ≠ 47 ∧ c.toNat ≠ 58 ∧ c.toNat < 128 := by
  rw [st_num, decide_eq_true_iff] at h
  unfold ctlN
  rw [decide_eq_false_iff_not]
  omega
theorem host_good {h : L} (hh : hostF h = true) : ∀ c ∈ h, ctlN c.toNat = false ∧ c.toNat ≠ 63 ∧ c.toNat ≠ 35 ∧ c.toNat ≠ 47 := by
  intro c hc
  rcases host_cases hh with ⟨m, r, he, hv6, hport, _⟩ | ⟨hch, hport, _⟩
  · rw [he] at hc
    simp only [List.cons_append, List.mem_cons, List.mem_append] at hc
    rcases hc with rfl | hc | rfl | hc
    · decide
    · exact host_ctl _ c.toNat_lt (v6_host hv6 c hc).1
    · decide
    · exact host_ctl _ c.toNat_lt (port_host hport c hc).1
  · rw [← List.take_append_drop (idx [58] h) h, List.mem_append] at hc
    rcases hc with hc | hc
    · exact host_ctl _ c.toNat_lt (name_host hch c hc).1
    · exact host_ctl _ c.toNat_lt (port_host hport c hc).1
theorem auth_good {a : L} (h : (authF a).ok = true) : ∀ c ∈ a, ctlN c.toNat = false ∧ c.toNat ≠ 63 ∧ c.toNat ≠ 35 ∧ c.toNat ≠ 47 := by
  by_cases hat : idx [64] a < a.length
  · have ha1 : auth1 a = some (a.take (idx [64] a), a.drop (idx [64] a + 1)) := by unfold auth1; rw [if_pos hat]
    unfold authF at h
    rw [ha1] at h
    simp only at h
    by_cases hch : charsB [58] true (a.take (idx [64] a)) = true
    · rw [if_pos hch] at h
      intro c hc
      rw [cut_at 64 a hat, List.mem_append, List.mem_cons] at hc
      rcases hc with hc | rfl | hc
      · have := user_num c.toNat c.toNat_lt (ch_bytes _ hch c hc)
        unfold ctlN
        rw [decide_eq_false_iff_not]
        omega
      · decide
      · exact host_good h c hc
    · rw [if_neg hch] at h; simp at h
  · have ha1 : auth1 a = none := by unfold auth1; rw [if_neg hat]
    unfold authF at h
    rw [ha1] at h
    exact host_good h
theorem path_good {p : L} (h : charsB [58, 64, 47] true p = true) : ∀ c ∈ p, ctlN c.toNat = false ∧ c.toNat ≠ 63 ∧ c.toNat ≠ 35 := fun c hc => ok_path _ c.toNat_lt (ch_bytes p h c hc)
theorem query_good {p : L} (h : charsB [58, 64, 47, 63] true p = true) : ∀ c ∈ p, ctlN c.toNat = false ∧ c.toNat ≠ 35 := fun c hc => ok_query _ c.toNat_lt (ch_bytes p h c hc)
theorem hier_good {r : Ref} (h : Fine r) : ∀ c ∈ hierF r, ctlN c.toNat = false ∧ c.toNat ≠ 63 ∧ c.toNat ≠ 35 := by
  intro c hc
  unfold hierF at hc
  rw [List.mem_append] at hc
  rcases hc with hc | hc
  · cases ha : r.ha with
    | false => rw [ha] at hc; simp at hc
    | true =>
      rw [ha, if_pos rfl, List.mem_cons, List.mem_cons] at hc
      rcases hc with rfl | rfl | hc
      · decide
      · decide
      · have := auth_good (h.aut ha).1 c hc
        exact ⟨this.1, this.2.1, this.2.2.1⟩
  · exact path_good h.pat c hc
theorem rest_good {r : Ref} (h : Fine r) : ∀ c ∈ restF r, ctlN c.toNat = false ∧ c.toNat ≠ 35 := by
  intro c hc
  unfold restF tailF at hc
  rw [List.mem_append] at hc
  rcases hc with hc | hc
  · have := hier_good h c hc
    exact ⟨this.1, this.2.2⟩
  · split at hc
    · rw [List.mem_cons] at hc
      rcases hc with rfl | hc
      · decide
      · exact query_good h.que c hc
    · simp at hc
theorem sch_tail {s : L} (h : isScheme s = true) : ∀ c ∈ s, schemeTail c = true := by
  intro c hc
  cases s with
  | nil => simp at hc
  | cons a t =>
    rw [isScheme, Bool.and_eq_true] at h
    rw [List.mem_cons] at hc
    rcases hc with rfl | hc
    · exact st1 h.1
    · exact List.all_eq_true.1 h.2 c hc
theorem pre_good {r : Ref} (h : Fine r) : ∀ c ∈ preF r, ctlN c.toNat = false ∧ c.toNat ≠ 35 := by
  intro c hc
  unfold preF at hc
  rw [List.mem_append] at hc
  rcases hc with hc | hc
  · split at hc
    · rename_i hhs
      rw [List.mem_append, List.mem_singleton] at hc
      rcases hc with hc | rfl
      · have := st_ctl c (sch_tail (h.sch hhs) c hc)
        exact ⟨this.1, this.2.2.1⟩
      · decide
    · simp at hc
  · exact rest_good h c hc
theorem tw_len (p : UInt8 → Bool) : ∀ (a b : L), a.all p = true → (b = [] ∨ ∃ c t, b = c :: t ∧ p c = false) → (a ++ b).takeWhile p = a
  | [], b, _, h => by
    rcases h with rfl | ⟨c, t, rfl, hp⟩
    · rfl
    · rw [List.nil_append, List.takeWhile_cons, if_neg (by rw [hp]; decide)]
  | x :: a, b, ha, h => by
    rw [List.all_cons, Bool.and_eq_true] at ha
    rw [List.cons_append, List.takeWhile_cons, if_pos ha.1, tw_len p a b ha.2 h]
/-- no scheme: getScheme finds none -/
theorem no_scheme {r : Ref} (h : Fine r) (hs : r.hs = false) : (restF r)[((restF r).takeWhile schemeTail).length]? ≠ some 58 := by
  intro h58
  have hmem : ∀ k, k < ((restF r).takeWhile schemeTail).length → ∃ c, (restF r)[k]? = some c ∧ schemeTail c = true := by
    intro k hk
    have hp := List.takeWhile_prefix (l := restF r) schemeTail
    obtain ⟨t, ht⟩ := hp
    have e : (restF r)[k]? = ((restF r).takeWhile schemeTail)[k]? := by
      conv => lhs; rw [← ht]
      rw [List.getElem?_append_left hk]
    refine ⟨((restF r).takeWhile schemeTail)[k], by rw [e, List.getElem?_eq_getElem hk], ?_⟩
    have := List.all_takeWhile (p := schemeTail) (l := restF r)
    exact List.all_eq_true.1 this _ (List.getElem_mem hk)
  generalize ((restF r).takeWhile schemeTail).length = m at *
  cases ha : r.ha with
  | true =>
    have h0 : (restF r)[0]? = some 47 := by unfold restF hierF; rw [ha]; rfl
    rcases Nat.eq_zero_or_pos m with rfl | hm
    · rw [h0] at h58; exact absurd h58 (by decide)
    · obtain ⟨c, hc, hst⟩ := hmem 0 hm
      rw [h0] at hc
      rw [← Option.some.inj hc] at hst
      exact absurd hst (by decide)
  | false =>
    obtain ⟨_, _, hor⟩ := h.nau ha
    rw [hs] at hor
    have hidx : idx [58] (r.pa.take (idx [47] r.pa)) = idx [47] r.pa := by simpa using hor
    have hrf : restF r = r.pa ++ tailF r := by unfold restF hierF; rw [ha]; rfl
    by_cases hm : m < r.pa.length
    · have hpm : r.pa[m]? = some 58 := by rw [hrf, List.getElem?_append_left hm] at h58; exact h58
      have hge : ∀ k, k ≤ m → k ≤ idx [47] r.pa := by
        intro k
        induction k with
        | zero => intro _; omega
        | succ k ih =>
          intro hk
          obtain ⟨c, hc, hst⟩ := hmem k (by omega)
          rw [hrf, List.getElem?_append_left (by omega)] at hc
          refine idx_step [47] r.pa k c (ih (by omega)) hc ?_
          rw [inB_one]
          have := (st_ctl c hst).2.2.2.1
          rw [decide_eq_false_iff_not]
          intro e; rw [e] at this; exact this rfl
      have h1 := idx_step [47] r.pa m 58 (hge m (Nat.le_refl _)) hpm (by decide)
      have h2 := idx_none 58 (r.pa.take (idx [47] r.pa)) m (by rw [hidx]; omega)
      rw [List.getElem?_take, if_pos (by omega)] at h2
      exact h2 hpm
    · rcases Nat.lt_or_ge r.pa.length m with hlt | hge
      · obtain ⟨c, hc, hst⟩ := hmem r.pa.length hlt
        rw [hrf, List.getElem?_append_right (Nat.le_refl _), Nat.sub_self] at hc
        unfold tailF at hc
        split at hc
        · rw [← Option.some.inj hc] at hst; exact absurd hst (by decide)
        · simp at hc
      · have hme : m = r.pa.length := by omega
        rw [hrf, hme, List.getElem?_append_right (Nat.le_refl _), Nat.sub_self] at h58
        unfold tailF at h58
        split at h58
        · simp at h58
        · simp at h58
/-- the question mark at the end -/
theorem force_iff {r : Ref} (h : Fine r) : (([63] : L).isSuffixOf (restF r) && decide ((restF r).count 63 = 1)) = (r.hq && decide (r.qu = [])) := by
  have hc0 : (hierF r).count 63 = 0 := List.count_eq_zero.2 fun hm => (hier_good h 63 hm).2.1 rfl
  unfold restF tailF
  cases hq : r.hq with
  | false =>
    simp only [Bool.false_eq_true, if_false, List.append_nil, Bool.false_and]
    rw [hc0]; simp
  | true =>
    simp only [if_true, Bool.true_and]
    rw [List.count_append, hc0, List.count_cons_self]
    by_cases hqe : r.qu = []
    · rw [hqe, decide_eq_true rfl]
      simp
    · rw [decide_eq_false hqe, Bool.and_eq_false_iff]
      by_cases hcn : r.qu.count 63 = 0
      · left
        rw [Bool.eq_false_iff]
        intro hsuf
        obtain ⟨t, ht⟩ := List.isSuffixOf_iff_suffix.1 hsuf
        obtain ⟨q, c, hqc⟩ : ∃ q c, r.qu = q ++ [c] := ⟨r.qu.dropLast, r.qu.getLast hqe, (List.dropLast_concat_getLast hqe).symm⟩
        rw [hqc, show hierF r ++ 63 :: (q ++ [c]) = (hierF r ++ 63 :: q) ++ [c] by simp] at ht
        have := List.append_inj_right' ht (by simp)
        have : c = 63 := by simpa using this.symm
        rw [hqc, this, List.count_append] at hcn
        simp at hcn
      · right
        rw [decide_eq_false_iff_not]; omega
theorem cutQ {r : Ref} (h : Fine r) : cutF 63 (restF r) = (hierF r, r.qu, r.hq) := by
  have hno : ∀ c ∈ hierF r, c ≠ 63 := fun c hc e => (hier_good h c hc).2.1 (by rw [e]; rfl)
  unfold cutF restF tailF
  cases hq : r.hq with
  | false =>
    simp only [Bool.false_eq_true, if_false, List.append_nil]
    have : ¬ idx [63] (hierF r) < (hierF r).length := by
      intro hl
      exact hno _ (List.mem_of_getElem? (idx_at 63 _ hl)) rfl
    rw [if_neg this, h.nqu hq]
  | true =>
    simp only [if_true]
    have hi : idx [63] (hierF r ++ 63 :: r.qu) = (hierF r).length := by
      unfold idx
      rw [tw_len _ (hierF r) (63 :: r.qu) (List.all_eq_true.2 fun c hc => by rw [inB_one]; simpa using hno c hc) (Or.inr ⟨63, r.qu, rfl, by rw [inB_one]; simp⟩)]
    rw [hi, if_pos (by simp)]
    simp
end Go.Proofs.YtfkgkkmcaaefnaaGreatDoor.Wk
namespace Go.Proofs.YtfkgkkmcaaefnaaGreatDoor.Wk
open Go.RowKit Go.Proofs.YtfkgkkmcaaefnaaGreatDoor.Pu

theorem s1_eq (s : L) : s = (if (split1 s).isSome = true then ((split1 s).map (·.1)).getD [] ++ [58] else []) ++ ((split1 s).map (·.2)).getD s := by
  unfold split1
  by_cases h : 0 < idx [58, 47, 63, 35] s ∧ s[idx [58, 47, 63, 35] s]? = some 58
  · simp only [if_pos h, Option.isSome_some, Option.map_some, Option.getD_some, if_true]
    have hl := (List.getElem?_eq_some_iff.1 h.2).1
    have he := (List.getElem?_eq_some_iff.1 h.2).2
    conv => lhs; rw [← List.take_append_drop (idx [58, 47, 63, 35] s) s, List.drop_eq_getElem_cons hl, he]
    simp
  · simp only [if_neg h]; simp
theorem s2_eq (s : L) : s = (if (split2 s).isSome = true then 47 :: 47 :: ((split2 s).map (·.1)).getD [] else []) ++ ((split2 s).map (·.2)).getD s := by
  unfold split2
  cases h : ([47, 47] : L).isPrefixOf s with
  | true =>
    obtain ⟨t, rfl⟩ := List.isPrefixOf_iff_prefix.1 h
    simp
  | false => simp
theorem s4_eq (s : L) : s = (if (split4 s).isSome = true then 63 :: ((split4 s).map (·.1)).getD [] else []) ++ ((split4 s).map (·.2)).getD s := by
  unfold split4
  cases h : ([63] : L).isPrefixOf s with
  | true =>
    obtain ⟨t, rfl⟩ := List.isPrefixOf_iff_prefix.1 h
    have hi : idx [35] ([63] ++ t) = idx [35] t + 1 := by rw [List.singleton_append]; exact idx_miss _ _ _ (by decide)
    simp only [if_true, Option.isSome_some, Option.map_some, Option.getD_some, hi]
    simp
  | false => simp
theorem s5_eq (s : L) (h : s = [] ∨ s[0]? = some 35) : s = (if (split5 s).isSome = true then 35 :: (split5 s).getD [] else []) := by
  unfold split5
  rcases h with rfl | h
  · rfl
  · cases s with
    | nil => simp at h
    | cons a t =>
      have : a = 35 := by simpa using h
      subst this
      simp [List.isPrefixOf]
theorem drop_idx_head (set s : L) : s.drop (idx set s) = [] ∨ ∃ c t, s.drop (idx set s) = c :: t ∧ inB set c = true := by
  rw [drop_idx]
  cases h : s.dropWhile (fun c => !inB set c) with
  | nil => exact Or.inl rfl
  | cons c t =>
    right
    refine ⟨c, t, rfl, ?_⟩
    have := List.head_dropWhile_not (fun c => !inB set c) (l := s) (by rw [h]; simp)
    simp only [h, List.head_cons] at this
    simpa using this
theorem split_eq (s : L) : s = preF (splitF s) ++ fragF (splitF s) := by
  unfold preF restF hierF tailF fragF splitF
  simp only
  generalize e1 : ((split1 s).map (·.2)).getD s = s1
  generalize e2 : ((split2 s1).map (·.2)).getD s1 = s2
  generalize e3 : s2.drop (idx [63, 35] s2) = s3
  generalize e4 : ((split4 s3).map (·.2)).getD s3 = s4
  have h1 := s1_eq s
  have h2 := s2_eq s1
  have h4 := s4_eq s3
  rw [e1] at h1
  rw [e2] at h2
  rw [e4] at h4
  have h3 : s2 = s2.take (idx [63, 35] s2) ++ s3 := by rw [← e3, List.take_append_drop]
  have h5 : s4 = [] ∨ s4[0]? = some 35 := by
    have hd := drop_idx_head [63, 35] s2
    rw [e3] at hd
    rw [← e4]
    unfold split4
    cases hp : ([63] : L).isPrefixOf s3 with
    | true =>
      simp only [if_true, Option.map_some, Option.getD_some]
      rcases drop_idx_head [35] s3 with h | ⟨c, t, h, hc⟩
      · exact Or.inl h
      · right
        rw [h]
        rw [inB_one] at hc
        simpa using hc
    | false =>
      simp only [Bool.false_eq_true, if_false, Option.map_none, Option.getD_none]
      rcases hd with h | ⟨c, t, h, hc⟩
      · exact Or.inl h
      · right
        rw [h]
        rw [h] at hp
        have hc2 : c = 63 ∨ c = 35 := by
          unfold inB at hc
          simp only [List.any_cons, List.any_nil, Bool.or_false, Bool.or_eq_true, beq_iff_eq] at hc
          rcases hc with h | h
          · exact Or.inl h.symm
          · exact Or.inr h.symm
        rcases hc2 with rfl | rfl
        · simp [List.isPrefixOf] at hp
        · rfl
  have h6 := s5_eq s4 h5
  conv => lhs; rw [h1, h2, h3, h4, h6]
  simp [List.append_assoc]
theorem split_nil (s : L) : ((splitF s).hs = false → (splitF s).sc = []) ∧ ((splitF s).ha = false → (splitF s).au = []) ∧ ((splitF s).hq = false → (splitF s).qu = []) ∧ ((splitF s).hf = false → (splitF s).fr = []) := by
  unfold splitF
  simp only
  refine ⟨?_, ?_, ?_, ?_⟩
  · cases split1 s with
    | none => intro _; rfl
    | some x => intro h; simp at h
  · cases split2 (((split1 s).map (·.2)).getD s) with
    | none => intro _; rfl
    | some x => intro h; simp at h
  · generalize (split4 _) = o
    cases o with
    | none => intro _; rfl
    | some x => intro h; simp at h
  · generalize (split5 _) = o
    cases o with
    | none => intro _; rfl
    | some x => intro h; simp at h
/-- Valid, and an authority that is not empty where there is no scheme -/
theorem fine_of {s : L} (hv : validF (splitF s) = true) (he : (splitF s).ha = true → (splitF s).hs = true ∨ (splitF s).au ≠ []) : Fine (splitF s) := by
  obtain ⟨n1, n2, n3, n4⟩ := split_nil s
  generalize splitF s = r at *
  unfold validF goodC at hv
  simp only [Bool.and_eq_true] at hv
  obtain ⟨⟨⟨⟨h1, h2⟩, h3⟩, h4⟩, h5⟩ := hv
  refine ⟨fun h => ?_, n1, h2, h3, h4, fun h => ?_, fun h => ⟨n2 h, ?_⟩, n3, n4, he⟩
  · rw [h] at h1; simpa using h1
  · rw [if_pos h, Bool.and_eq_true] at h5
    refine ⟨h5.1, ?_⟩
    have := h5.2
    unfold pathA at this
    rw [Bool.or_eq_true, List.isEmpty_iff, decide_eq_true_iff] at this
    exact this
  · rw [if_neg (by rw [h]; decide)] at h5
    unfold pathN at h5
    rw [Bool.and_eq_true, Bool.not_eq_true', Bool.or_eq_true, decide_eq_true_iff] at h5
    exact h5
end Go.Proofs.YtfkgkkmcaaefnaaGreatDoor.Wk
