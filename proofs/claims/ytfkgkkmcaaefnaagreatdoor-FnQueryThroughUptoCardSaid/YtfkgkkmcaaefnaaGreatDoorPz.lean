/-
  PLAIN LISTS OF BYTES: a path that is resolved, as the package does it, against remove_dot_segments. No program text.
-/
import Derived.Test.YtfkgkkmcaaefnaaGreatDoorPy
namespace Go.Proofs.YtfkgkkmcaaefnaaGreatDoor.Pu

theorem snoc_ind {P : L → Prop} (h0 : P []) (h1 : ∀ (b : L) (c : UInt8), P b → P (b ++ [c])) (l : L) : P l := by
  rw [← List.reverse_reverse l]
  induction l.reverse with
  | nil => exact h0
  | cons c b ih => rw [List.reverse_cons]; exact h1 _ _ ih
/-- one segment; the state is what lies behind the first slash, and whether nothing stands there yet -/
def rpStep (x : L) (st : L × Bool) : L × Bool :=
  if x = [46] then (st.1, false)
  else if x = [46, 46] then (dropSeg st.1, decide (dropSeg st.1 = []))
  else (if st.2 = true then st.1 ++ x else st.1 ++ 47 :: x, false)
def rpFin (x : L) (st : L × Bool) : L := if isDot x = true then (rpStep x st).1 ++ [47] else (rpStep x st).1
def rpOut : List L → L × Bool → L
  | [], st => st.1
  | [x], st => rpFin x st
  | x :: y :: r, st => rpOut (y :: r) (rpStep x st)
def lead (o : L) : L := if o[0]? = some 47 then o else 47 :: o
def rpF (full : L) : L := if full = [] then [] else lead (rpOut (segs 47 full) ([], true))

def rdS (x out : L) : L := if x = [46] then out else if x = [46, 46] then dropSeg out else out ++ 47 :: x
def rdFin (x out : L) : L := if isDot x = true then rdS x out ++ [47] else rdS x out
def rdOut : List L → L → L
  | [], out => out
  | [x], out => rdFin x out
  | x :: y :: r, out => rdOut (y :: r) (rdS x out)

theorem rpOut_cons {x : L} {l : List L} {st : L × Bool} (h : l ≠ []) : rpOut (x :: l) st = rpOut l (rpStep x st) := by
  cases l with
  | nil => exact absurd rfl h
  | cons y r => rfl
theorem rdOut_cons {x : L} {l : List L} {out : L} (h : l ≠ []) : rdOut (x :: l) out = rdOut l (rdS x out) := by
  cases l with
  | nil => exact absurd rfl h
  | cons y r => rfl
theorem isDot_iff (x : L) : isDot x = true ↔ x = [46] ∨ x = [46, 46] := by
  unfold isDot; rw [Bool.or_eq_true, beq_iff_eq, beq_iff_eq]
/-- the string around its first c -/
theorem cut_at (c : UInt8) : ∀ s : L, idx [c] s < s.length → s = s.take (idx [c] s) ++ c :: s.drop (idx [c] s + 1)
  | [], h => by simp at h
  | a :: r, h => by
    by_cases ha : a = c
    · rw [idx_hit _ _ _ (by rw [inB_one]; simpa using ha)]; simp [ha]
    · rw [idx_miss _ _ _ (by rw [inB_one]; simpa using ha)] at h ⊢
      conv => lhs; rw [cut_at c r (by simpa using h)]
      simp

/-! remove_dot_segments by segments -/
theorem rd_segs : ∀ (m k : Nat) (q out : L), q.length ≤ m → q.length + 1 ≤ k → rdF k (47 :: q) out = rdOut (segs 47 q) out := by
  intro m
  induction m with
  | zero =>
    intro k q out hm hk
    have : q = [] := List.length_eq_zero_iff.1 (by omega)
    subst this
    obtain ⟨k, rfl⟩ : ∃ j, k = j + 1 := ⟨k - 1, by simp at hk; omega⟩
    rw [rdF_go (by simp) (rs8 (by rfl) (by rfl) (by rfl) (by simp) (by rfl) (by simp) (by simp))]
    simp [rdF_nil, idx_nil, segs, rdOut, rdFin, rdS, isDot]
  | succ m ih =>
    intro k q out hm hk
    by_cases hl : idx [47] q < q.length
    · rw [segs_cut 47 q hl, rdOut_cons (segs_ne _ _)]
      have hc := cut_at 47 q hl
      have hr : (q.drop (idx [47] q + 1)).length + idx [47] q + 1 = q.length := by rw [List.length_drop]; omega
      have hx : ¬ (47 : UInt8) ∈ q.take (idx [47] q) := by
        rw [take_idx]
        intro hmem
        have := List.all_takeWhile (p := fun c => !inB [47] c) (l := q)
        rw [List.all_eq_true] at this
        have := this _ hmem
        simp [inB_one] at this
      have hxl : (q.take (idx [47] q)).length = idx [47] q := by rw [List.length_take]; omega
      generalize q.take (idx [47] q) = x at *
      generalize q.drop (idx [47] q + 1) = r at *
      obtain ⟨k, rfl⟩ : ∃ j, k = j + 1 := ⟨k - 1, by omega⟩
      by_cases h1 : x = [46]
      · subst h1
        rw [hc, rdF_go (p' := 47 :: r) (out' := out) (by simp) (by rw [rs3 (by rfl) (by rfl) (by simp)]; rfl), ih k r out (by omega) (by omega)]
        rfl
      · by_cases h2 : x = [46, 46]
        · subst h2
          rw [hc, rdF_go (p' := 47 :: r) (out' := dropSeg out) (by simp) (by rw [rs5 (by rfl) (by simp)]; rfl), ih k r _ (by omega) (by omega)]
          rfl
        · have e8 : rdStep (47 :: q) out = (47 :: r, out ++ 47 :: x) := by
            have n1 : ([46, 46, 47] : L).isPrefixOf (47 :: q) = false := by rfl
            have n2 : ([46, 47] : L).isPrefixOf (47 :: q) = false := by rfl
            have n3 : ([47, 46, 47] : L).isPrefixOf (47 :: q) = false := by
              rw [Bool.eq_false_iff]; intro h
              obtain ⟨t, ht⟩ := List.isPrefixOf_iff_prefix.1 h
              rw [hc] at ht
              simp only [List.cons_append, List.nil_append, List.cons.injEq, true_and] at ht
              match x, ht with
              | [], ht => simp at ht
              | [a], ht => simp at ht; exact h1 (by rw [← ht.1])
              | a :: b :: t', ht => simp at ht; exact hx (by rw [← ht.2.1]; simp)
            have n4 : ¬ 47 :: q = [47, 46] := by
              intro h
              have h : q = [46] := by simpa using h
              rw [h] at hl; simp [idx, inB] at hl
            have n5 : ([47, 46, 46, 47] : L).isPrefixOf (47 :: q) = false := by
              rw [Bool.eq_false_iff]; intro h
              obtain ⟨t, ht⟩ := List.isPrefixOf_iff_prefix.1 h
              rw [hc] at ht
              simp only [List.cons_append, List.nil_append, List.cons.injEq, true_and] at ht
              match x, ht with
              | [], ht => simp at ht
              | [a], ht => simp at ht
              | [a, b], ht => simp at ht; exact h2 (by rw [← ht.1, ← ht.2.1])
              | a :: b :: c :: t', ht => simp at ht; exact hx (by rw [← ht.2.2.1]; simp)
            have n6 : ¬ 47 :: q = [47, 46, 46] := by
              intro h
              have h : q = [46, 46] := by simpa using h
              rw [h] at hl; simp [idx, inB] at hl
            rw [rs8 n1 n2 n3 n4 n5 n6 (by simp)]
            rw [List.drop_one, List.tail_cons, Nat.add_comm 1, List.drop_succ_cons, List.take_succ_cons]
            conv => lhs; rw [hc]
            rw [← hc, ← hxl]
            conv => lhs; rw [hc]
            rw [List.drop_left, List.take_left]
          rw [rdF_go (by simp) e8, ih k r _ (by omega) (by omega)]
          congr 1
          unfold rdS; rw [if_neg h1, if_neg h2]
    · have hle := idx_le [47] q
      have he : idx [47] q = q.length := by omega
      rw [segs_last 47 q he]
      show _ = rdFin q out
      obtain ⟨k, rfl⟩ : ∃ j, k = j + 1 := ⟨k - 1, by omega⟩
      by_cases h1 : q = [46]
      · subst h1
        rw [rdF_go (by simp) (rs4 rfl)]
        obtain ⟨k, rfl⟩ : ∃ j, k = j + 1 := ⟨k - 1, by simp at hk; omega⟩
        rw [rdF_go (by simp) (rs8 (by rfl) (by rfl) (by rfl) (by simp) (by rfl) (by simp) (by simp))]
        simp [rdF_nil, idx_nil, rdFin, rdS, isDot]
      · by_cases h2 : q = [46, 46]
        · subst h2
          rw [rdF_go (by simp) (rs6 rfl)]
          obtain ⟨k, rfl⟩ : ∃ j, k = j + 1 := ⟨k - 1, by simp at hk; omega⟩
          rw [rdF_go (by simp) (rs8 (by rfl) (by rfl) (by rfl) (by simp) (by rfl) (by simp) (by simp))]
          simp [rdF_nil, idx_nil, rdFin, rdS, isDot]
        · have hx : ¬ (47 : UInt8) ∈ q := by
            intro hmem
            have : idx [47] q < q.length := (idx_lt [47] q).2 (List.any_eq_true.2 ⟨47, hmem, by decide⟩)
            omega
          rw [rdF_go (by simp) (rs8 (by rfl) (by rfl) ?_ (by simpa using h1) ?_ (by simpa using h2) (by simp))]
          · rw [List.drop_one, List.tail_cons, he, Nat.add_comm 1, List.drop_succ_cons, List.take_succ_cons, List.drop_length, List.take_length, rdF_nil]
            unfold rdFin rdS
            rw [if_neg (by rw [isDot_iff]; rintro (h | h) <;> contradiction), if_neg h1, if_neg h2]
          · rw [Bool.eq_false_iff]; intro h
            obtain ⟨t, ht⟩ := List.isPrefixOf_iff_prefix.1 h
            have : q = 46 :: 47 :: t := by simpa using ht.symm
            exact hx (by rw [this]; simp)
          · rw [Bool.eq_false_iff]; intro h
            obtain ⟨t, ht⟩ := List.isPrefixOf_iff_prefix.1 h
            have : q = 46 :: 46 :: 47 :: t := by simpa using ht.symm
            exact hx (by rw [this]; simp)
theorem removeDots_segs (q : L) : removeDots (47 :: q) = rdOut (segs 47 q) [] := rd_segs q.length _ q [] (Nat.le_refl _) (by simp)
theorem removeDots_nil : removeDots [] = [] := rfl

/-! the two, side by side -/
structure Rel (k : Nat) (out O : L) (f : Bool) : Prop where
  eq : out = List.replicate k 47 ++ O
  fst : f = true → O = []
  sync : k = 0 → f = false → O = [] ∨ O[0]? = some 47
theorem lastSl_app (a b : L) : lastSl (a ++ b) = if lastSl b = 0 then lastSl a else a.length + lastSl b := by
  refine snoc_ind (P := fun b => lastSl (a ++ b) = if lastSl b = 0 then lastSl a else a.length + lastSl b) ?_ ?_ b
  · simp [lastSl_nil]
  · intro b c ih
    rw [← List.append_assoc, lastSl_snoc, lastSl_snoc]
    by_cases h : c = 47
    · rw [if_pos h, if_pos h, if_neg (by omega), List.length_append]; omega
    · rw [if_neg h, if_neg h, ih]
theorem lastSl_rep (k : Nat) : lastSl (List.replicate k 47) = k := by
  cases k with
  | zero => rfl
  | succ k => rw [List.replicate_succ', lastSl_snoc, if_pos rfl, List.length_replicate]
theorem Rel.step {k : Nat} {out O : L} {f : Bool} (h : Rel k out O f) (x : L) : ∃ k', Rel k' (rdS x out) (rpStep x (O, f)).1 (rpStep x (O, f)).2 := by
  obtain ⟨he, hf, hs⟩ := h
  unfold rdS rpStep
  by_cases h1 : x = [46]
  · rw [if_pos h1, if_pos h1]
    refine ⟨k, he, (fun h => by cases h), fun hk _ => ?_⟩
    cases f
    · exact hs hk rfl
    · exact Or.inl (hf rfl)
  · rw [if_neg h1, if_neg h1]
    by_cases h2 : x = [46, 46]
    · rw [if_pos h2, if_pos h2]
      by_cases hz : lastSl O = 0
      · have hd : dropSeg O = [] := by unfold dropSeg; rw [hz]; rfl
        refine ⟨k - 1, ?_, (fun _ => hd), ?_⟩
        · show dropSeg out = _ ++ dropSeg O
          rw [hd, List.append_nil, he]
          unfold dropSeg
          rw [lastSl_app, if_pos hz, lastSl_rep, List.take_append_of_le_length (by rw [List.length_replicate]; omega), List.take_replicate]
          congr 1; omega
        · intro _ h
          simp [hd] at h
      · refine ⟨k, ?_, ?_, ?_⟩
        · show dropSeg out = _ ++ dropSeg O
          rw [he]
          unfold dropSeg
          rw [lastSl_app, if_neg hz, List.length_replicate, List.take_append, List.length_replicate, List.take_of_length_le (by rw [List.length_replicate]; omega)]
          congr 2; omega
        · intro h; simpa using h
        · intro hk h
          have hne : dropSeg O ≠ [] := by simpa using h
          right
          have hO : O ≠ [] := fun e => hne (by rw [e]; rfl)
          have hff : f = false := by
            cases f
            · rfl
            · exact absurd (hf rfl) hO
          rcases hs hk hff with h | h
          · exact absurd h hO
          · show (dropSeg O)[0]? = _
            unfold dropSeg at hne ⊢
            rw [List.getElem?_take, if_pos]
            · exact h
            · rcases Nat.eq_zero_or_pos (lastSl O - 1) with h0 | h0
              · rw [h0] at hne; exact absurd rfl hne
              · exact h0
    · rw [if_neg h2, if_neg h2]
      cases f
      · refine ⟨k, ?_, (fun h => by cases h), fun hk _ => Or.inr ?_⟩
        · simp [he]
        · simp only [Bool.false_eq_true, if_false]
          rcases hs hk rfl with h | h
          · rw [h]; rfl
          · cases O with
            | nil => rfl
            | cons a t => simpa using h
      · have hO := hf rfl
        refine ⟨k + 1, ?_, (fun h => by cases h), fun hk _ => by omega⟩
        rw [he, hO, List.replicate_succ']
        simp
theorem Rel.fin {k : Nat} {out O : L} {f : Bool} (h : Rel k out O f) (x : L) : ∃ k', rdFin x out = List.replicate k' 47 ++ rpFin x (O, f) ∧ (k' = 0 → (rpFin x (O, f)) = [] ∨ (rpFin x (O, f))[0]? = some 47) := by
  obtain ⟨k', h'⟩ := h.step x
  unfold rdFin rpFin
  generalize rpStep x (O, f) = st at *
  obtain ⟨O', f'⟩ := st
  by_cases hd : isDot x = true
  · rw [if_pos hd, if_pos hd]
    refine ⟨k', by rw [h'.eq]; simp, fun hk => Or.inr ?_⟩
    have : O' = [] ∨ O'[0]? = some 47 := by
      cases f'
      · exact h'.sync hk rfl
      · exact Or.inl (h'.fst rfl)
    rcases this with h | h
    · show (O' ++ [47])[0]? = _
      rw [h]; rfl
    · show (O' ++ [47])[0]? = _
      cases O' with
      | nil => rfl
      | cons a t => simpa using h
  · rw [if_neg hd, if_neg hd]
    refine ⟨k', h'.eq, fun hk => ?_⟩
    cases f'
    · exact h'.sync hk rfl
    · exact Or.inl (h'.fst rfl)
theorem Rel.all : ∀ (l : List L) {k : Nat} {out O : L} {f : Bool}, l ≠ [] → Rel k out O f → ∃ k', rdOut l out = List.replicate k' 47 ++ rpOut l (O, f) ∧ (k' = 0 → rpOut l (O, f) = [] ∨ (rpOut l (O, f))[0]? = some 47)
  | [], _, _, _, _, h, _ => absurd rfl h
  | [x], _, _, _, _, _, h => h.fin x
  | x :: y :: r, k, out, O, f, _, h => by
    obtain ⟨k', h'⟩ := h.step x
    exact Rel.all (y :: r) (by simp) h'
theorem rdFin_head (x out : L) (h : out = [] ∨ out[0]? = some 47) : (rdFin x out)[0]? = some 47 := by
  have hs : rdS x out = [] ∨ (rdS x out)[0]? = some 47 := by
    unfold rdS
    split
    · exact h
    · split
      · unfold dropSeg
        rcases h with h | h
        · left; rw [h]; rfl
        · cases hm : lastSl out - 1 with
          | zero => left; rfl
          | succ m => right; rw [List.getElem?_take, if_pos (by omega)]; exact h
      · right
        rcases h with h | h
        · rw [h]; rfl
        · cases out with
          | nil => rfl
          | cons a t => simpa using h
  unfold rdFin
  split
  · rcases hs with h | h
    · rw [h]; rfl
    · cases hq : rdS x out with
      | nil => rfl
      | cons a t => rw [hq] at h; simpa using h
  · rename_i hd
    unfold rdS
    rw [if_neg (fun e => hd ((isDot_iff x).2 (Or.inl e))), if_neg (fun e => hd ((isDot_iff x).2 (Or.inr e)))]
    rcases h with h | h
    · rw [h]; rfl
    · cases out with
      | nil => rfl
      | cons a t => simpa using h
theorem rdS_head (x out : L) (h : out = [] ∨ out[0]? = some 47) : rdS x out = [] ∨ (rdS x out)[0]? = some 47 := by
  unfold rdS
  split
  · exact h
  · split
    · unfold dropSeg
      rcases h with h | h
      · left; rw [h]; rfl
      · cases hm : lastSl out - 1 with
        | zero => left; rfl
        | succ m => right; rw [List.getElem?_take, if_pos (by omega)]; exact h
    · right
      rcases h with h | h
      · rw [h]; rfl
      · cases out with
        | nil => rfl
        | cons a t => simpa using h
theorem rdOut_head : ∀ (l : List L) (out : L), l ≠ [] → (out = [] ∨ out[0]? = some 47) → (rdOut l out)[0]? = some 47
  | [], _, h, _ => absurd rfl h
  | [x], out, _, h => rdFin_head x out h
  | x :: y :: r, out, _, h => rdOut_head (y :: r) _ (by simp) (rdS_head x out h)
theorem rp_rd {l : List L} (hl : l ≠ []) {f : Bool} (h2 : ([47, 47] : L).isPrefixOf (rdOut l []) = false) : lead (rpOut l ([], f)) = rdOut l [] := by
  have h0 : Rel 0 [] [] f := ⟨rfl, (fun _ => rfl), (fun _ _ => Or.inl rfl)⟩
  obtain ⟨k, he, hs⟩ := Rel.all l hl h0
  have hh := rdOut_head l [] hl (Or.inl rfl)
  generalize rdOut l [] = out at *
  generalize rpOut l ([], f) = O at *
  unfold lead
  match k with
  | 0 =>
    have : out = O := by rw [he]; rfl
    rw [← this, if_pos hh]
  | 1 =>
    have e : out = 47 :: O := by rw [he]; rfl
    rw [if_neg, e]
    intro h
    rw [e] at h2
    cases O with
    | nil => simp at h
    | cons a t => simp at h; rw [h] at h2; simp at h2
  | k + 2 =>
    exfalso
    rw [he, List.replicate_succ, List.replicate_succ] at h2
    simp at h2
/-- a path that begins with a slash -/
theorem rpF_abs (q : L) (h2 : ([47, 47] : L).isPrefixOf (removeDots (47 :: q)) = false) : rpF (47 :: q) = removeDots (47 :: q) := by
  rw [removeDots_segs] at h2 ⊢
  unfold rpF
  rw [if_neg (by simp)]
  have e : segs 47 (47 :: q) = [] :: segs 47 q := by rw [segs, if_pos rfl]
  rw [e, rpOut_cons (segs_ne _ _)]
  exact rp_rd (segs_ne _ _) h2
theorem rpF_rel (q : L) (hq : q ≠ []) (h2 : ([47, 47] : L).isPrefixOf (removeDots (47 :: q)) = false) : rpF q = removeDots (47 :: q) := by
  rw [removeDots_segs] at h2 ⊢
  unfold rpF
  rw [if_neg hq]
  exact rp_rd (segs_ne _ _) h2

/-! no dots -/
def slashed (l : List L) : L := l.flatMap (fun x => 47 :: x)
theorem slashed_segs : ∀ (m : Nat) (q : L), q.length ≤ m → slashed (segs 47 q) = 47 :: q := by
  intro m
  induction m with
  | zero =>
    intro q hq
    have : q = [] := List.length_eq_zero_iff.1 (by omega)
    subst this; rfl
  | succ m ih =>
    intro q hq
    by_cases hl : idx [47] q < q.length
    · rw [segs_cut 47 q hl]
      unfold slashed
      rw [List.flatMap_cons]
      have := ih (q.drop (idx [47] q + 1)) (by rw [List.length_drop]; omega)
      unfold slashed at this
      rw [this]
      conv => rhs; rw [cut_at 47 q hl]
      simp
    · have := idx_le [47] q
      rw [segs_last 47 q (by omega)]
      simp [slashed]
theorem rd_nodots : ∀ (l : List L) (out : L), l ≠ [] → l.any isDot = false → rdOut l out = out ++ slashed l
  | [], _, h, _ => absurd rfl h
  | [x], out, _, h => by
    have h : isDot x = false := by simpa using h
    have h' : ¬ isDot x = true := by rw [h]; decide
    unfold rdOut rdFin rdS slashed
    rw [if_neg h', if_neg (fun e => h' ((isDot_iff x).2 (Or.inl e))), if_neg (fun e => h' ((isDot_iff x).2 (Or.inr e)))]
    simp
  | x :: y :: r, out, _, h => by
    rw [List.any_cons, Bool.or_eq_false_iff] at h
    have h' : ¬ isDot x = true := by rw [h.1]; decide
    rw [rdOut_cons (by simp), rd_nodots (y :: r) _ (by simp) h.2]
    unfold rdS
    rw [if_neg (fun e => h' ((isDot_iff x).2 (Or.inl e))), if_neg (fun e => h' ((isDot_iff x).2 (Or.inr e)))]
    simp [slashed]
theorem rp_nodots : ∀ (l : List L) (out : L), l ≠ [] → l.any isDot = false → rpOut l (out, false) = out ++ slashed l
  | [], _, h, _ => absurd rfl h
  | [x], out, _, h => by
    have h : isDot x = false := by simpa using h
    have h' : ¬ isDot x = true := by rw [h]; decide
    unfold rpOut rpFin rpStep slashed
    rw [if_neg h', if_neg (fun e => h' ((isDot_iff x).2 (Or.inl e))), if_neg (fun e => h' ((isDot_iff x).2 (Or.inr e)))]
    simp
  | x :: y :: r, out, _, h => by
    rw [List.any_cons, Bool.or_eq_false_iff] at h
    have h' : ¬ isDot x = true := by rw [h.1]; decide
    rw [rpOut_cons (by simp)]
    unfold rpStep
    rw [if_neg (fun e => h' ((isDot_iff x).2 (Or.inl e))), if_neg (fun e => h' ((isDot_iff x).2 (Or.inr e)))]
    rw [if_neg (by simp), rp_nodots (y :: r) _ (by simp) h.2]
    simp [slashed]
theorem dots_tail {q : L} (h : dotsB (47 :: q) = false) : (segs 47 q).any isDot = false := by
  unfold dotsB at h
  rw [segs, if_pos rfl, List.any_cons, Bool.or_eq_false_iff] at h
  exact h.2
theorem removeDots_id {p : L} (hp : p = [] ∨ p[0]? = some 47) (h : dotsB p = false) : removeDots p = p := by
  cases p with
  | nil => rfl
  | cons a q =>
    have : a = 47 := by simpa using hp
    subst this
    rw [removeDots_segs, rd_nodots _ _ (segs_ne _ _) (dots_tail h), slashed_segs _ q (Nat.le_refl _)]; rfl
theorem rpF_id {p : L} (hp : p = [] ∨ p[0]? = some 47) (h : dotsB p = false) : rpF p = p := by
  cases p with
  | nil => rfl
  | cons a q =>
    have : a = 47 := by simpa using hp
    subst this
    unfold rpF
    rw [if_neg (by simp)]
    have e : segs 47 (47 :: q) = [] :: segs 47 q := by rw [segs, if_pos rfl]
    rw [e, rpOut_cons (segs_ne _ _), show rpStep [] ([], true) = ([], false) by rfl, rp_nodots _ _ (segs_ne _ _) (dots_tail h), slashed_segs _ q (Nat.le_refl _)]
    rfl

/-! what stays good -/
theorem ch_split {more : L} (h47 : okN more 47 = true) : ∀ (a b : L), charsB more true (a ++ 47 :: b) = (charsB more true a && charsB more true b)
  | [], b => by
    rw [List.nil_append, ch_else _ _ _ _ (by decide), show (47 : UInt8).toNat = 47 from rfl, h47]; rfl
  | c :: r, b => by
    by_cases h37 : c.toNat = 37
    · match r with
      | [] =>
        rw [ch_short _ _ _ [] h37 (by simp)]
        cases b with
        | nil => rw [show [c] ++ [47] = c :: [47] from rfl, ch_short _ _ _ _ h37 (by simp)]; rfl
        | cons y b => rw [show [c] ++ 47 :: y :: b = c :: 47 :: y :: b from rfl, ch_pct _ _ _ _ _ _ h37, show isHex 47 = false by decide]; simp
      | [x] =>
        rw [ch_short _ _ _ [x] h37 (by simp), show [c, x] ++ 47 :: b = c :: x :: 47 :: b from rfl, ch_pct _ _ _ _ _ _ h37, show isHex 47 = false by decide]; simp
      | x :: y :: r' =>
        rw [show (c :: x :: y :: r') ++ 47 :: b = c :: x :: y :: (r' ++ 47 :: b) from rfl, ch_pct _ _ _ _ _ _ h37, ch_pct _ _ _ _ _ _ h37, ch_split h47 r' b]
        simp [Bool.and_assoc]
    · rw [List.cons_append, ch_else _ _ _ _ h37, ch_else _ _ _ _ h37, ch_split h47 r b, Bool.and_assoc]
termination_by a => a.length
theorem ch_app {more : L} : ∀ (a b : L), charsB more true a = true → charsB more true b = true → charsB more true (a ++ b) = true
  | [], b, _, h => h
  | c :: r, b, ha, hb => by
    by_cases h37 : c.toNat = 37
    · match r with
      | [] => rw [ch_short _ _ _ [] h37 (by simp)] at ha; exact absurd ha (by decide)
      | [x] => rw [ch_short _ _ _ [x] h37 (by simp)] at ha; exact absurd ha (by decide)
      | x :: y :: r' =>
        rw [ch_pct _ _ _ _ _ _ h37] at ha
        rw [show (c :: x :: y :: r') ++ b = c :: x :: y :: (r' ++ b) from rfl, ch_pct _ _ _ _ _ _ h37]
        simp only [Bool.and_eq_true] at ha ⊢
        exact ⟨ha.1, ch_app r' b ha.2 hb⟩
    · rw [ch_else _ _ _ _ h37, Bool.and_eq_true] at ha
      rw [List.cons_append, ch_else _ _ _ _ h37, Bool.and_eq_true]
      exact ⟨ha.1, ch_app r b ha.2 hb⟩
termination_by a => a.length
theorem ch_segs {more : L} (h47 : okN more 47 = true) : ∀ (m : Nat) (q : L), q.length ≤ m → charsB more true q = true → ∀ x ∈ segs 47 q, charsB more true x = true := by
  intro m
  induction m with
  | zero =>
    intro q hq h x hx
    have : q = [] := List.length_eq_zero_iff.1 (by omega)
    subst this
    simp [segs] at hx
    rw [hx]; rfl
  | succ m ih =>
    intro q hq h x hx
    by_cases hl : idx [47] q < q.length
    · rw [cut_at 47 q hl, ch_split h47, Bool.and_eq_true] at h
      rw [segs_cut 47 q hl, List.mem_cons] at hx
      rcases hx with rfl | hx
      · exact h.1
      · exact ih _ (by rw [List.length_drop]; omega) h.2 x hx
    · have := idx_le [47] q
      rw [segs_last 47 q (by omega), List.mem_singleton] at hx
      rw [hx]; exact h
/-- a list around its last slash -/
theorem cut_last (l : L) (h : lastSl l ≠ 0) : l = dropSeg l ++ 47 :: l.drop (lastSl l) := by
  revert h
  refine snoc_ind (P := fun l => lastSl l ≠ 0 → l = dropSeg l ++ 47 :: l.drop (lastSl l)) ?_ ?_ l
  · intro h; exact absurd rfl h
  · intro b c ih h
    rw [lastSl_snoc] at h
    by_cases hc : c = 47
    · unfold dropSeg
      rw [lastSl_snoc, if_pos hc, hc]
      simp
    · rw [if_neg hc] at h
      have := ih h
      have hle := lastSl_le b
      unfold dropSeg at this ⊢
      rw [lastSl_snoc, if_neg hc, List.take_append_of_le_length (by omega), List.drop_append_of_le_length hle]
      conv => lhs; rw [this]
      simp
theorem ch_drop {more : L} (h47 : okN more 47 = true) {l : L} (h : charsB more true l = true) : charsB more true (dropSeg l) = true := by
  by_cases hz : lastSl l = 0
  · unfold dropSeg; rw [hz]; rfl
  · rw [cut_last l hz, ch_split h47, Bool.and_eq_true] at h
    exact h.1
theorem ch_step {more : L} (h47 : okN more 47 = true) {x O : L} {f : Bool} (hx : charsB more true x = true) (h : charsB more true O = true) : charsB more true (rpStep x (O, f)).1 = true := by
  unfold rpStep
  split
  · exact h
  · split
    · exact ch_drop h47 h
    · show charsB more true (if f = true then O ++ x else O ++ 47 :: x) = true
      split
      · exact ch_app _ _ h hx
      · rw [ch_split h47, h, hx]; rfl
theorem ch_out {more : L} (h47 : okN more 47 = true) : ∀ (l : List L) (O : L) (f : Bool), (∀ x ∈ l, charsB more true x = true) → charsB more true O = true → charsB more true (rpOut l (O, f)) = true
  | [], _, _, _, h => h
  | [x], O, f, hl, h => by
    have := ch_step h47 (f := f) (hl x (by simp)) h
    unfold rpOut rpFin
    split
    · rw [show ([47] : L) = 47 :: [] from rfl, ch_split h47, this]; rfl
    · exact this
  | x :: y :: r, O, f, hl, h => by
    rw [rpOut_cons (by simp)]
    have := ch_step h47 (f := f) (hl x (by simp)) h
    exact ch_out h47 (y :: r) _ _ (fun z hz => hl z (List.mem_cons_of_mem _ hz)) this
theorem ch_rpF {more : L} (h47 : okN more 47 = true) {q : L} (h : charsB more true q = true) : charsB more true (rpF q) = true := by
  unfold rpF
  split
  · rfl
  · have := ch_out h47 (segs 47 q) [] true (ch_segs h47 _ q (Nat.le_refl _) h) rfl
    unfold lead
    split
    · exact this
    · rw [ch_else _ _ _ _ (by decide), show (47 : UInt8).toNat = 47 from rfl, h47, this]; rfl
theorem rpF_head {q : L} (h : q ≠ []) : (rpF q)[0]? = some 47 := by
  unfold rpF
  rw [if_neg h]
  unfold lead
  split
  · assumption
  · rfl
end Go.Proofs.YtfkgkkmcaaefnaaGreatDoor.Pu
