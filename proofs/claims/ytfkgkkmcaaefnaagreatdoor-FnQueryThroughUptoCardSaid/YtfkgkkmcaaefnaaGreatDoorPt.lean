/-
  PLAIN LISTS OF BYTES: an IPv6 address, group by group, as netip reads it. No program text.
-/
import Derived.Test.YtfkgkkmcaaefnaaGreatDoorPz
namespace Go.Proofs.YtfkgkkmcaaefnaaGreatDoor.Pu

/-! IPv4 -/
theorem idx_none (c : UInt8) : ∀ (s : L) (k : Nat), k < idx [c] s → s[k]? ≠ some c
  | [], k, h => by simp [idx_nil] at h
  | a :: r, k, h => by
    by_cases ha : a = c
    · rw [idx_hit _ _ _ (by rw [inB_one]; simpa using ha)] at h; omega
    · rw [idx_miss _ _ _ (by rw [inB_one]; simpa using ha)] at h
      cases k with
      | zero => simpa using ha
      | succ k => simpa using idx_none c r k (by omega)
theorem idx_at (c : UInt8) : ∀ (s : L), idx [c] s < s.length → s[idx [c] s]? = some c
  | [], h => by simp at h
  | a :: r, h => by
    by_cases ha : a = c
    · rw [idx_hit _ _ _ (by rw [inB_one]; simpa using ha)]; simp [ha]
    · rw [idx_miss _ _ _ (by rw [inB_one]; simpa using ha)] at h ⊢
      simpa using idx_at c r (by simpa using h)
theorem octVal_app (a b : L) : octVal a ≤ octVal (a ++ b) := by
  refine snoc_ind (P := fun b => octVal a ≤ octVal (a ++ b)) ?_ ?_ b
  · simp
  · intro b c ih
    rw [← List.append_assoc, octVal_snoc]; omega
theorem v4r_inv {j : Nat} {r : L} (h : v4r (j + 1) r = true) : octet (r.take (idx [46] r)) = true ∧ (idx [46] r < r.length ↔ j ≠ 0) ∧ v4r j (r.drop (idx [46] r + 1)) = true := by
  rw [v4r, Bool.and_eq_true, Bool.and_eq_true, beq_iff_eq] at h
  refine ⟨h.1.1, ?_, h.2⟩
  have := h.1.2
  rw [Bool.eq_iff_iff, decide_eq_true_iff, decide_eq_true_iff] at this
  exact this
theorem oct_inv {d : L} (h : octet d = true) : badO d = false ∧ d.all digC = true ∧ octVal d ≤ 255 := by
  unfold octet at h
  simp only [Bool.and_eq_true, Bool.not_eq_true', decide_eq_true_eq] at h
  exact ⟨h.1.1, h.1.2, h.2⟩
theorem v4_dig {j m : Nat} {r : L} {c : UInt8} (h : v4r (j + 1) r = true) (hm : r[m]? = some c) (hc : c ≠ 46) (hle : m ≤ idx [46] r) :
    digC c = true ∧ octVal (r.take (m + 1)) ≤ 255 ∧ ¬ (m = 1 ∧ octVal (r.take 1) = 0) ∧ m + 1 ≤ idx [46] r := by
  obtain ⟨ho, _, _⟩ := v4r_inv h
  have hs := idx_step [46] r m c hle hm (by rw [inB_one]; simpa using hc)
  obtain ⟨h1, h2, h3⟩ := oct_inv ho
  have hn := idx_le [46] r
  have hlt : m < r.length := (List.getElem?_eq_some_iff.1 hm).1
  generalize idx [46] r = n at *
  have htk : r.take n = r.take (m + 1) ++ (r.drop (m + 1)).take (n - (m + 1)) := by
    rw [← List.take_add]; congr 1; omega
  refine ⟨?_, ?_, ?_, hs⟩
  · refine List.all_eq_true.1 h2 c (List.mem_of_getElem? (i := m) ?_)
    rw [List.getElem?_take, if_pos (by omega)]; exact hm
  · rw [htk] at h3; exact Nat.le_trans (octVal_app _ _) h3
  · rintro ⟨rfl, h0⟩
    unfold badO at h1
    simp only [Bool.or_eq_false_iff, Bool.and_eq_false_iff, decide_eq_false_iff_not] at h1
    have h4 := h1.2
    rw [List.length_take] at h4
    rcases h4 with h4 | h4
    · omega
    · apply h4
      rw [List.getElem?_take, if_pos (by omega)]
      cases r with
      | nil => simp at hlt
      | cons a t =>
        have hd : digC a = true := List.all_eq_true.1 h2 a (List.mem_of_getElem? (i := 0) (by rw [List.getElem?_take, if_pos (by omega)]; rfl))
        unfold digC digitN at hd
        rw [decide_eq_true_iff] at hd
        have e : octVal ((a :: t).take 1) = a.toNat - 48 := by simp [octVal]
        rw [e] at h0
        have : a.toNat = 48 := by omega
        have : a = 48 := UInt8.toNat_inj.1 this
        rw [this]; rfl
theorem v4_dot {j m : Nat} {r : L} (h : v4r (j + 1) r = true) (hm : r[m]? = some 46) (hle : m ≤ idx [46] r) :
    j ≠ 0 ∧ m ≠ 0 ∧ m + 1 < r.length ∧ v4r j (r.drop (m + 1)) = true ∧ r[m - 1]? ≠ some 46 := by
  obtain ⟨ho, hj, hr⟩ := v4r_inv h
  have hs := idx_stop [46] r m 46 hle hm (by decide)
  have hlt : m < r.length := (List.getElem?_eq_some_iff.1 hm).1
  have hne : m ≠ 0 := by
    intro h0
    rw [hs, h0, List.take_zero] at ho
    exact absurd ho (by decide)
  have hbf := idx_none 46 r (m - 1)
  rw [hs] at hj hr hbf
  have hj0 : j ≠ 0 := hj.1 hlt
  refine ⟨hj0, hne, ?_, hr, hbf (by omega)⟩
  obtain ⟨j', rfl⟩ : ∃ j', j = j' + 1 := ⟨j - 1, by omega⟩
  rcases Nat.lt_or_ge (m + 1) r.length with h | h
  · exact h
  · rw [List.drop_eq_nil_of_le h] at hr
    have := (v4r_inv hr).1
    rw [List.take_nil] at this
    exact absurd this (by decide)
theorem v4_end {j : Nat} {r : L} (h : v4r (j + 1) r = true) (hle : idx [46] r = r.length) : j = 0 := by
  obtain ⟨_, hj, _⟩ := v4r_inv h
  rw [hle] at hj
  have := hj.2
  omega
/-- what an IPv4 address is made of -/
theorem v4_chars : ∀ (j : Nat) (r : L), v4r j r = true → ∀ c ∈ r, digC c = true ∨ c = 46
  | 0, r, h, c, hc => by rw [v4r, List.isEmpty_iff] at h; rw [h] at hc; simp at hc
  | j + 1, r, h, c, hc => by
    obtain ⟨ho, hj, hr⟩ := v4r_inv h
    by_cases hl : idx [46] r < r.length
    · rw [cut_at 46 r hl] at hc
      simp only [List.mem_append, List.mem_cons] at hc
      rcases hc with hc | hc | hc
      · exact Or.inl (List.all_eq_true.1 (oct_inv ho).2.1 c hc)
      · exact Or.inr hc
      · exact v4_chars j _ hr c hc
    · rw [List.take_of_length_le (by omega)] at ho
      exact Or.inl (List.all_eq_true.1 (oct_inv ho).2.1 c hc)
/-- an IPv4 address begins with one to three digits and a dot -/
theorem v4_first {s : L} (h : v4 s = true) : ∃ n, 1 ≤ n ∧ n ≤ 3 ∧ s[n]? = some 46 ∧ n < s.length ∧ ∀ k, k < n → ∃ c, s[k]? = some c ∧ digC c = true := by
  unfold v4 at h
  obtain ⟨ho, hj, hr⟩ := v4r_inv h
  have hl := hj.2 (by decide)
  obtain ⟨h1, h2, _⟩ := oct_inv ho
  have hb := badO_f h1
  rw [List.length_take] at hb
  refine ⟨idx [46] s, by omega, by omega, idx_at 46 s hl, hl, fun k hk => ?_⟩
  refine ⟨s[k]'(by omega), List.getElem?_eq_getElem (by omega), ?_⟩
  refine List.all_eq_true.1 h2 _ (List.mem_of_getElem? (i := k) ?_)
  rw [List.getElem?_take, if_pos hk, List.getElem?_eq_getElem (by omega)]

/-! IPv6 -/
theorem hexp_inv {p : L} (h : hexp p = true) : 1 ≤ p.length ∧ p.length ≤ 4 ∧ p.all isHex = true := by
  unfold hexp at h
  simp only [Bool.and_eq_true, decide_eq_true_eq] at h
  exact ⟨by omega, h.1.2, h.2⟩
theorem pcs_inv {last : Bool} {s : L} {b : Nat} (h : pcs last (segs 58 s) = some b) :
    (idx [58] s = s.length ∧ last = true ∧ v4 s = true ∧ b = 2) ∨ (idx [58] s = s.length ∧ hexp s = true ∧ b = 1) ∨
    (idx [58] s < s.length ∧ hexp (s.take (idx [58] s)) = true ∧ ∃ b', pcs last (segs 58 (s.drop (idx [58] s + 1))) = some b' ∧ b = b' + 1) := by
  have hle := idx_le [58] s
  by_cases hl : idx [58] s < s.length
  · right; right
    by_cases hx : hexp (s.take (idx [58] s)) = true
    · rw [pc_next rfl hl hx] at h
      obtain ⟨b', hb, e⟩ := Option.map_eq_some_iff.1 h
      exact ⟨hl, hx, b', hb, e.symm⟩
    · rw [pc_bad rfl hl (by simpa using hx)] at h; cases h
  · have he : idx [58] s = s.length := by omega
    rw [segs_last 58 s he, pcs] at h
    split at h
    · rename_i h4
      rw [Bool.and_eq_true] at h4
      exact Or.inl ⟨he, h4.1, h4.2, (Option.some.inj h).symm⟩
    · split at h
      · rename_i hx
        exact Or.inr (Or.inl ⟨he, hx, (Option.some.inj h).symm⟩)
      · cases h
theorem pcs_ne {last : Bool} {s : L} {b : Nat} (h : pcs last (segs 58 s) = some b) : s ≠ [] ∧ 1 ≤ b ∧ s[0]? ≠ some 58 := by
  rcases pcs_inv h with ⟨he, _, h4, e⟩ | ⟨he, hx, e⟩ | ⟨hl, hx, b', _, e⟩
  · have hne : s ≠ [] := by intro h0; rw [h0] at h4; exact absurd h4 (by decide)
    refine ⟨hne, by omega, ?_⟩
    have := List.length_pos_iff.2 hne
    exact idx_none 58 s 0 (by omega)
  · have := hexp_inv hx
    refine ⟨by rintro rfl; simp at this, by omega, idx_none 58 s 0 (by omega)⟩
  · have := hexp_inv hx
    rw [List.length_take] at this
    refine ⟨by rintro rfl; simp at this, by omega, idx_none 58 s 0 (by omega)⟩
theorem dc_spec : ∀ (s : L) (k : Nat), dc s = some k → s[k]? = some 58 ∧ s[k + 1]? = some 58
  | [], k, h => by simp [dc] at h
  | a :: r, k, h => by
    rw [dc] at h
    split at h
    · rename_i hh
      have : k = 0 := (Option.some.inj h).symm
      subst this
      exact ⟨by simp [hh.1], by simpa using hh.2⟩
    · obtain ⟨k', hk, e⟩ := Option.map_eq_some_iff.1 h
      subst e
      have := dc_spec r k' hk
      exact ⟨by simpa using this.1, by simpa using this.2⟩
theorem dc_zero (s : L) (h0 : s[0]? = some 58) (h1 : s[1]? = some 58) : dc s = some 0 := by
  cases s with
  | nil => simp at h0
  | cons a r => rw [dc, if_pos ⟨by simpa using h0, by simpa using h1⟩]
theorem dc_drop : ∀ (j k : Nat) (s : L), dc s = some (j + k) → dc (s.drop j) = some k
  | 0, k, s, h => by simpa using h
  | j + 1, k, [], h => by simp [dc] at h
  | j + 1, k, a :: r, h => by
    rw [dc] at h
    split at h
    · have := Option.some.inj h; omega
    · obtain ⟨k', hk, e⟩ := Option.map_eq_some_iff.1 h
      rw [List.drop_succ_cons]
      exact dc_drop j k r (by rw [hk]; congr 1; omega)

/-- what is left of an address, behind i bytes; e: the double colon was there -/
def Six (e : Bool) (i : Nat) (s : L) : Prop :=
  (∃ b, pcs true (segs 58 s) = some b ∧ (e = false → i + 2 * b = 16) ∧ (e = true → i + 2 * b ≤ 14)) ∨
  (e = false ∧ ∃ k a : Nat, dc s = some k ∧ 0 < k ∧ pcs false (segs 58 (s.take k)) = some a ∧ 0 ≤ piecesF true (s.drop (k + 2)) ∧ (i : Int) + 2 * a + 2 * piecesF true (s.drop (k + 2)) ≤ 14)
/-- one group -/
def Grp (e : Bool) (i : Nat) (s : L) (n : Nat) : Prop :=
  (n = s.length ∧ (e = false → i + 2 = 16) ∧ (e = true → i + 2 ≤ 14)) ∨
  (s[n]? = some 58 ∧ n + 1 < s.length ∧ s[n + 1]? ≠ some 58 ∧ Six e (i + 2) (s.drop (n + 1))) ∨
  (e = false ∧ s[n]? = some 58 ∧ s[n + 1]? = some 58 ∧ n + 2 = s.length ∧ i + 2 ≤ 14) ∨
  (e = false ∧ s[n]? = some 58 ∧ s[n + 1]? = some 58 ∧ n + 2 < s.length ∧ Six true (i + 2) (s.drop (n + 2)))
theorem pieces_some {last : Bool} {s : L} (hs : s ≠ []) (h : 0 ≤ piecesF last s) : ∃ b : Nat, pcs last (segs 58 s) = some b ∧ piecesF last s = b := by
  unfold piecesF at *
  rw [if_neg hs] at h ⊢
  cases hp : pcs last (segs 58 s) with
  | none => rw [hp] at h; simp [num] at h
  | some b => exact ⟨b, rfl, rfl⟩
theorem head_not {s : L} {n : Nat} (h : (s.drop (n + 1))[0]? ≠ some 58) : s[n + 1]? ≠ some 58 := by
  rw [List.getElem?_drop] at h; simpa using h
theorem all_get {s : L} {n k : Nat} (h : (s.take n).all isHex = true) (hk : k < n) (hn : n ≤ s.length) : ∃ c, s[k]? = some c ∧ isHex c = true := by
  refine ⟨s[k]'(by omega), List.getElem?_eq_getElem (by omega), ?_⟩
  refine List.all_eq_true.1 h _ (List.mem_of_getElem? (i := k) ?_)
  rw [List.getElem?_take, if_pos hk, List.getElem?_eq_getElem (by omega)]
theorem Six.round {e : Bool} {i : Nat} {s : L} (h : Six e i s) : i ≤ 14 ∧ s ≠ [] ∧
    ((v4 s = true ∧ (e = false → i = 12) ∧ (e = true → i + 4 ≤ 14)) ∨
     ∃ n, 1 ≤ n ∧ n ≤ 4 ∧ n ≤ s.length ∧ (∀ k, k < n → ∃ c, s[k]? = some c ∧ isHex c = true) ∧ Grp e i s n) := by
  rcases h with ⟨b, hp, h1, h2⟩ | ⟨he, k, a, hd, hk, hp, h0, hle⟩
  · obtain ⟨hne, hb, _⟩ := pcs_ne hp
    have hi : i ≤ 14 := by cases e
                           · have := h1 rfl; omega
                           · have := h2 rfl; omega
    refine ⟨hi, hne, ?_⟩
    rcases pcs_inv hp with ⟨he, _, h4, eb⟩ | ⟨he, hx, eb⟩ | ⟨hl, hx, b', hb', eb⟩
    · left
      exact ⟨h4, (fun h => by have := h1 h; omega), (fun h => by have := h2 h; omega)⟩
    · right
      obtain ⟨l1, l4, hall⟩ := hexp_inv hx
      exact ⟨s.length, l1, l4, Nat.le_refl _, (fun k hk => all_get (by rwa [List.take_length]) hk (Nat.le_refl _)), Or.inl ⟨rfl, (fun h => by have := h1 h; omega), (fun h => by have := h2 h; omega)⟩⟩
    · right
      obtain ⟨l1, l4, hall⟩ := hexp_inv hx
      rw [List.length_take] at l1 l4
      obtain ⟨hne', hb1, h58⟩ := pcs_ne hb'
      have hl2 := List.length_pos_iff.2 hne'
      rw [List.length_drop] at hl2
      exact ⟨idx [58] s, by omega, by omega, by omega, (fun k hk => all_get hall hk (by omega)),
        Or.inr (Or.inl ⟨idx_at 58 s hl, by omega, head_not h58, Or.inl ⟨b', hb', (fun h => by have := h1 h; omega), (fun h => by have := h2 h; omega)⟩⟩)⟩
  · subst he
    obtain ⟨hk0, hk1⟩ := dc_spec s k hd
    have hkl : k < s.length := (List.getElem?_eq_some_iff.1 hk0).1
    have hkl1 : k + 1 < s.length := (List.getElem?_eq_some_iff.1 hk1).1
    obtain ⟨hne, hb, _⟩ := pcs_ne hp
    have htl : (s.take k).length = k := by rw [List.length_take]; omega
    refine ⟨by omega, by rintro rfl; simp at hkl, Or.inr ?_⟩
    rcases pcs_inv hp with ⟨_, hf, _, _⟩ | ⟨he, hx, eb⟩ | ⟨hl, hx, b', hb', eb⟩
    · cases hf
    · obtain ⟨l1, l4, hall⟩ := hexp_inv hx
      rw [htl] at l1 l4
      refine ⟨k, l1, l4, by omega, (fun j hj => all_get hall hj (by omega)), ?_⟩
      by_cases hend : k + 2 = s.length
      · exact Or.inr (Or.inr (Or.inl ⟨rfl, hk0, hk1, hend, by omega⟩))
      · refine Or.inr (Or.inr (Or.inr ⟨rfl, hk0, hk1, by omega, ?_⟩))
        have hne2 : s.drop (k + 2) ≠ [] := by
          intro h; have := congrArg List.length h; rw [List.length_drop] at this; simp at this; omega
        obtain ⟨b, hb2, e2⟩ := pieces_some hne2 h0
        rw [e2] at hle
        exact Or.inl ⟨b, hb2, (fun h => by cases h), (fun _ => by omega)⟩
    · rw [htl] at hl
      obtain ⟨l1, l4, hall⟩ := hexp_inv hx
      rw [List.length_take, htl] at l1 l4
      generalize hn : idx [58] (s.take k) = n at *
      have hat : s[n]? = some 58 := by
        have := idx_at 58 (s.take k) (by rw [hn, htl]; exact hl)
        rw [hn, List.getElem?_take, if_pos hl] at this
        exact this
      have etake : (s.take k).drop (n + 1) = (s.drop (n + 1)).take (k - (n + 1)) := by rw [List.drop_take]
      rw [etake] at hb'
      obtain ⟨hne', hb1, h58⟩ := pcs_ne hb'
      have hk1 : 0 < k - (n + 1) := by
        rcases Nat.eq_zero_or_pos (k - (n + 1)) with h | h
        · rw [h] at hne'; simp at hne'
        · exact h
      refine ⟨n, by omega, by omega, by omega, (fun j hj => all_get (n := n) (by rwa [List.take_take, Nat.min_eq_left (by omega)] at hall) hj (by omega)), Or.inr (Or.inl ⟨hat, by omega, ?_, Or.inr ⟨rfl, k - (n + 1), b', ?_, hk1, hb', ?_, ?_⟩⟩)⟩
      · apply head_not
        rw [List.getElem?_take, if_pos hk1] at h58
        exact h58
      · exact dc_drop (n + 1) _ s (by rw [hd]; congr 1; omega)
      · rw [List.drop_drop, show n + 1 + (k - (n + 1) + 2) = k + 2 by omega]; exact h0
      · rw [List.drop_drop, show n + 1 + (k - (n + 1) + 2) = k + 2 by omega]; omega
theorem v6_start {l : L} (h : v6F l = true) : l = [58, 58] ∨ (l[0]? = some 58 ∧ l[1]? = some 58 ∧ 2 < l.length ∧ Six true 0 (l.drop 2)) ∨ (¬ (l[0]? = some 58 ∧ l[1]? = some 58) ∧ Six false 0 l) := by
  cases hd : dc l with
  | none =>
    rw [v6_none hd, decide_eq_true_iff] at h
    right; right
    refine ⟨fun ⟨h0, h1⟩ => by (rw [dc_zero l h0 h1] at hd; cases hd), ?_⟩
    have hne : l ≠ [] := by rintro rfl; exact absurd h (by decide)
    obtain ⟨b, hb, e⟩ := pieces_some hne (by omega : 0 ≤ piecesF true l)
    exact Or.inl ⟨b, hb, (fun _ => by omega), (fun h => by cases h)⟩
  | some k =>
    rw [v6_some hd] at h
    simp only [Bool.and_eq_true, decide_eq_true_eq] at h
    obtain ⟨⟨ha, hb⟩, hab⟩ := h
    obtain ⟨hk0, hk1⟩ := dc_spec l k hd
    have hkl1 : k + 1 < l.length := (List.getElem?_eq_some_iff.1 hk1).1
    rcases Nat.eq_zero_or_pos k with rfl | hk
    · by_cases hne : l.drop 2 = []
      · left
        match l, hne, hk0, hk1 with
        | [a, b], _, h0, h1 => simp at h0 h1; rw [h0, h1]
        | a :: b :: c :: r, hne, _, _ => simp at hne
      · right; left
        have : 2 < l.length := by
          have := List.length_pos_iff.2 hne
          rw [List.length_drop] at this; omega
        refine ⟨hk0, hk1, this, ?_⟩
        obtain ⟨b, hb2, e⟩ := pieces_some hne hb
        have : piecesF false (l.take 0) = 0 := by simp [piecesF]
        rw [this] at hab
        simp only [Nat.zero_add] at hab
        rw [e] at hab
        exact Or.inl ⟨b, hb2, (fun h => by cases h), (fun _ => by omega)⟩
    · right; right
      refine ⟨fun ⟨h0, h1⟩ => by (rw [dc_zero l h0 h1] at hd; have := Option.some.inj hd; omega), ?_⟩
      have hne : l.take k ≠ [] := by
        intro h; have := congrArg List.length h; rw [List.length_take, List.length_nil] at this; omega
      obtain ⟨a, ha2, e⟩ := pieces_some hne ha
      exact Or.inr ⟨rfl, k, a, hd, hk, ha2, hb, by omega⟩
/-- what an IPv6 address is made of -/
def v6C (c : UInt8) : Bool := isHex c || decide (c = 58) || decide (c = 46)
theorem dig_hex {c : UInt8} (h : digC c = true) : isHex c = true := by
  unfold digC digitN at h
  rw [decide_eq_true_iff] at h
  unfold isHex hexN
  rw [if_pos h]; simp; omega
theorem Six.chars : ∀ (m : Nat) {e : Bool} {i : Nat} {s : L}, s.length ≤ m → Six e i s → ∀ c ∈ s, v6C c = true
  | 0, e, i, s, hm, h => absurd (List.length_eq_zero_iff.1 (by omega)) h.round.2.1
  | m + 1, e, i, s, hm, h => by
    intro c hc
    rcases h.round.2.2 with ⟨h4, _, _⟩ | ⟨n, h1, h4, hn, hall, hg⟩
    · unfold v6C
      rcases v4_chars 4 s h4 c hc with h | h
      · rw [dig_hex h]; rfl
      · rw [h]; simp
    · have hpre : ∀ c ∈ s.take n, v6C c = true := by
        intro c hc
        obtain ⟨k, hk⟩ := List.getElem?_of_mem hc
        have hkn : k < n := by
          have := (List.getElem?_eq_some_iff.1 hk).1
          rw [List.length_take] at this; omega
        obtain ⟨c', hc', hx⟩ := hall k hkn
        rw [List.getElem?_take, if_pos hkn, hc'] at hk
        rw [← Option.some.inj hk]
        unfold v6C; rw [hx]; rfl
      have hcol : v6C 58 = true := by decide
      rcases hg with ⟨he, _⟩ | ⟨ha, hl, _, hs⟩ | ⟨_, ha, hb, hl, _⟩ | ⟨_, ha, hb, hl, hs⟩
      · rw [he, List.take_length] at hpre; exact hpre c hc
      · have e : s = s.take n ++ 58 :: s.drop (n + 1) := by
          conv => lhs; rw [← List.take_append_drop n s, List.drop_eq_getElem_cons (by omega : n < s.length)]
          congr 2; rw [List.getElem?_eq_getElem (by omega)] at ha; exact Option.some.inj ha
        rw [e, List.mem_append, List.mem_cons] at hc
        rcases hc with hc | rfl | hc
        · exact hpre c hc
        · exact hcol
        · exact Six.chars m (by rw [List.length_drop]; omega) hs c hc
      · have e : s = s.take n ++ [58, 58] := by
          conv => lhs; rw [← List.take_append_drop n s, List.drop_eq_getElem_cons (by omega : n < s.length), List.drop_eq_getElem_cons (by omega : n + 1 < s.length), List.drop_eq_nil_of_le (by omega : s.length ≤ n + 1 + 1)]
          rw [List.getElem?_eq_getElem (by omega)] at ha hb
          rw [Option.some.inj ha, Option.some.inj hb]
        rw [e, List.mem_append] at hc
        rcases hc with hc | hc
        · exact hpre c hc
        · have : c = 58 := by simpa using hc
          rw [this]; exact hcol
      · have e : s = s.take n ++ 58 :: 58 :: s.drop (n + 2) := by
          conv => lhs; rw [← List.take_append_drop n s, List.drop_eq_getElem_cons (by omega : n < s.length), List.drop_eq_getElem_cons (by omega : n + 1 < s.length)]
          rw [List.getElem?_eq_getElem (by omega)] at ha hb
          rw [Option.some.inj ha, Option.some.inj hb]
        rw [e, List.mem_append, List.mem_cons, List.mem_cons] at hc
        rcases hc with hc | rfl | rfl | hc
        · exact hpre c hc
        · exact hcol
        · exact hcol
        · exact Six.chars m (by rw [List.length_drop]; omega) hs c hc
theorem v6_chars {l : L} (h : v6F l = true) : ∀ c ∈ l, v6C c = true := by
  rcases v6_start h with h | ⟨h0, h1, hl, hs⟩ | ⟨_, hs⟩
  · intro c hc; rw [h] at hc; have : c = 58 := by simpa using hc
    rw [this]; decide
  · intro c hc
    have e : l = 58 :: 58 :: l.drop 2 := by
      match l, h0, h1 with
      | a :: b :: r, h0, h1 => simp at h0 h1; rw [h0, h1]; rfl
    rw [e, List.mem_cons, List.mem_cons] at hc
    rcases hc with rfl | rfl | hc
    · decide
    · decide
    · exact Six.chars _ (Nat.le_refl _) hs c hc
  · exact Six.chars _ (Nat.le_refl _) hs
/-- the first byte that is no digit is a colon -/
theorem v6_first {l : L} (h : v6F l = true) : ∃ n : Nat, l[n]? = some 58 ∧ ∀ k, k < n → ∃ c, l[k]? = some c ∧ isHex c = true := by
  rcases v6_start h with h | ⟨h0, h1, hl, hs⟩ | ⟨_, hs⟩
  · exact ⟨0, by rw [h]; rfl, fun k hk => by omega⟩
  · exact ⟨0, h0, fun k hk => by omega⟩
  · rcases hs.round.2.2 with ⟨_, h, _⟩ | ⟨n, h1, h4, hn, hall, hg⟩
    · have := h rfl; omega
    · rcases hg with ⟨_, h, _⟩ | ⟨ha, _⟩ | ⟨_, ha, _⟩ | ⟨_, ha, _⟩
      · have := h rfl; omega
      · exact ⟨n, ha, fun k hk => hall k hk⟩
      · exact ⟨n, ha, fun k hk => hall k hk⟩
      · exact ⟨n, ha, fun k hk => hall k hk⟩
end Go.Proofs.YtfkgkkmcaaefnaaGreatDoor.Pu
