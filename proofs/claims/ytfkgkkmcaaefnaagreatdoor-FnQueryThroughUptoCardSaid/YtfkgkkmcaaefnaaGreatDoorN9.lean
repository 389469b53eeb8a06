/-
  PLAIN: what was escaped is read back; settings that are joined are cut again.
  parseQuery, ParseQuery, Query: an own map of own rows.
  ParseQuery, Query, impl.pairs, QueryOf.
-/
import Derived.Test.YtfkgkkmcaaefnaaGreatDoorN6
set_option linter.unusedSimpArgs false
set_option linter.unusedVariables false
namespace Go.Proofs.YtfkgkkmcaaefnaaGreatDoor.Wk
open Go.RowKit Go.Proofs.YtfkgkkmcaaefnaaGreatDoor.Pu Go.Maps

theorem hexB_upx : ∀ n : Fin 256, hexB (upx (n.1 / 16)) (upx (n.1 % 16)) = UInt8.ofNat n.1 := by decide +kernel
theorem dec_esc {m : Nat} {q : Bool} (hq : q = decide (m = 32)) (h : ∀ n, n < 256 → escN m n = false → n ≠ 37 ∧ (q = true → n ≠ 43)) : ∀ l : L, pctOk (escF m l) = true ∧ decB q (escF m l) = l
  | [] => ⟨rfl, rfl⟩
  | c :: r => by
    obtain ⟨i1, i2⟩ := dec_esc hq h r
    rw [escF_cons]
    have hn := c.toNat_lt
    have hc : UInt8.ofNat c.toNat = c := by simp
    unfold esc1
    cases hs : spB m c
    · cases he : escN m c.toNat
      · obtain ⟨h1, h2⟩ := h _ hn he
        simp only [Bool.false_eq_true, if_false, List.singleton_append]
        rw [po_else _ _ h1, de_else _ _ _ h1]
        refine ⟨i1, ?_⟩
        rw [i2]
        cases hqq : q
        · rfl
        · have := h2 hqq
          simp [this]
      · simp only [Bool.false_eq_true, if_false, if_true, List.cons_append, List.nil_append]
        rw [po_pct _ _ _ _ (by decide), de_pct _ _ _ _ _ (by decide)]
        refine ⟨?_, ?_⟩
        · rw [upx_hex ⟨c.toNat / 16, by omega⟩, upx_hex ⟨c.toNat % 16, by omega⟩, i1]; rfl
        · rw [i2, hexB_upx ⟨c.toNat, hn⟩, hc]
    · simp only [if_true, List.singleton_append]
      rw [po_else _ _ (by decide), de_else _ _ _ (by decide)]
      unfold spB at hs
      simp only [Bool.and_eq_true, decide_eq_true_eq] at hs
      refine ⟨i1, ?_⟩
      rw [i2, hq, decide_eq_true hs.2]
      have : c = 32 := by rw [← hc, hs.1]; rfl
      rw [this]; rfl
theorem esc32_ok : ∀ n, n < 256 → escN 32 n = false → (okN [58, 64, 47, 63] n = true ∧ n ≠ 37) ∧ (n ≠ 43 ∧ n ≠ 38 ∧ n ≠ 61 ∧ n ≠ 59) := by decide +kernel
theorem dec32 (l : L) : pctOk (escF 32 l) = true ∧ decB true (escF 32 l) = l := dec_esc rfl (fun n hn he => ⟨(esc32_ok n hn he).1.2, fun _ => (esc32_ok n hn he).2.1⟩) l
theorem upx_safe : ∀ n : Fin 16, upx n.1 ≠ 38 ∧ upx n.1 ≠ 61 ∧ upx n.1 ≠ 59 := by decide
/-- a byte that parts no setting -/
def SafeC (x : UInt8) : Prop := x ≠ 38 ∧ x ≠ 61 ∧ x ≠ 59
theorem esc32_safe : ∀ (l : L), ∀ x ∈ escF 32 l, SafeC x
  | [], x, h => by cases h
  | c :: r, x, h => by
    rw [escF_cons] at h
    rcases List.mem_append.1 h with h | h
    · have hn := c.toNat_lt
      unfold esc1 at h
      cases hs : spB 32 c
      · cases he : escN 32 c.toNat
        · rw [hs, he] at h
          simp only [Bool.false_eq_true, if_false, List.mem_singleton] at h
          subst h
          obtain ⟨-, -, h2, h3, h4⟩ := esc32_ok _ hn he
          exact ⟨fun e => h2 (by rw [e]; rfl), fun e => h3 (by rw [e]; rfl), fun e => h4 (by rw [e]; rfl)⟩
        · rw [hs, he] at h
          simp only [Bool.false_eq_true, if_false, if_true, List.mem_cons, List.not_mem_nil, or_false] at h
          rcases h with rfl | rfl | rfl
          · exact ⟨by decide, by decide, by decide⟩
          · exact upx_safe ⟨c.toNat / 16, by omega⟩
          · exact upx_safe ⟨c.toNat % 16, by omega⟩
      · rw [hs] at h
        simp only [if_true, List.mem_singleton] at h
        subst h
        exact ⟨by decide, by decide, by decide⟩
    · exact esc32_safe r x h
theorem esc_chars32 : ∀ l : L, charsB [58, 64, 47, 63] true (escF 32 l) = true
  | [] => rfl
  | c :: r => by
    rw [escF_cons]
    refine ch_app _ _ ?_ (esc_chars32 r)
    unfold esc1
    have hn := c.toNat_lt
    cases hs : spB 32 c
    · cases he : escN 32 c.toNat
      · obtain ⟨h1, h2⟩ := (esc32_ok _ hn he).1
        simp only [Bool.false_eq_true, if_false]
        rw [ch_else _ _ _ _ h2, h1]; rfl
      · simp only [Bool.false_eq_true, if_false, if_true]
        rw [ch_pct _ _ _ _ _ _ (by decide), upx_hex ⟨c.toNat / 16, by omega⟩, upx_hex ⟨c.toNat % 16, by omega⟩]; rfl
    · simp only [if_true]; decide +kernel
/-- one setting -/
def sx (k y : L) : L := escF 32 k ++ [61] ++ escF 32 y
theorem sx_ne (k y : L) : sx k y ≠ [] := by unfold sx; simp
theorem sx_mem {k y : L} {x : UInt8} (h : x ∈ sx k y) : x ≠ 38 ∧ x ≠ 59 := by
  unfold sx at h
  rcases List.mem_append.1 h with h | h
  · rcases List.mem_append.1 h with h | h
    · exact ⟨(esc32_safe k x h).1, (esc32_safe k x h).2.2⟩
    · rw [List.mem_singleton] at h; subst h; exact ⟨by decide, by decide⟩
  · exact ⟨(esc32_safe y x h).1, (esc32_safe y x h).2.2⟩
/-- joined by ampersands -/
def joinR : List L → L
  | [] => []
  | x :: r => x ++ r.flatMap fun y => 38 :: y
theorem joinR_cons (x y : L) (r : List L) : joinR (x :: y :: r) = x ++ 38 :: joinR (y :: r) := by
  simp only [joinR, List.flatMap_cons, List.cons_append]
theorem fold_join : ∀ (r : List L) (acc : L), acc ≠ [] → r.foldl addS acc = acc ++ r.flatMap fun y => 38 :: y
  | [], acc, _ => by simp
  | x :: r, acc, h => by
    rw [List.foldl_cons, fold_join r _ (by unfold addS; intro e; exact h (by simp at e; exact e.1)), List.flatMap_cons]
    unfold addS
    rw [if_neg h]
    simp
theorem fold_joinR (ss : List L) (h : ∀ x ∈ ss, x ≠ []) : ss.foldl addS [] = joinR ss := by
  cases ss with
  | nil => rfl
  | cons x r =>
    rw [List.foldl_cons]
    have : addS [] x = x := by unfold addS; simp
    rw [this, fold_join r x (h x List.mem_cons_self)]
    rfl
/-- the settings, one by one -/
def flatP (ps : List PairB) : List (L × L) := ps.flatMap fun p => p.2.map fun y => (p.1.data.toList, y.data.toList)
theorem settings_flat (ps : List PairB) : settings ps = (flatP ps).map fun s => sx s.1 s.2 := by
  unfold settings flatP setF
  rw [List.map_flatMap]
  congr 1
  funext p
  rw [List.map_map]
  rfl
theorem encF_join (ps : List PairB) : encF ps = joinR ((flatP ps).map fun s => sx s.1 s.2) := by
  unfold encF
  rw [settings_flat, fold_joinR]
  intro x hx
  obtain ⟨s, _, rfl⟩ := List.mem_map.1 hx
  exact sx_ne _ _
theorem idx_app {c : UInt8} {a r : L} (h : ∀ x ∈ a, x ≠ c) : idx [c] (a ++ c :: r) = a.length := by
  induction a with
  | nil => rw [List.nil_append, idx_hit _ _ _ (by simp [inB])]; rfl
  | cons x a ih =>
    rw [List.cons_append, idx_miss _ _ _ (by simp [inB]; exact fun e => h x List.mem_cons_self e.symm), ih (fun y hy => h y (List.mem_cons_of_mem _ hy)), List.length_cons]
theorem idx_no {c : UInt8} {a : L} (h : ∀ x ∈ a, x ≠ c) : idx [c] a = a.length := by
  induction a with
  | nil => rfl
  | cons x a ih =>
    rw [idx_miss _ _ _ (by simp [inB]; exact fun e => h x List.mem_cons_self e.symm), ih (fun y hy => h y (List.mem_cons_of_mem _ hy)), List.length_cons]
theorem cut_app {c : UInt8} {a r : L} (h : ∀ x ∈ a, x ≠ c) : cutF c (a ++ c :: r) = (a, r, true) := by
  unfold cutF
  rw [idx_app h, if_pos (by rw [List.length_append, List.length_cons]; omega)]
  simp
theorem cut_no {c : UInt8} {a : L} (h : ∀ x ∈ a, x ≠ c) : cutF c a = (a, [], false) := by
  unfold cutF
  rw [idx_no h, if_neg (Nat.lt_irrefl _)]
theorem has_no {c : UInt8} {a : L} (h : ∀ x ∈ a, x ≠ c) : hasC c a = false := by
  unfold hasC
  rw [idx_no h, decide_eq_false (Nat.lt_irrefl _)]
theorem cut_join {x : L} {r : List L} (h : ∀ c ∈ x, c ≠ 38) : ∃ f, cutF 38 (joinR (x :: r)) = (x, joinR r, f) := by
  cases r with
  | nil => exact ⟨false, by simp only [joinR, List.flatMap_nil, List.append_nil]; exact cut_no h⟩
  | cons y r => exact ⟨true, by rw [joinR_cons]; exact cut_app h⟩
theorem cut_sx (k y : L) : cutF 61 (sx k y) = (escF 32 k, escF 32 y, true) := by
  unfold sx
  rw [List.append_assoc]
  exact cut_app (fun x hx => (esc32_safe k x hx).2.1)
theorem count_join : ∀ ss : List L, (∀ x ∈ ss, ∀ c ∈ x, c ≠ 38) → (joinR ss).count 38 ≤ ss.length
  | [], _ => by simp [joinR]
  | x :: r, h => by
    have h1 : x.count 38 = 0 := List.count_eq_zero.2 (fun hm => h x List.mem_cons_self 38 hm rfl)
    have h2 : ∀ r : List L, (∀ x ∈ r, ∀ c ∈ x, c ≠ 38) → (r.flatMap fun y => 38 :: y).count 38 ≤ r.length := by
      intro r
      induction r with
      | nil => intro _; simp
      | cons z r ih =>
        intro hz
        have h3 : z.count 38 = 0 := List.count_eq_zero.2 (fun hm => hz z List.mem_cons_self 38 hm rfl)
        have := ih (fun y hy => hz y (List.mem_cons_of_mem _ hy))
        rw [List.flatMap_cons, List.count_append, List.count_cons_self, h3, List.length_cons]
        omega
    have := h2 r (fun y hy => h y (List.mem_cons_of_mem _ hy))
    simp only [joinR]
    rw [List.count_append, h1, List.length_cons]
    omega
theorem chars_join : ∀ ss : List L, (∀ x ∈ ss, charsB [58, 64, 47, 63] true x = true) → charsB [58, 64, 47, 63] true (joinR ss) = true := by
  have h2 : ∀ r : List L, (∀ x ∈ r, charsB [58, 64, 47, 63] true x = true) → charsB [58, 64, 47, 63] true (r.flatMap fun y => 38 :: y) = true := by
    intro r
    induction r with
    | nil => intro _; rfl
    | cons z r ih =>
      intro hz
      rw [List.flatMap_cons]
      refine ch_app _ _ ?_ (ih (fun y hy => hz y (List.mem_cons_of_mem _ hy)))
      rw [ch_else _ _ _ _ (by decide), hz z List.mem_cons_self]
      decide +kernel
  intro ss h
  cases ss with
  | nil => rfl
  | cons x r => exact ch_app _ _ (h x List.mem_cons_self) (h2 r (fun y hy => h y (List.mem_cons_of_mem _ hy)))
theorem enc_chars (ps : List PairB) : charsB [58, 64, 47, 63] true (encF ps) = true := by
  rw [encF_join]
  refine chars_join _ (fun x hx => ?_)
  obtain ⟨s, _, rfl⟩ := List.mem_map.1 hx
  unfold sx
  exact ch_app _ _ (ch_app _ _ (esc_chars32 _) (by decide +kernel)) (esc_chars32 _)
end Go.Proofs.YtfkgkkmcaaefnaaGreatDoor.Wk
namespace Go.Proofs.YtfkgkkmcaaefnaaGreatDoor.Wk
open Go.RowKit Go.Proofs.YtfkgkkmcaaefnaaGreatDoor.Pu Go.Maps

/-- a setting is added to its key -/
def addG : List PairB → ByteArray × ByteArray → List PairB
  | [], s => [(s.1, [s.2])]
  | p :: r, s => if p.1 = s.1 then (p.1, p.2 ++ [s.2]) :: r else p :: addG r s
def flatB (ps : List PairB) : List (ByteArray × ByteArray) := ps.flatMap fun p => p.2.map fun y => (p.1, y)
theorem flatB_P (ps : List PairB) : (flatP ps).map (fun s => sx s.1 s.2) = (flatB ps).map fun s => sx s.1.data.toList s.2.data.toList := by
  unfold flatP flatB
  rw [List.map_flatMap, List.map_flatMap]
  congr 1
  funext p
  rw [List.map_map, List.map_map]
  rfl
theorem addG_new : ∀ (acc : List PairB) (s : ByteArray × ByteArray), s.1 ∉ acc.map (·.1) → addG acc s = acc ++ [(s.1, [s.2])]
  | [], s, _ => rfl
  | p :: r, s, h => by
    rw [addG, if_neg (fun e => h (by rw [List.map_cons, e]; exact List.mem_cons_self)), addG_new r s (fun hm => h (by rw [List.map_cons]; exact List.mem_cons_of_mem _ hm))]
    rfl
theorem addG_at : ∀ (acc : List PairB) (k : Nat) (p : PairB) (y : ByteArray), (acc.map (·.1)).Nodup → acc[k]? = some p → addG acc (p.1, y) = acc.set k (p.1, p.2 ++ [y])
  | [], _, _, _, _, h => by cases h
  | q :: r, 0, p, y, _, h => by cases h; rw [addG, if_pos rfl]; rfl
  | q :: r, k + 1, p, y, hn, h => by
    rw [List.map_cons, List.nodup_cons] at hn
    have hm : p ∈ r := List.mem_of_getElem? h
    rw [addG, if_neg (fun e => hn.1 (by rw [e]; exact List.mem_map.2 ⟨p, hm, rfl⟩)), addG_at r k p y hn.2 h]
    rfl
theorem addG_run (acc : List PairB) (k : ByteArray) (h : k ∉ acc.map (·.1)) : ∀ (ys l : List ByteArray), (ys.map fun y => (k, y)).foldl addG (acc ++ [(k, l)]) = acc ++ [(k, l ++ ys)]
  | [], l => by simp
  | y :: ys, l => by
    rw [List.map_cons, List.foldl_cons]
    have e : addG (acc ++ [(k, l)]) (k, y) = acc ++ [(k, l ++ [y])] := by
      clear addG_run
      induction acc with
      | nil => rw [List.nil_append, addG, if_pos rfl]; rfl
      | cons p r ih =>
        rw [List.map_cons, List.mem_cons, not_or] at h
        rw [List.cons_append, addG, if_neg (fun e => h.1 e.symm), ih h.2]
        rfl
    rw [e, addG_run acc k h ys (l ++ [y]), List.append_assoc]
    rfl
theorem addG_all : ∀ (ps acc : List PairB), ((acc ++ ps).map (·.1)).Nodup → (∀ p ∈ ps, p.2 ≠ []) → (flatB ps).foldl addG acc = acc ++ ps
  | [], acc, _, _ => by simp [flatB]
  | p :: ps, acc, hn, hne => by
    have hp := hne p List.mem_cons_self
    obtain ⟨k, ys⟩ := p
    cases ys with
    | nil => exact absurd rfl hp
    | cons y ys =>
      have hk : k ∉ acc.map (·.1) := by
        rw [List.map_append, List.map_cons, List.nodup_append] at hn
        intro hm
        exact hn.2.2 k hm k List.mem_cons_self rfl
      have e : flatB ((k, y :: ys) :: ps) = ((k, y) :: ys.map fun y => (k, y)) ++ flatB ps := by unfold flatB; rw [List.flatMap_cons]; rfl
      rw [e, List.foldl_append, List.foldl_cons, addG_new acc _ hk, addG_run acc k hk ys [y], addG_all ps _ (by simpa using hn) (fun p hp => hne p (List.mem_cons_of_mem _ hp))]
      simp
/-- rows of their own, each behind its key -/
structure OwnM (B : Nat) (w : World) (qs : List TripB) : Prop where
  each : ∀ q ∈ qs, q.2.1 ≠ [] ∧ w.ownsRow B 9 1 q.2.2 q.2.1.length (q.2.1.map Value.string)
  apart : qs.Pairwise fun a b => a.2.2.ownBlock ≠ b.2.2.ownBlock
theorem OwnM.below {B : Nat} {w w' : World} {qs : List TripB} (h : OwnM B w qs) (hb : Below w.heap.size w w') : OwnM B w' qs :=
  ⟨fun q hq => ⟨(h.each q hq).1, owns_below (h.each q hq).2 hb (Nat.le_refl _)⟩, h.apart⟩
theorem OwnM.mapped {B b : Nat} {w w' : World} {qs : List TripB} {n : Nat} {D : DataW Value} (h : OwnM B w qs) (hm : w.ownsMap Tryz.prog 9 tokR b n D) (hg : w.grownBy w' (some b)) : OwnM B w' qs := by
  obtain ⟨es, clock, hbm, _⟩ := hm
  refine ⟨fun q hq => ⟨(h.each q hq).1, owns_block (h.each q hq).2 (fun k hk => hg.block k (ownsRow_lt (h.each q hq).2 hk) (fun e => ?_))⟩, h.apart⟩
  have e2 : k = b := Option.some.inj e
  subst e2
  rcases (h.each q hq).2.2 with ⟨h0, _⟩ | ⟨g, cap, cur, h0, _, hg2, _⟩
  · rw [h0] at hk; cases hk
  · rw [h0] at hk
    have e3 : g = k := Option.some.inj hk
    rw [e3, hbm] at hg2; cases hg2
theorem OwnM.new {B : Nat} {w w1 : World} {qs : List TripB} {key val : ByteArray} {v' : Value} (h : OwnM B w qs) (hg : w.grownBy w1 none) (ho : w1.ownsRow B 9 1 v' 1 [.string val]) (hw : v'.ownBlock = some w.heap.size) : OwnM B w1 (qs ++ [(key, [val], v')]) := by
  refine ⟨fun q hq => ?_, ?_⟩
  · rcases List.mem_append.1 hq with hq | hq
    · exact ⟨(h.each q hq).1, owns_block (h.each q hq).2 (fun k hk => hg.block k (ownsRow_lt (h.each q hq).2 hk) (by simp))⟩
    · rw [List.mem_singleton] at hq; subst hq; exact ⟨by simp, ho⟩
  · rw [List.pairwise_append]
    refine ⟨h.apart, by simp, fun a ha b hb => ?_⟩
    rw [List.mem_singleton] at hb; subst hb
    intro e
    rw [hw] at e
    have := ownsRow_lt (h.each a ha).2 e
    omega
theorem OwnM.app {B : Nat} {w w1 : World} {k : Nat} {qs : List TripB} {q : TripB} {x : ByteArray} {v' : Value} (h : OwnM B w qs) (hk : qs[k]? = some q)
    (hg : w.grownBy w1 q.2.2.ownBlock) (ho : w1.ownsRow B 9 1 v' (q.2.1.length + 1) (q.2.1.map Value.string ++ [.string x])) (hw : v'.ownBlock = q.2.2.ownBlock ∨ v'.ownBlock = some w.heap.size) :
    OwnM B w1 (qs.set k (q.1, q.2.1 ++ [x], v')) := by
  have hqm : q ∈ qs := List.mem_of_getElem? hk
  have hkl : k < qs.length := (List.getElem?_eq_some_iff.1 hk).1
  refine ⟨?_, ?_⟩
  · intro p hp
    obtain ⟨j, hj⟩ := List.mem_iff_getElem?.1 hp
    rw [List.getElem?_set] at hj
    by_cases hjk : k = j
    · rw [if_pos hjk, if_pos (by omega)] at hj
      cases hj
      exact ⟨by simp, by rw [List.length_append, List.map_append]; exact ho⟩
    · rw [if_neg hjk] at hj
      have hpm : p ∈ qs := List.mem_of_getElem? hj
      obtain ⟨e1, e2⟩ := h.each p hpm
      refine ⟨e1, owns_block e2 (fun m hm => hg.block m (ownsRow_lt e2 hm) (fun e => ?_))⟩
      exact apart_at h.apart hk hj hjk (by rw [hm]; exact e.symm)
  · refine apart_of fun i j p r hi hj hij => ?_
    rw [List.getElem?_set] at hi hj
    have hfr : ∀ (m : Nat) (r : TripB), k ≠ m → qs[m]? = some r → v'.ownBlock ≠ r.2.2.ownBlock := by
      intro m r hkm hr
      rcases hw with e | e
      · rw [e]; exact apart_at h.apart hk hr hkm
      · rw [e]; intro e2
        have := ownsRow_lt (h.each r (List.mem_of_getElem? hr)).2 e2.symm
        omega
    by_cases h1 : k = i
    · rw [if_pos h1, if_pos (by omega)] at hi
      rw [if_neg (by omega)] at hj
      cases hi
      exact hfr j r (by omega) hj
    · rw [if_neg h1] at hi
      by_cases h2 : k = j
      · rw [if_pos h2, if_pos (by omega)] at hj
        cases hj
        exact (hfr i p h1 hi).symm
      · rw [if_neg h2] at hj
        exact apart_at h.apart hi hj (by omega)
theorem look_no {w : World} {b n : Nat} {D : DataW Value} {es : List (L × Value)} (hown : w.ownsMap Tryz.prog 9 tokR b n D) (h : IsOf D es) {key : ByteArray} (hk : key.size ≤ maxLen) (hv : key.data.toList ∉ es.map (·.1)) :
    (Instr.lookup 77 (.map (some b)) (.string key) false).run Tryz.prog w = .ok (.slice none 0 0) w := by
  obtain ⟨v, ps, h1, h2⟩ := hown.lookup law9 Tryz.underlying77 (zero39 w) (zd := .held (.slice none 0 0)) (zp := []) rfl (WideMaps.keyOf_string_mk Tryz.underlying9 hk)
  have hno : Maps.has D (.string key.data.toList) = false := by
    cases hh : Maps.has D (.string key.data.toList)
    · rfl
    · exact absurd ((h.has_ _).1 hh) hv
  rw [atKey_of_not_has hno] at h2
  obtain ⟨⟨a', m', c'⟩, rfl⟩ := tok_inv h2
  simp only [tokR, Option.some.injEq, Prod.mk.injEq, DataW.held.injEq, Value.slice.injEq] at h2
  obtain ⟨⟨rfl, rfl, rfl⟩, -⟩ := h2
  exact h1

set_option maxHeartbeats 1000000 in
set_option maxRecDepth 100000 in
theorem qunescape_any (s : ByteArray) (w : World) (hT : Tab w) (hs : s.size ≤ 140737488355328) (hok : pctOk s.data.toList = true) :
    Calls Tryz.prog 133 #[.string s] w fun e w' => ∃ t : ByteArray, e = .returned (.tuple #[.string t, .nilIface]) ∧ Hid (t.data.toList = decB true s.data.toList) ∧ Below w.heap.size w w' := by
  go_enter Tryz.func133, Tryz.ntmps133
  go_wp2_with (fail)
  refine Calls.mono (unescape_any s 32 w hT (by decide) (by decide) (by decide) hs hok) ?_
  rintro e w1 ⟨t, rfl, ht, hb⟩
  go_wp2
  go_ret2
  exact ⟨t, rfl, ht, hb⟩
set_option maxHeartbeats 1000000 in
set_option maxRecDepth 100000 in
theorem max_any (n : Nat) (w : World) (hn : n ≤ 10000) : Calls Tryz.prog 132 #[.int .i64 n] w fun e w' => e = .returned (.bool true) ∧ w = w' := by
  have h : (n : Int) ≤ 10000 := by omega
  go_enter Tryz.func132, Tryz.ntmps132
  go_wp2
  go_ret
  exact ⟨rfl, rfl⟩
theorem map_ne_row {w : World} {b n base e size m : Nat} {D : DataW Value} {v : Value} {xs : List Value} (hm : w.ownsMap Tryz.prog 9 tokR b n D) (h : w.ownsRow base e size v m xs) : some b ≠ v.ownBlock := by
  obtain ⟨es, clock, hbm, _⟩ := hm
  rcases h.2 with ⟨rfl, _⟩ | ⟨g, cap, cur, rfl, _, hg, _⟩
  · simp [Value.ownBlock]
  · intro e
    have : b = g := Option.some.inj e
    subst this
    rw [hbm] at hg; cases hg
theorem entT_set (qs : List TripB) (k : Nat) (p : TripB) : entT (qs.set k p) = (entT qs).set k (p.1.data.toList, p.2.2) := by unfold entT; rw [List.map_set]
theorem entT_app (qs : List TripB) (p : TripB) : entT (qs ++ [p]) = entT qs ++ [(p.1.data.toList, p.2.2)] := by unfold entT; rw [List.map_append]; rfl
theorem plainT_set (qs : List TripB) (k : Nat) (p : TripB) : plainT (qs.set k p) = (plainT qs).set k (p.1, p.2.1) := by unfold plainT; rw [List.map_set]
theorem plainT_app (qs : List TripB) (p : TripB) : plainT (qs ++ [p]) = plainT qs ++ [(p.1, p.2.1)] := by unfold plainT; rw [List.map_append]; rfl
theorem plain_nodup {D : DataW Value} {qs : List TripB} (h : IsOf D (entT qs)) : ((plainT qs).map (·.1)).Nodup := by
  have h1 := h.nodup
  unfold entT at h1
  unfold plainT
  rw [List.map_map] at h1 ⊢
  have e : ((fun x : L × Value => x.1) ∘ fun q : TripB => (q.1.data.toList, q.2.2)) = (fun b : ByteArray => b.data.toList) ∘ ((fun x : PairB => x.1) ∘ fun q : TripB => (q.1, q.2.1)) := rfl
  rw [e, ← List.map_map] at h1
  exact (List.pairwise_map.1 h1).imp (fun hne e => hne (by rw [e]))
theorem plain_notin {qs : List TripB} {t : ByteArray} (h : t.data.toList ∉ (entT qs).map (·.1)) : t ∉ (plainT qs).map (·.1) := by
  intro hm
  apply h
  obtain ⟨e, he, rfl⟩ := List.mem_map.1 hm
  obtain ⟨p, hp, rfl⟩ := List.mem_map.1 he
  exact List.mem_map.2 ⟨_, List.mem_map.2 ⟨p, hp, rfl⟩, rfl⟩
theorem Frm.of_map {N b : Nat} {w w' : World} (h : w.grownBy w' (some b)) (hN : N ≤ w.heap.size) : Frm N b w w' :=
  ⟨h.os, h.tape, h.output, h.size, fun k hk hne => h.block k (Nat.lt_of_lt_of_le hk hN) (fun e => hne (Option.some.inj e))⟩
/-- how a setting reads -/
abbrev sxB (s : ByteArray × ByteArray) : L := sx s.1.data.toList s.2.data.toList

set_option maxHeartbeats 8000000 in
set_option maxRecDepth 100000 in
theorem parseQuery_any (M bm : Nat) (x : ByteArray) (FL : List (ByteArray × ByteArray)) (w : World) (hT : Tab w) (hm : w.ownsMap Tryz.prog 9 tokR bm 0 (.map [])) (hx : x.data.toList = joinR (FL.map sxB)) (hxz : x.size ≤ 1000000000000) (hb0 : 0 < bm)
    (hn : FL.length ≤ 2000) (hM : M ≤ 10000000) (hz : ∀ s ∈ FL, s.1.size ≤ M ∧ s.2.size ≤ M) :
    Calls Tryz.prog 106 #[.map (some bm), .string x] w fun e w' => ∃ (D : DataW Value) (qs : List TripB) (nn : Nat), e = .returned .nilIface ∧ Hid (w'.ownsMap Tryz.prog 9 tokR bm nn D) ∧ Hid (IsOf D (entT qs)) ∧ Hid (OwnM w.heap.size w' qs) ∧ Hid (plainT qs = FL.foldl addG []) ∧ nn ≤ 2000 ∧
      Hid (Frm w.heap.size bm w w') := by
  have HT := Lib.hid hT
  have HM := Lib.hid hm
  have HX := Lib.hid hx
  have HZ := Lib.hid hz
  have hbl := hm.lt
  have hcnt : x.data.toList.count 38 ≤ 2000 := by
    rw [hx]
    refine Nat.le_trans (count_join _ (fun a ha c hc => ?_)) (by rw [List.length_map]; exact hn)
    obtain ⟨s, _, rfl⟩ := List.mem_map.1 ha
    exact (sx_mem hc).1
  have hf0 := Lib.hid (Frm.refl w.heap.size bm w)
  clear hT hm hx hz
  obtain ⟨i9, hi, hz0, hz1, hz2⟩ := info_parts info9
  have hcw : Calls Tryz.prog 92 #[.string x, .string ⟨#[38]⟩] w fun e w' => e = .returned (.int .i64 (x.data.toList.count 38 : Nat)) ∧ w = w' := count_any x 38 w (by omega)
  have HCW := Lib.hid hcw
  generalize x.data.toList.count 38 = cn at *
  clear hcw
  go_enter Tryz.func106, Tryz.ntmps106
  go_wp2_with (fail)
  refine Calls.mono HCW.out ?_
  rintro e w1 ⟨rfl, rfl⟩
  clear HCW
  go_wp2_with (fail)
  refine Calls.mono (max_any (cn + 1) _ (by omega)) ?_
  rintro e w1 ⟨rfl, rfl⟩
  go_wp2
  go_loopw [1, 4] (fun v1 v4 wr => ∃ (D : DataW Value) (qs : List TripB) (R : List (ByteArray × ByteArray)) (nn : Nat) (q : ByteArray), v1 = .string q ∧ v4 = .nilIface ∧ q.size ≤ x.size ∧ nn + R.length ≤ 2000 ∧ Hid (q.data.toList = joinR (R.map sxB)) ∧
      Hid (wr.ownsMap Tryz.prog 9 tokR bm nn D) ∧ Hid (IsOf D (entT qs)) ∧ Hid (OwnM w.heap.size wr qs) ∧ Hid (R.foldl addG (plainT qs) = FL.foldl addG []) ∧ Hid (∀ s ∈ R, s.1.size ≤ M ∧ s.2.size ≤ M) ∧ Hid (∀ p ∈ qs, p.2.1.length ≤ nn) ∧ Hid (Frm w.heap.size bm w wr)) (fun v1 _ _ => strN v1)
  case atStart => exact ⟨_, [], FL, 0, x, rfl, rfl, Nat.le_refl _, by omega, HX, HM, Lib.hid isOf_nil, Lib.hid ⟨(fun q h => by cases h), List.Pairwise.nil⟩, Lib.hid rfl, HZ, Lib.hid (fun p h => by cases h), hf0⟩
  case round =>
    clear HM HX HZ hf0
    obtain ⟨D, qs, R, nn, q, rfl, rfl, hqx, hnn, hq, hm, hI, hO, hfold, hz, hlen, hfr⟩ := hrel
    cases R with
    | nil =>
      have hq0 : q = ⟨#[]⟩ := ba_ext hq.out
      subst hq0
      go_wp2
      go_ret
      exact ⟨rfl, D, qs, nn, hm, hI, hO, hfold, by omega, hfr⟩
    | cons s R =>
      obtain ⟨key, y⟩ := s
      obtain ⟨f0, hcut⟩ := cut_join (x := sxB (key, y)) (r := R.map sxB) (fun c hc => (sx_mem hc).1)
      have hq2 := hq.out
      rw [List.map_cons] at hq2
      rw [← hq2] at hcut
      have HCUT := Lib.hid hcut
      have hne : q.data.toList ≠ [] := by rw [hq2]; simp only [joinR]; intro e; exact sx_ne _ _ (List.append_eq_nil_iff.1 e).1
      have hqn := ba_ne hne
      have hnn2 : nn + R.length + 1 ≤ 2000 := by rw [List.length_cons] at hnn; omega
      have hkz := (hz.out _ List.mem_cons_self)
      have HZR : Hid (∀ s ∈ R, s.1.size ≤ M ∧ s.2.size ≤ M) := Lib.hid (fun s hs => hz.out s (List.mem_cons_of_mem _ hs))
      have HFO : Hid (R.foldl addG (addG (plainT qs) (key, y)) = FL.foldl addG []) := Lib.hid (by have h := hfold.out; rw [List.foldl_cons] at h; exact h)
      have hlq : (joinR (R.map sxB)).length < q.data.toList.length := by
        rw [hq2]
        have h1 := sx_ne key.data.toList y.data.toList
        have h2 := List.length_pos_iff.2 h1
        cases R with
        | nil => simp only [List.map_nil, joinR, List.flatMap_nil, List.append_nil, List.length_nil]; exact h2
        | cons s2 R => rw [List.map_cons, joinR_cons, List.length_append, List.length_cons]; omega
      have HTr := Lib.hid (HT.out.up (hfr.out.below (by omega)) hb0)
      have hNr := hfr.out.size
      dsimp only at hkz
      clear hcut hq2 hne hnn hq hfold hz
      go_wp2_with (fail)
      refine Calls.mono (zzCut_one q 38 _ (by omega)) ?_
      rintro e w1 ⟨a, b, f, rfl, hab, haz, hbz, hb1⟩
      have hab2 := hab.out
      rw [HCUT.out] at hab2
      simp only [Prod.mk.injEq] at hab2
      obtain ⟨ha, hbq, -⟩ := hab2
      have hbs : b.size < q.size := by have h1 := congrArg List.length hbq; rw [size_len] at h1; rw [size_len] at hlq; omega
      have HBQ := Lib.hid hbq.symm
      have hsc := has_no (c := 59) (a := a.data.toList) (fun c hc => by rw [← ha] at hc; exact (sx_mem hc).2)
      have HAC := Lib.hid (show cutF 61 a.data.toList = (escF 32 key.data.toList, escF 32 y.data.toList, true) by rw [← ha]; exact cut_sx key.data.toList y.data.toList)
      have hane := ba_ne (a := a) (by rw [← ha]; exact sx_ne _ _)
      have HTr1 := Lib.hid (HTr.out.up hb1 HTr.out.pos)
      have HM1 : Hid (w1.ownsMap Tryz.prog 9 tokR bm nn D) := Lib.hid (owns_map_of hm.out (hb1.block bm hm.out.lt))
      have HO1 := Lib.hid (hO.out.below hb1)
      have HF1 := Lib.hid (hfr.out.trans (Frm.of_below (hb1.mono hNr)))
      have hcc := zzContains_one a 59 w1 (by omega)
      rw [hsc] at hcc
      have HCC := Lib.hid hcc
      clear hab HCUT ha hbq hsc hcc hb1 hm hO hfr HTr hNr hlq
      go_wp2_with (fail)
      refine Calls.mono HCC.out ?_
      rintro e w2 ⟨rfl, rfl⟩
      clear HCC
      go_wp2_with (fail)
      refine Calls.mono (zzCut_one a 61 _ (by omega)) ?_
      rintro e w2 ⟨ka, ya, f2, rfl, hab, haz2, hbz2, hb2⟩
      have hab2 := hab.out
      rw [HAC.out] at hab2
      simp only [Prod.mk.injEq] at hab2
      obtain ⟨hka, hya, rfl⟩ := hab2
      have hd1 := dec32 key.data.toList
      have hd2 := dec32 y.data.toList
      rw [hka] at hd1
      rw [hya] at hd2
      have HD1 := Lib.hid hd1
      have HD2 := Lib.hid hd2
      have HTr2 := Lib.hid (HTr1.out.up hb2 HTr1.out.pos)
      have HM2 : Hid (w2.ownsMap Tryz.prog 9 tokR bm nn D) := Lib.hid (owns_map_of HM1.out (hb2.block bm HM1.out.lt))
      have HO2 := Lib.hid (HO1.out.below hb2)
      have HF2 := Lib.hid (HF1.out.trans (Frm.of_below (hb2.mono HF1.out.size)))
      clear hab HAC hka hya hd1 hd2 hb2 HM1 HO1 HF1 HTr1
      go_wp2_with (fail)
      refine Calls.mono (qunescape_any ka _ HTr2.out (by omega) HD1.out.1) ?_
      rintro e w3 ⟨t1, rfl, ht1, hb3⟩
      obtain rfl : t1 = key := ba_ext (by rw [ht1.out, HD1.out.2])
      have HTr3 := Lib.hid (HTr2.out.up hb3 HTr2.out.pos)
      have HM3 : Hid (w3.ownsMap Tryz.prog 9 tokR bm nn D) := Lib.hid (owns_map_of HM2.out (hb3.block bm HM2.out.lt))
      have HO3 := Lib.hid (HO2.out.below hb3)
      have HF3 := Lib.hid (HF2.out.trans (Frm.of_below (hb3.mono HF2.out.size)))
      clear ht1 hb3 HM2 HO2 HF2 HTr2 HD1
      go_wp2_with (fail)
      refine Calls.mono (qunescape_any ya _ HTr3.out (by omega) HD2.out.1) ?_
      rintro e w4 ⟨t2, rfl, ht2, hb4⟩
      obtain rfl : t2 = y := ba_ext (by rw [ht2.out, HD2.out.2])
      have HM4 : Hid (w4.ownsMap Tryz.prog 9 tokR bm nn D) := Lib.hid (owns_map_of HM3.out (hb4.block bm HM3.out.lt))
      have HO4 := Lib.hid (HO3.out.below hb4)
      have HF4 := Lib.hid (HF3.out.trans (Frm.of_below (hb4.mono HF3.out.size)))
      clear ht2 hb4 HM3 HO3 HF3 HTr3 HD2
      have hkey := WideMaps.keyOf_string_mk (P := Tryz.prog) Tryz.underlying9 (s := t1) (by unfold maxLen; omega)
      have HB5 := Lib.hid (HF4.out.trans (Frm.of_below ((Below.refl w.heap.size w4).alloc HF4.out.size (.cells #[.string t2] 9))))
      have HO5 := Lib.hid (HO4.out.below ((Below.refl w4.heap.size w4).alloc (Nat.le_refl _) (.cells #[.string t2] 9)))
      have HM5 := Lib.hid (HM4.out.alloc (.cells #[.string t2] 9))
      have KT := Lib.hid (block_at (blk_new w4 (.cells #[.string t2] 9)))
      have hszw : w.heap.size ≤ (w4.alloc (.cells #[.string t2] 9)).heap.size := HB5.out.size
      by_cases hkm : t1.data.toList ∈ (entT qs).map (·.1)
      · obtain ⟨k, p, hp, rfl⟩ : ∃ (k : Nat) (p : TripB), qs[k]? = some p ∧ p.1 = t1 := by
          obtain ⟨e, he, h1⟩ := List.mem_map.1 hkm
          obtain ⟨p, hp, rfl⟩ := List.mem_map.1 he
          obtain ⟨k, hk⟩ := List.mem_iff_getElem?.1 hp
          exact ⟨k, p, hk, ba_ext h1⟩
        obtain ⟨key, ys, vx⟩ := p
        have hpm := List.mem_of_getElem? hp
        have hown := (HO5.out.each _ hpm).2
        have hne := (HO5.out.each _ hpm).1
        obtain ⟨hrl, hr⟩ := id hown
        dsimp only at hr hne hown hkey hkz hkm HFO hrl
        rcases hr with ⟨-, h0⟩ | ⟨gv, cv, curv, rfl, hbv, hgv, hcv, hmv, hsv, htv⟩
        · exact absurd (List.length_eq_zero_iff.1 h0) hne
        have hlk := look_of HM4.out hI.out (key := key) (a := some ⟨gv, 0, none⟩) (m := ys.length) (c := cv) (by unfold maxLen; omega) (List.mem_map.2 ⟨_, hpm, rfl⟩)
        have HOW := Lib.hid hown
        have HP := Lib.hid hp
        have hyl := hlen.out _ hpm
        dsimp only at hyl
        clear hp hown hrl hgv hsv htv hkm
        go_wp2_with (at_builtin; refine wpList_append_own_at _ rfl (.tmp 58) (.tmp 60) 39 rfl w.heap.size 9 i9 (.string ⟨#[]⟩) 1 16 Tryz.underlying39 hi hz0 hz1 hz2 rfl (by decide) _ _ _ rfl HOW.out ⟨w4.heap.size, 0, none⟩ 1 1 [.string t2] rfl rfl KT.out ?d2 ?d3 ?d4 hszw ?_)
        case d2 => first | rfl | (intro u hu; rw [List.mem_singleton] at hu; subst hu; rfl)
        case d3 => unfold maxLen; omega
        case d4 => omega
        intro v' w5 hown' hgrow _ hwhere
        obtain ⟨hrl2, hr2⟩ := id hown'
        rcases hr2 with ⟨-, h0⟩ | ⟨gw, cw, curw, rfl, hbw, hgw, hcw, hmw, hsw, htw⟩
        · exact absurd h0 (by omega)
        have HM6 := Lib.hid (HM5.out.kept hgrow (map_ne_row HM5.out HOW.out))
        have HO6 := Lib.hid (HO5.out.app HP.out hgrow hown' (by simpa using hwhere))
        have HB6 := Lib.hid (HB5.out.trans (Frm.of_below ((Below.refl w.heap.size _).grown hgrow hszw (own_ge HOW.out))))
        clear hown' hgrow hwhere hrl2 hgw hsw htw HM4 HO4 HF4 HB5 HO5 HM5 KT hszw HOW hlk
        go_wp2_with (at_mapUpdate; refine wpList_mapUpdate_own _ rfl _ _ _ 77 rfl 9 39 law9 Tryz.underlying77 tokR bm nn _ rfl HM6.out (by unfold maxLen; omega) _ _ _ rfl rfl hkey (.held (.slice (some ⟨gw, 0, none⟩) (ys.length + 1) cw)) [] rfl ?_; intro w6 hown6 hgrow6)
        have HO7 := Lib.hid (HO6.out.mapped HM6.out hgrow6)
        have HB7 := Lib.hid (HB6.out.trans (Frm.of_map hgrow6 HB6.out.size))
        have HI7 : Hid (IsOf (D.put (.string key.data.toList) (.held (.slice (some ⟨gw, 0, none⟩) (ys.length + 1) cw))) (entT (qs.set k (key, ys ++ [t2], .slice (some ⟨gw, 0, none⟩) (ys.length + 1) cw)))) := Lib.hid (by
          rw [entT_set]
          refine isOf_set hI.out (u := .slice (some ⟨gv, 0, none⟩) ys.length cv) ?_
          unfold entT
          rw [List.getElem?_map, HP.out]; rfl)
        have HF7 : Hid (R.foldl addG (plainT (qs.set k (key, ys ++ [t2], .slice (some ⟨gw, 0, none⟩) (ys.length + 1) cw))) = FL.foldl addG []) := Lib.hid (by
          rw [plainT_set, ← HFO.out]
          congr 1
          refine (addG_at (plainT qs) k (key, ys) t2 (plain_nodup hI.out) ?_).symm
          unfold plainT
          rw [List.getElem?_map, HP.out]; rfl)
        have HL7 : Hid (∀ p ∈ qs.set k (key, ys ++ [t2], .slice (some ⟨gw, 0, none⟩) (ys.length + 1) cw), p.2.1.length ≤ nn + 1) := Lib.hid (fun p hp => by
          rcases List.mem_or_eq_of_mem_set hp with hp | rfl
          · exact Nat.le_succ_of_le (hlen.out p hp)
          · simp; exact hyl)
        have HM7 := Lib.hid hown6
        have HZR2 : Hid (∀ (a b : ByteArray), (a, b) ∈ R → a.size ≤ M ∧ b.size ≤ M) := Lib.hid (fun a b h => HZR.out (a, b) h)
        have HL72 := Lib.hid (fun (a : ByteArray) (l : List ByteArray) (v : Value) h => HL7.out (a, l, v) h)
        clear hown6 hgrow6
        exact ⟨⟨by omega, _, _, R, nn + 1, by omega, HBQ, HM7, HI7, HO7, HF7, HZR2, HL72, HB7⟩, by simp [strN, hbs]⟩
      · have hlk := look_no HM4.out hI.out (key := t1) (by unfold maxLen; omega) hkm
        have hnil : (w4.alloc (.cells #[.string t2] 9)).ownsRow w.heap.size 9 1 (.slice none 0 0) 0 [] := ⟨rfl, Or.inl ⟨rfl, rfl⟩⟩
        go_wp2_with (at_builtin; refine wpList_append_own_at _ rfl (.tmp 58) (.tmp 60) 39 rfl w.heap.size 9 i9 (.string ⟨#[]⟩) 1 16 Tryz.underlying39 hi hz0 hz1 hz2 rfl (by decide) _ _ _ rfl hnil ⟨w4.heap.size, 0, none⟩ 1 1 [.string t2] rfl rfl KT.out ?d2 ?d3 ?d4 hszw ?_)
        case d2 => first | rfl | (intro u hu; rw [List.mem_singleton] at hu; subst hu; rfl)
        case d3 => unfold maxLen; omega
        case d4 => omega
        intro v' w5 hown' hgrow _ hwhere
        obtain ⟨hrl2, hr2⟩ := id hown'
        rcases hr2 with ⟨-, h0⟩ | ⟨gw, cw, curw, rfl, hbw, hgw, hcw, hmw, hsw, htw⟩
        · exact absurd h0 (by omega)
        have HM6 := Lib.hid (HM5.out.kept hgrow (by simp [Value.ownBlock]))
        have HO6 := Lib.hid (HO5.out.new (key := t1) hgrow hown' (by
          rcases hwhere with h | h
          · cases h
          · rw [h]; simp))
        have HB6 := Lib.hid (HB5.out.trans (Frm.of_below ((Below.refl w.heap.size _).grown hgrow hszw (fun k h => by cases h))))
        clear hown' hgrow hwhere hrl2 hgw hsw htw HM4 HO4 HF4 HB5 HO5 HM5 KT hszw hnil hlk
        try go_frame
        go_wp2_with (at_mapUpdate; refine wpList_mapUpdate_own _ rfl _ _ _ 77 rfl 9 39 law9 Tryz.underlying77 tokR bm nn _ rfl HM6.out (by unfold maxLen; omega) _ _ _ rfl rfl hkey (.held (.slice (some ⟨gw, 0, none⟩) 1 cw)) [] rfl ?_; intro w6 hown6 hgrow6)
        have HO7 := Lib.hid (HO6.out.mapped HM6.out hgrow6)
        have HB7 := Lib.hid (HB6.out.trans (Frm.of_map hgrow6 HB6.out.size))
        have HI7 : Hid (IsOf (D.put (.string t1.data.toList) (.held (.slice (some ⟨gw, 0, none⟩) 1 cw))) (entT (qs ++ [(t1, [t2], .slice (some ⟨gw, 0, none⟩) 1 cw)]))) := Lib.hid (by
          rw [entT_app]
          exact isOf_put hI.out hkm)
        have HF7 : Hid (R.foldl addG (plainT (qs ++ [(t1, [t2], .slice (some ⟨gw, 0, none⟩) 1 cw)])) = FL.foldl addG []) := Lib.hid (by
          rw [plainT_app, ← HFO.out, addG_new _ _ (plain_notin hkm)])
        have HL7 : Hid (∀ p ∈ qs ++ [(t1, [t2], Value.slice (some ⟨gw, 0, none⟩) 1 cw)], p.2.1.length ≤ nn + 1) := Lib.hid (fun p hp => by
          rcases List.mem_append.1 hp with hp | hp
          · exact Nat.le_succ_of_le (hlen.out p hp)
          · rw [List.mem_singleton] at hp; subst hp; simp)
        have HM7 := Lib.hid hown6
        have HZR2 : Hid (∀ (a b : ByteArray), (a, b) ∈ R → a.size ≤ M ∧ b.size ≤ M) := Lib.hid (fun a b h => HZR.out (a, b) h)
        have HL72 := Lib.hid (fun (a : ByteArray) (l : List ByteArray) (v : Value) h => HL7.out (a, l, v) h)
        clear hown6 hgrow6
        first | go_frame | skip
        go_roundw
        case rel => exact ⟨_, _, R, nn + 1, b, rfl, rfl, by omega, by omega, HBQ, HM7, HI7, HO7, HF7, HZR, HL7, HB7⟩
        case measure => simp [strN, hbs]
end Go.Proofs.YtfkgkkmcaaefnaaGreatDoor.Wk
namespace Go.Proofs.YtfkgkkmcaaefnaaGreatDoor.Wk
open Go.RowKit Go.Proofs.YtfkgkkmcaaefnaaGreatDoor.Pu Go.Maps

/-- a map that the call has made: its settings, each row its own -/
structure MapAt (B bm : Nat) (w : World) (D : DataW Value) (qs : List TripB) (nn : Nat) : Prop where
  own : w.ownsMap Tryz.prog 9 tokR bm nn D
  is : IsOf D (entT qs)
  rows : OwnM B w qs
  ge : B ≤ bm

set_option maxHeartbeats 1000000 in
set_option maxRecDepth 100000 in
theorem ParseQuery_any (M : Nat) (x : ByteArray) (FL : List (ByteArray × ByteArray)) (w : World) (hT : Tab w) (hx : x.data.toList = joinR (FL.map sxB)) (hxz : x.size ≤ 1000000000000)
    (hn : FL.length ≤ 2000) (hM : M ≤ 10000000) (hz : ∀ s ∈ FL, s.1.size ≤ M ∧ s.2.size ≤ M) :
    Calls Tryz.prog 85 #[.string x] w fun e w' => ∃ (bm : Nat) (D : DataW Value) (qs : List TripB) (nn : Nat), e = .returned (.tuple #[.map (some bm), .nilIface]) ∧ Hid (MapAt w.heap.size bm w' D qs nn) ∧ Hid (plainT qs = FL.foldl addG []) ∧ nn ≤ 2000 ∧ Below w.heap.size w w' := by
  have hmm := @run_makeMap Tryz.prog
  have HT := Lib.hid hT
  have hpos := hT.pos
  have HB := Lib.hid ((Below.refl w.heap.size w).alloc (Nat.le_refl _) (.map #[] 0))
  have HM := Lib.hid (World.ownsMap_made w Tryz.prog 9 tokR)
  have HPQ := Lib.hid (parseQuery_any M w.heap.size x FL (w.alloc (.map #[] 0)) (hT.up HB.out hpos) HM.out hx hxz hpos hn hM hz)
  clear hT hx hz
  go_enter Tryz.func85, Tryz.ntmps85
  go_wp2_with (fail)
  refine Calls.mono HPQ.out ?_
  rintro e w1 ⟨D, qs, nn, rfl, hm, hI, hO, hp, hnn, hf⟩
  have HA : Hid (MapAt w.heap.size w.heap.size w1 D qs nn) := Lib.hid ⟨hm.out, hI.out, ⟨fun q hq => ⟨(hO.out.each q hq).1, owns_mono (hO.out.each q hq).2 (by simp)⟩, hO.out.apart⟩, Nat.le_refl _⟩
  have HF := Lib.hid (HB.out.trans (hf.out.below (by simp)))
  clear HPQ hm hI hO hf
  go_wp2
  go_ret2
  exact ⟨_, D, qs, nn, rfl, HA, hp, hnn, HF.out⟩

set_option maxHeartbeats 1000000 in
set_option maxRecDepth 100000 in
theorem Query_any (M g : Nat) (u : UrlB) (FL : List (ByteArray × ByteArray)) (w : World) (hT : Tab w) (hg : w.heap[g]? = some (urlObj u)) (hx : u.rq.data.toList = joinR (FL.map sxB)) (hxz : u.rq.size ≤ 1000000000000)
    (hn : FL.length ≤ 2000) (hM : M ≤ 10000000) (hz : ∀ s ∈ FL, s.1.size ≤ M ∧ s.2.size ≤ M) :
    Calls Tryz.prog 55 #[ptr g] w fun e w' => ∃ (bm : Nat) (D : DataW Value) (qs : List TripB) (nn : Nat), e = .returned (.map (some bm)) ∧ Hid (MapAt w.heap.size bm w' D qs nn) ∧ Hid (plainT qs = FL.foldl addG []) ∧ nn ≤ 2000 ∧ Below w.heap.size w w' := by
  have HPQ := Lib.hid (ParseQuery_any M u.rq FL w hT hx hxz hn hM hz)
  have c6 : w.cell? ⟨g, 6, none⟩ = some (.string u.rq) := blk_cell hg 6
  clear hT hx hz hg
  go_enter Tryz.func55, Tryz.ntmps55
  go_wp2_with (fail)
  refine Calls.mono HPQ.out ?_
  rintro e w1 ⟨bm, D, qs, nn, rfl, hA, hp, hnn, hb⟩
  clear HPQ c6
  go_wp2
  go_ret
  exact ⟨bm, D, qs, nn, rfl, hA, hp, hnn, hb⟩
end Go.Proofs.YtfkgkkmcaaefnaaGreatDoor.Wk
