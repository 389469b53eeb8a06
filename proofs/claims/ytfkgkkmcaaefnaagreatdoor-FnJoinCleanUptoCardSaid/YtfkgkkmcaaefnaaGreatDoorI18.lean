/-
  PLAIN: user information, fragments and paths without dots, as String and Join write them.
  PLAIN: the string that String writes is the one that Join writes.
  PLAIN: a URL that ResolveReference gives is written as RFC 3986, 5.2 asks.
  THE WALK of impl.Resolve, at a base and a reference that are fine.
-/
import Derived.Test.YtfkgkkmcaaefnaaGreatDoorI14
import Derived.Test.YtfkgkkmcaaefnaaGreatDoorI15
import Derived.Test.YtfkgkkmcaaefnaaGreatDoorI11
import Derived.Test.YtfkgkkmcaaefnaaGreatDoorS11
import Derived.Test.YtfkgkkmcaaefnaaGreatDoorS13
set_option linter.unusedSimpArgs false
set_option linter.unusedVariables false
namespace Go.Proofs.YtfkgkkmcaaefnaaGreatDoor.Wk
open Go.RowKit Go.Proofs.YtfkgkkmcaaefnaaGreatDoor.Pu

theorem unres16 : ∀ n, n < 256 → unresN n = true → escN 16 n = false ∧ n ≠ 37 := by decide +kernel
theorem unres_dec {l : L} (h : unresL l = true) : decB false l = l := de_id false l fun c hc => by
  have := unres16 _ c.toNat_lt (List.all_eq_true.1 h c hc)
  exact ⟨this.2, fun h => by cases h⟩
theorem unres_esc {l : L} (h : unresL l = true) : escF 16 l = l := by
  induction l with
  | nil => rfl
  | cons c r ih =>
    unfold unresL at h ih
    rw [List.all_cons, Bool.and_eq_true] at h
    rw [escF_cons, ih h.2]
    have h2 : spB 16 c = false := by unfold spB; simp
    unfold esc1
    rw [h2, (unres16 _ c.toNat_lt h.1).1]; rfl
/-- the user information that is written is what was read -/
theorem user_s {B : Nat} {w : World} {up : Value} {hu : Bool} {us : L} (h : UserAt B w up hu us) (hx : exactU us = true) :
    ∃ (un pw : ByteArray) (ps : Bool), UserS w up hu un pw ps ∧ uiF hu un pw ps = (if hu = true then us ++ [64] else []) ∧ un.size ≤ us.length ∧ pw.size ≤ us.length ∧ ∃ o, up = .pointer o := by
  rcases h with ⟨h1, h2⟩ | ⟨h1, g, un, pw, ps, h2, h3, h4, h5, h6, h7⟩
  · refine ⟨⟨#[]⟩, ⟨#[]⟩, false, Or.inl ⟨h1, h2⟩, by unfold uiF; rw [h1]; rfl, Nat.zero_le _, Nat.zero_le _, _, h2⟩
  · unfold exactU at hx
    rw [Bool.and_eq_true, Bool.or_eq_true, decide_eq_true_iff] at hx
    have hun : un.data.toList = us.take (idx [58] us) := by rw [h5, unres_dec hx.1]
    have hle := idx_le [58] us
    by_cases hlt : idx [58] us < us.length
    · have hd : unresL (us.drop (idx [58] us + 1)) = true := by
        rcases hx.2 with h | h
        · omega
        · exact h
      have hpw : pw.data.toList = us.drop (idx [58] us + 1) := by rw [h7, unres_dec hd]
      refine ⟨un, pw, ps, Or.inr ⟨h1, g, h2, h4⟩, ?_, ?_, ?_, _, h2⟩
      · unfold uiF
        rw [if_pos h1, if_pos h1, h6, decide_eq_true hlt, if_pos rfl, hun, hpw, unres_esc hx.1, unres_esc hd, ← cut_at 58 us hlt]
      · rw [← size_len, hun, List.length_take]; omega
      · rw [← size_len, hpw, List.length_drop]; omega
    · have hpw : pw.data.toList = [] := by rw [h7, List.drop_eq_nil_of_le (by omega)]; rfl
      refine ⟨un, pw, ps, Or.inr ⟨h1, g, h2, h4⟩, ?_, ?_, ?_, _, h2⟩
      · unfold uiF
        rw [if_pos h1, if_pos h1, h6, decide_eq_false hlt, hun, unres_esc hx.1]
        simp only [Bool.false_eq_true, if_false, List.append_nil]
        rw [List.take_of_length_le (by omega)]
      · rw [← size_len, hun, List.length_take]; omega
      · rw [← size_len, hpw]; exact Nat.zero_le _
theorem dec_nil : ∀ (l : L), pctOk l = true → decB false l = [] → l = []
  | [], _, _ => rfl
  | c :: r, h, h2 => by
    by_cases h37 : c.toNat = 37
    · obtain ⟨a, b, r', hr, _⟩ := po_inv h37 h
      rw [hr, de_pct _ _ _ _ _ h37] at h2; cases h2
    · rw [de_else _ _ _ h37] at h2; cases h2
theorem frag_empty {fr rf : ByteArray} (h : FragS [] fr rf) : fr = ⟨#[]⟩ ∧ rf = ⟨#[]⟩ := by
  obtain ⟨fb, h1, h2, h3⟩ := h
  have hf : fb = ⟨#[]⟩ := ba_nil h1
  have hfr : fr = ⟨#[]⟩ := ba_nil (by rw [h2, h1]; rfl)
  rcases h3 with h | h
  · exact ⟨hfr, h.1⟩
  · exact ⟨hfr, by rw [h.1, hf]⟩
theorem frag_iff {p : L} {fr rf : ByteArray} (hc : pctOk p = true) (h : FragS p fr rf) : (fr.data.toList = [] ↔ p = []) ∧ (fr = ⟨#[]⟩ → rf = ⟨#[]⟩) := by
  obtain ⟨fb, rfl, h2, h3⟩ := h
  have h4 : fr.data.toList = [] ↔ fb.data.toList = [] := ⟨fun h => dec_nil _ hc (by rw [← h2]; exact h), fun h => by rw [h2, h]; rfl⟩
  refine ⟨h4, fun h => ?_⟩
  have hf : fb = ⟨#[]⟩ := ba_nil (h4.1 (by rw [h]))
  rcases h3 with h | h
  · exact h.1
  · rw [h.1, hf]
theorem path_q {p : L} {pa rp : ByteArray} (h : PathS p pa rp) (hn : p ≠ [37, 50, 65]) : ∃ pb : ByteArray, pb.data.toList = p ∧ PathQ pb pa rp := by
  rcases h with ⟨pb, h1, h2⟩ | ⟨h1, h2, h3⟩
  · exact ⟨pb, h1, Or.inl ⟨h2, by rw [h1]; exact hn⟩⟩
  · exact ⟨⟨#[42]⟩, h1.symm, Or.inr ⟨rfl, h2, h3⟩⟩
/-- remove_dot_segments leaves a rootless path without dots -/
theorem removeDots_rootless {p : L} (h0 : p ≠ []) (h47 : p[0]? ≠ some 47) (h : dotsB p = false) : removeDots p = p := by
  unfold removeDots
  have hlen := List.length_pos_iff.2 h0
  obtain ⟨k, hk⟩ : ∃ k, p.length = k + 1 := ⟨p.length - 1, by omega⟩
  rw [hk]
  have hidx : idx [47] p ≠ 0 := by
    intro hz
    have : idx [47] p < p.length := by omega
    have := idx_at 47 p this
    rw [hz] at this
    exact h47 this
  have hstep : rdStep p [] = (p.drop (idx [47] p), p.take (idx [47] p)) := by
    have hhead : ∀ q : L, (47 : UInt8) ∉ q → (q ++ [47]).isPrefixOf p = true → q = p.take (idx [47] p) := by
      intro q hq hpre
      obtain ⟨t, ht⟩ := List.isPrefixOf_iff_prefix.1 hpre
      have hi : idx [47] p = q.length := by
        rw [← ht, List.append_assoc]
        unfold idx
        rw [tw_len _ q ([47] ++ t) (List.all_eq_true.2 fun c hc => by rw [inB_one]; simp; intro e; exact hq (by rw [← e]; exact hc)) (Or.inr ⟨47, t, rfl, by rw [inB_one]; simp⟩)]
      rw [hi, ← ht, List.append_assoc, List.take_left]
    have hnd : isDot (p.take (idx [47] p)) = false := by
      rw [Bool.eq_false_iff]; intro hd
      rw [dots_hit rfl hd] at h; cases h
    have n1 : ([46, 46, 47] : L).isPrefixOf p = false := by
      rw [Bool.eq_false_iff]; intro hp
      have := hhead [46, 46] (by decide) hp
      rw [← this] at hnd; exact absurd hnd (by decide)
    have n2 : ([46, 47] : L).isPrefixOf p = false := by
      rw [Bool.eq_false_iff]; intro hp
      have := hhead [46] (by decide) hp
      rw [← this] at hnd; exact absurd hnd (by decide)
    have hf : ∀ t : L, (47 :: t).isPrefixOf p = false := by
      intro t
      rw [Bool.eq_false_iff]; intro hp
      obtain ⟨t2, ht⟩ := List.isPrefixOf_iff_prefix.1 hp
      apply h47; rw [← ht]; rfl
    have n7 : ¬ (p = [46] ∨ p = [46, 46]) := by
      rintro (e | e)
      · rw [e] at h; exact absurd h (by decide)
      · rw [e] at h; exact absurd h (by decide)
    rw [rs8 n1 n2 (hf _) (by intro e; apply h47; rw [e]; rfl) (hf _) (by intro e; apply h47; rw [e]; rfl) n7]
    have e1 : 1 + idx [47] (p.drop 1) = idx [47] p := by
      cases p with
      | nil => exact absurd rfl h0
      | cons a t =>
        have ha : a ≠ 47 := fun e => h47 (by rw [e]; rfl)
        rw [idx_miss _ _ _ (by rw [inB_one]; simpa using ha)]
        simp; omega
    rw [e1]; rfl
  rw [rdF_go h0 hstep]
  by_cases hl : idx [47] p < p.length
  · have hd : p.drop (idx [47] p) = 47 :: p.drop (idx [47] p + 1) := by
      rw [List.drop_eq_getElem_cons hl]
      congr 1
      have := idx_at 47 p hl
      rw [List.getElem?_eq_getElem hl] at this
      exact Option.some.inj this
    rw [hd, rd_segs (p.drop (idx [47] p + 1)).length k _ _ (Nat.le_refl _) (by rw [List.length_drop]; omega)]
    have hnd : (segs 47 (p.drop (idx [47] p + 1))).any isDot = false := by
      unfold dotsB at h
      rw [segs_cut 47 p hl, List.any_cons, Bool.or_eq_false_iff] at h
      exact h.2
    rw [rd_nodots _ _ (segs_ne _ _) hnd, slashed_segs _ _ (Nat.le_refl _)]
    exact (cut_at 47 p hl).symm
  · have hle := idx_le [47] p
    rw [List.drop_eq_nil_of_le (by omega), rdF_nil, List.take_of_length_le (by omega)]
end Go.Proofs.YtfkgkkmcaaefnaaGreatDoor.Wk
namespace Go.Proofs.YtfkgkkmcaaefnaaGreatDoor.Wk
open Go.RowKit Go.Proofs.YtfkgkkmcaaefnaaGreatDoor.Pu

theorem str_join {t : Ref} {u : UrlB} {hu : Bool} {ui p fb : L} (h1 : t.hs = true) (hsc : u.sc.data.toList = lowerL t.sc) (hb : bodyS u hu ui p = (if t.ha = true then [47, 47] ++ t.au else []) ++ t.pa)
    (hq : qryS u = (if t.hq = true then [63] ++ t.qu else [])) (hf : frgS u fb = (if t.hf = true ∧ t.fr ≠ [] then [35] ++ t.fr else [])) :
    u.sc.data.toList ++ [58] ++ bodyS u hu ui p ++ qryS u ++ frgS u fb = joinF (lowerR t) := by
  unfold joinF lowerR
  simp only [h1, if_true]
  rw [hsc, hb, hq, hf]
  simp [List.append_assoc]
theorem qry_of {u : UrlB} {hq : Bool} {qu : L} (h1 : u.rq.data.toList = qu) (h2 : u.fq = (hq && decide (qu = []))) (h3 : hq = false → qu = []) : qryS u = (if hq = true then [63] ++ qu else []) := by
  unfold qryS
  rw [h1, h2]
  cases hq
  · rw [h3 rfl]; rfl
  · by_cases h : qu = []
    · rw [h]; rfl
    · rw [decide_eq_false h, decide_eq_true h]; simp
theorem frg_of {u : UrlB} {hf : Bool} {fr : L} (h1 : u.fr.data.toList = [] ↔ fr = []) (h3 : hf = false → fr = []) : frgS u fr = (if hf = true ∧ fr ≠ [] then [35] ++ fr else []) := by
  unfold frgS
  by_cases h : fr = []
  · rw [if_neg (by rw [h1.2 h]; simp), if_neg (by rintro ⟨_, h2⟩; exact h2 h)]
  · have hh : hf = true := by
      cases hf
      · exact absurd (h3 rfl) h
      · rfl
    rw [if_pos (fun e => h (h1.1 e)), if_pos ⟨hh, h⟩]; rfl
/-- the text of an authority -/
theorem au_eq {a : L} (h : (authF a).ok = true) : a = (if (authF a).hu = true then (authF a).us ++ [64] else []) ++ (authF a).ho := by
  by_cases hat : idx [64] a < a.length
  · have ha1 : auth1 a = some (a.take (idx [64] a), a.drop (idx [64] a + 1)) := by unfold auth1; rw [if_pos hat]
    have e : authF a = (if charsB [58] true (a.take (idx [64] a)) = true then ⟨true, a.take (idx [64] a), a.drop (idx [64] a + 1), hostF (a.drop (idx [64] a + 1))⟩ else ⟨true, a.take (idx [64] a), [], false⟩) := by
      unfold authF; rw [ha1]
    by_cases hch : charsB [58] true (a.take (idx [64] a)) = true
    · rw [if_pos hch] at e
      rw [e]
      simp only [if_true]
      conv => lhs; rw [cut_at 64 a hat]
      simp
    · rw [if_neg hch] at e
      rw [e] at h; cases h
  · have ha1 : auth1 a = none := by unfold auth1; rw [if_neg hat]
    have e : authF a = ⟨false, [], a, hostF a⟩ := by unfold authF; rw [ha1]
    rw [e]; simp
theorem ho_host {a : L} (h : (authF a).ok = true) : (authF a).ho.all (fun c => hostN c.toNat) = true := by
  have hf : hostF (authF a).ho = true := by
    by_cases hat : idx [64] a < a.length
    · have ha1 : auth1 a = some (a.take (idx [64] a), a.drop (idx [64] a + 1)) := by unfold auth1; rw [if_pos hat]
      unfold authF at h ⊢
      rw [ha1] at h ⊢
      simp only at h ⊢
      by_cases hch : charsB [58] true (a.take (idx [64] a)) = true
      · rw [if_pos hch] at h ⊢; exact h
      · rw [if_neg hch] at h; cases h
    · have ha1 : auth1 a = none := by unfold auth1; rw [if_neg hat]
      unfold authF at h ⊢
      rw [ha1] at h ⊢
      exact h
  refine List.all_eq_true.2 fun c hc => ?_
  rcases host_cases hf with ⟨m, r, he, hv6, hport, _⟩ | ⟨hch, hport, _⟩
  · rw [he] at hc
    simp only [List.cons_append, List.mem_cons, List.mem_append] at hc
    rcases hc with rfl | hc | rfl | hc
    · decide +kernel
    · exact (v6_host hv6 c hc).1
    · decide +kernel
    · exact (port_host hport c hc).1
  · rw [← List.take_append_drop (idx [58] (authF a).ho) (authF a).ho, List.mem_append] at hc
    rcases hc with hc | hc
    · exact (name_host hch c hc).1
    · exact (port_host hport c hc).1
/-- the authority as String writes it -/
theorem auth_body {u : UrlB} {a : L} {hu : Bool} {ui : L} (hok : (authF a).ok = true) (h1 : u.ho.data.toList = (authF a).ho) (h2 : hu = (authF a).hu) (h3 : ui = (if hu = true then (authF a).us ++ [64] else [])) (hoh : u.oh = false)
    (hne : (authF a).ho ≠ [] ∨ u.pa.data.toList ≠ []) : authS u hu ui = [47, 47] ++ a := by
  unfold authS
  rw [hoh]
  simp only [Bool.false_and, Bool.false_eq_true, if_false]
  rw [if_pos, h1, h3, h2, List.append_assoc, ← au_eq hok]
  rw [h1]
  rcases hne with h | h
  · rw [decide_eq_true h]; rfl
  · rw [decide_eq_true h]; simp
theorem exact_ho {r : Ref} (h : exactF r = true) (ha : r.ha = true) : (authF r.au).ho ≠ [] ∨ ((authF r.au).hu = false ∧ r.hs = true ∧ r.pa ≠ []) := by
  unfold exactF at h
  rw [Bool.and_eq_true, ha, Bool.true_and] at h
  by_cases hh : (authF r.au).ho = []
  · right
    have h2 := h.1
    rw [hh] at h2
    simp only [List.isEmpty_nil, Bool.true_and, Bool.not_eq_true', Bool.or_eq_false_iff] at h2
    refine ⟨h2.1.1, by simpa using h2.1.2, fun e => ?_⟩
    rw [e] at h2; simp at h2
  · exact Or.inl hh
theorem exact_us {r : Ref} (h : exactF r = true) : exactU (authF r.au).us = true := by
  unfold exactF at h; rw [Bool.and_eq_true] at h; exact h.2
theorem exact_au {r : Ref} (h : exactF r = true) (ha : r.ha = true) : r.hs = true ∨ r.au ≠ [] := by
  rcases exact_ho h ha with h1 | h1
  · right; intro e; rw [e, auth_nil] at h1; exact h1 rfl
  · exact Or.inl h1.2.1
end Go.Proofs.YtfkgkkmcaaefnaaGreatDoor.Wk
namespace Go.Proofs.YtfkgkkmcaaefnaaGreatDoor.Wk
open Go.RowKit Go.Proofs.YtfkgkkmcaaefnaaGreatDoor.Pu

/-- String writes this URL so -/
def Says (U : UrlB) (rb : ByteArray) (wx : World) (C : Prop) (T : L) : Prop :=
  ∃ (hu : Bool) (un pw : ByteArray) (ps : Bool) (fb : ByteArray), UserS wx U.us hu un pw ps ∧ StrH U hu rb fb ∧ StrZ U rb fb un pw ∧ (C → U.sc.data.toList ++ [58] ++ bodyS U hu (uiF hu un pw ps) rb.data.toList ++ qryS U ++ frgS U fb.data.toList = T)
theorem sch_ne {s : L} (h : isScheme s = true) : s ≠ [] := by rintro rfl; exact absurd h (by decide)
theorem low_ne {s : L} (h : s ≠ []) : lowerL s ≠ [] := by unfold lowerL; simpa using h
theorem low_nil {s : L} (h : lowerL s = []) : s = [] := by unfold lowerL at h; simpa using h
theorem lowerL_len (s : L) : (lowerL s).length = s.length := by unfold lowerL; simp
theorem sz (a : ByteArray) : a.size = a.data.toList.length := by rw [Array.length_toList]; rfl
theorem rp_ne {q : L} (h : q ≠ []) : rpF q ≠ [] := by intro e; have := rpF_head h; rw [e] at this; cases this
theorem path_of_q {rb pa rp : ByteArray} {q : L} (h : rb.data.toList = rpF q) (h2 : PathOf 1 rb pa rp) : PathQ rb pa rp := by
  refine Or.inl ⟨h2, fun e => ?_⟩
  rw [h] at e
  by_cases hq : q = []
  · rw [hq] at e; cases e
  · have := rpF_head hq; rw [e] at this; cases this
theorem rp_abs {rb : ByteArray} {q : L} (h : rb.data.toList = rpF q) : rb.data.toList = [] ∨ rb.data.toList[0]? = some 47 := by
  rw [h]
  by_cases hq : q = []
  · left; rw [hq]; rfl
  · right; exact rpF_head hq
theorem pa_nil {p pa rp : ByteArray} (hc : charsB [58, 64, 47] true p.data.toList = true) (h : PathQ p pa rp) : pa.data.toList = [] ↔ p.data.toList = [] := by
  rcases h with ⟨h, _⟩ | ⟨h1, h2, h3⟩
  · exact ⟨fun e => dec_nil _ (po_ch _ hc) (by rw [← h.1]; exact e), fun e => by rw [h.1, e]; rfl⟩
  · rw [h1, h2]
theorem pa_size {p pa rp : ByteArray} (h : PathQ p pa rp) : pa.size ≤ p.size ∧ rp.size ≤ p.size := by
  rcases h with ⟨h, _⟩ | ⟨h1, h2, h3⟩
  · refine ⟨by rw [sz, sz, h.1]; exact de_len _ _, ?_⟩
    rcases h.2 with e | e
    · rw [e.1]; exact Nat.zero_le _
    · rw [e.1]; exact Nat.le_refl _
  · rw [h1, h2, h3]; exact ⟨Nat.le_refl _, Nat.zero_le _⟩
theorem au_ho_len {a : L} (h : (authF a).ok = true) : (authF a).ho.length ≤ a.length ∧ (authF a).us.length ≤ a.length := by
  have e := au_eq h
  constructor
  · have := congrArg List.length e; rw [List.length_append] at this; omega
  · by_cases hh : (authF a).hu = true
    · rw [if_pos hh] at e
      have := congrArg List.length e; rw [List.length_append, List.length_append] at this; omega
    · have : (authF a).us = [] := by
        unfold authF at hh ⊢
        cases ha : auth1 a with
        | none => rfl
        | some x =>
          rw [ha] at hh
          exfalso; apply hh; simp only
          split <;> rfl
      rw [this]; exact Nat.zero_le _

theorem drop_nil (p : UInt8 → Bool) : ∀ (l : L), l.dropWhile p = [] → ∀ c ∈ l, p c = true
  | [], _, c, hc => by cases hc
  | a :: r, h, c, hc => by
    rw [List.dropWhile_cons] at h
    by_cases ha : p a = true
    · rw [if_pos ha] at h
      rcases List.mem_cons.1 hc with e | e
      · rw [e]; exact ha
      · exact drop_nil p r h c e
    · rw [if_neg ha] at h; cases h
theorem frag_s {r : Ref} {fr rf : ByteArray} (h : Fine r) (hz : r.le 3000000000) (hf : FragS r.fr fr rf) :
    ∃ fb : ByteArray, fb.data.toList = r.fr ∧ PathOf 64 fb fr rf ∧ fb.size ≤ 3000000000 ∧ rf.size ≤ 3000000000 := by
  obtain ⟨fb, h1, h2⟩ := hf
  have : fb.size ≤ 3000000000 := by rw [sz, h1]; exact hz.2.2.2.2
  refine ⟨fb, h1, h2, this, ?_⟩
  rcases h2.2 with e | e
  · rw [e.1]; exact Nat.zero_le _
  · rw [e.1]; exact this

theorem abs_case {b r : Ref} {u v : UrlB} {wx : World} {B : Nat} (hb : Fine b) (hr : Fine r) (hbs : b.hs = true) (hx : exactF r = true) (hc : r.hs = true ∨ r.ha = true) (hd : dotsB r.pa = false) (hz : r.le 3000000000) (hzb : b.le 3000000000)
    (hu : u.sc.data.toList = lowerL b.sc) (hv : UrlOf r v wx B) (hf : FragS r.fr v.fr v.rf) :
    ∃ (p : ByteArray) (o : Option Addr), v.us = .pointer o ∧ (v.sc.data.toList ≠ [] ∨ (v.sc.data.toList = [] ∧ v.ho.data.toList ≠ [])) ∧ charsB [58, 64, 47] true p.data.toList = true ∧ p.size ≤ 3000000000 ∧ PathQ p v.pa v.rp ∧
      ∀ (rb pa rp : ByteArray), rb.data.toList = rpF p.data.toList → PathOf 1 rb pa rp → Says { v with sc := (if v.sc.data.toList = [] then u.sc else v.sc), pa := pa, rp := rp } rb wx True (joinF (lowerR (resolveF b r))) := by
  obtain ⟨z1, z2, z3, z4, z5⟩ := hz
  obtain ⟨y1, y2, y3, y4, y5⟩ := hzb
  obtain ⟨fb, f1, f2, f3, f4⟩ := frag_s hr ⟨z1, z2, z3, z4, z5⟩ hf
  have hfi := (frag_iff (po_ch _ hr.fra) hf).1
  -- the resolved reference
  obtain ⟨t, ht⟩ : ∃ t, resolveF b r = t := ⟨_, rfl⟩
  have t1 : t.hs = true ∧ t.ha = r.ha ∧ t.au = r.au ∧ t.pa = removeDots r.pa ∧ t.hq = r.hq ∧ t.qu = r.qu ∧ t.hf = r.hf ∧ t.fr = r.fr ∧ t.sc = (if r.hs = true then r.sc else b.sc) := by
    rw [← ht]
    unfold resolveF
    by_cases h : r.hs = true
    · rw [if_pos h, if_pos h]; exact ⟨h, rfl, rfl, rfl, rfl, rfl, rfl, rfl, rfl⟩
    · have ha : r.ha = true := hc.resolve_left h
      rw [if_neg h, if_pos ha, if_neg h]; exact ⟨hbs, ha.symm, rfl, rfl, rfl, rfl, rfl, rfl, rfl⟩
  rw [ht]
  obtain ⟨t1, t2, t3, t4, t5, t6, t7, t8, t9⟩ := t1
  -- the scheme
  have hsc : (if v.sc.data.toList = [] then u.sc else v.sc).data.toList = lowerL t.sc ∧ lowerL t.sc ≠ [] ∧ (if v.sc.data.toList = [] then u.sc else v.sc).size ≤ 3000000000 := by
    rw [t9]
    by_cases h : r.hs = true
    · have hne := low_ne (sch_ne (hr.sch h))
      rw [if_pos h, if_neg (by rw [hv.sc]; exact hne)]
      exact ⟨hv.sc, hne, by rw [sz, hv.sc, lowerL_len]; exact z1⟩
    · have h0 : r.sc = [] := hr.nsc (Bool.eq_false_iff.2 h)
      rw [if_neg h, if_pos (by rw [hv.sc, h0]; rfl)]
      exact ⟨hu, low_ne (sch_ne (hb.sch hbs)), by rw [sz, hu, lowerL_len]; exact y1⟩
  have hsv : v.sc.data.toList ≠ [] ∨ (v.sc.data.toList = [] ∧ v.ho.data.toList ≠ []) := by
    by_cases h : r.hs = true
    · left; rw [hv.sc]; exact low_ne (sch_ne (hr.sch h))
    · have ha : r.ha = true := hc.resolve_left h
      right
      refine ⟨by rw [hv.sc, hr.nsc (Bool.eq_false_iff.2 h)]; rfl, ?_⟩
      have ho : opqF r = false := by unfold opqF; rw [ha]; simp
      rw [(hv.hie ho).2.1]
      rcases exact_ho hx ha with h1 | h1
      · exact h1
      · exact absurd h1.2.1 h
  have hqz : v.rq.size ≤ 3000000000 := by rw [sz, hv.rq]; exact z4
  have hqry : ∀ U : UrlB, U.rq = v.rq → U.fq = v.fq → qryS U = (if t.hq = true then [63] ++ t.qu else []) := fun U e1 e2 =>
    by rw [t5, t6]; exact qry_of (by rw [e1]; exact hv.rq) (by rw [e2]; exact hv.fq) hr.nqu
  have hfrg : ∀ U : UrlB, U.fr = v.fr → frgS U fb.data.toList = (if t.hf = true ∧ t.fr ≠ [] then [35] ++ t.fr else []) := fun U e1 => by
    rw [t7, t8, f1]; exact frg_of (by rw [e1]; exact hfi) hr.nfr
  by_cases hop : opqF r = true
  · -- opaque
    obtain ⟨o1, o2, o3, o4, o5, o6⟩ := hv.opq hop
    have hs : r.hs = true := by unfold opqF at hop; simp only [Bool.and_eq_true] at hop; exact hop.1.1
    have ha : r.ha = false := by unfold opqF at hop; simp only [Bool.and_eq_true, Bool.not_eq_true'] at hop; exact hop.1.2
    have h47 : r.pa[0]? ≠ some 47 := by unfold opqF at hop; simp only [Bool.and_eq_true, Bool.not_eq_true', decide_eq_false_iff_not] at hop; exact hop.2
    refine ⟨⟨#[]⟩, none, o5, hsv, rfl, Nat.zero_le _, ?_, ?_⟩
    · rw [o2, o3]; exact Or.inl ⟨⟨rfl, Or.inl ⟨rfl, rfl⟩⟩, by decide⟩
    · intro rb pa rp hrb hpo
      have hrb0 : rb = ⟨#[]⟩ := ba_nil hrb
      have hpa0 : pa = ⟨#[]⟩ := ba_nil (by rw [hpo.1, hrb0]; rfl)
      have hrp0 : rp.size = 0 := by
        rcases hpo.2 with e | e
        · rw [e.1]; rfl
        · rw [e.1, hrb0]; rfl
      have hopz : v.op.size ≤ 3000000000 := by rw [sz, o1]; exact z3
      refine ⟨false, ⟨#[]⟩, ⟨#[]⟩, false, fb, Or.inl ⟨rfl, o5⟩, ⟨?_, ?_, ?_, ?_, ?_, ?_⟩, ⟨?_, ?_, ?_, ?_, ?_, ?_, ?_, ?_, ?_, ?_⟩, ?_⟩
      · show (if v.sc.data.toList = [] then u.sc else v.sc).data.toList ≠ []
        rw [hsc.1]; exact hsc.2.1
      · intro _
        show PathQ rb pa rp ∧ _
        exact ⟨path_of_q hrb hpo, by rw [hrb0]; rfl⟩
      · show v.ho.data.toList.all _ = true
        rw [o4]; rfl
      · exact ⟨f2, by rw [f1]; exact hr.fra⟩
      · intro _ h; exfalso; have h : v.oh = true := h; rw [o6] at h; cases h
      · intro _ h; exfalso; apply h; show v.ho.data.toList = []; rw [o4]
      · have := hsc.2.2; show (if v.sc.data.toList = [] then u.sc else v.sc).size ≤ _; omega
      · show v.op.size ≤ _; omega
      · show v.ho.size ≤ _; rw [o4]; exact Nat.zero_le _
      · show pa.size ≤ _; rw [hpa0]; exact Nat.zero_le _
      · show v.rq.size ≤ _; omega
      · show v.rf.size ≤ _; omega
      · rw [hrb0]; exact Nat.zero_le _
      · omega
      · exact Nat.zero_le _
      · exact Nat.zero_le _
      · intro _
        refine str_join t1 hsc.1 ?_ (hqry _ rfl rfl) (hfrg _ rfl)
        rw [t2, t4, ha]
        simp only [Bool.false_eq_true, if_false, List.nil_append]
        unfold bodyS
        show (if v.op.data.toList ≠ [] then v.op.data.toList else _) = _
        rw [o1]
        by_cases hp : r.pa = []
        · rw [if_neg (by rw [hp]; simp), hp, hrb0]
          unfold authS
          show (if (v.oh && decide (v.ho.data.toList = []) && !false) = true then [] else if (decide (v.ho.data.toList ≠ []) || decide (pa.data.toList ≠ []) || false) = true then _ else _) ++ _ = _
          rw [o6, o4, hpa0]; rfl
        · rw [if_pos hp, removeDots_rootless hp h47 hd]
  · have hop : opqF r = false := Bool.eq_false_iff.2 hop
    obtain ⟨i1, i2, i3, i4, i5⟩ := hv.hie hop
    have hroot : r.pa = [] ∨ r.pa[0]? = some 47 := by
      by_cases ha : r.ha = true
      · exact (hr.aut ha).2
      · have ha : r.ha = false := Bool.eq_false_iff.2 ha
        have hs : r.hs = true := hc.resolve_right (by rw [ha]; decide)
        right
        unfold opqF at hop
        rw [hs, ha] at hop
        simpa using hop
    have hn : r.pa ≠ [37, 50, 65] := by
      rintro e
      rcases hroot with h | h
      · rw [e] at h; cases h
      · rw [e] at h; cases h
    have hok : (authF r.au).ok = true := by
      by_cases ha : r.ha = true
      · exact (hr.aut ha).1
      · rw [(hr.nau (Bool.eq_false_iff.2 ha)).1]; rfl
    obtain ⟨pb, p1, p2⟩ := path_q i4 hn
    obtain ⟨un, pw, ps, s1, s2, s3, s4, o, s5⟩ := user_s i3 (exact_us hx)
    have hz3 : pb.size ≤ 3000000000 := by rw [sz, p1]; exact z3
    refine ⟨pb, o, s5, hsv, by rw [p1]; exact hr.pat, hz3, p2, ?_⟩
    intro rb pa rp hrb hpo
    have hrp : rb.data.toList = r.pa := by rw [hrb, p1, rpF_id hroot hd]
    have hpq := path_of_q hrb hpo
    have hch : charsB [58, 64, 47] true rb.data.toList = true := by rw [hrp]; exact hr.pat
    have hpz := pa_size hpq
    have hrz : rb.size ≤ 3000000000 := by rw [sz, hrp]; exact z3
    have hal := au_ho_len hok
    refine ⟨(authF r.au).hu, un, pw, ps, fb, s1, ⟨?_, ?_, ?_, ?_, ?_, ?_⟩, ⟨?_, ?_, ?_, ?_, ?_, ?_, ?_, ?_, ?_, ?_⟩, ?_⟩
    · show (if v.sc.data.toList = [] then u.sc else v.sc).data.toList ≠ []
      rw [hsc.1]; exact hsc.2.1
    · exact fun _ => ⟨hpq, hch⟩
    · show v.ho.data.toList.all _ = true
      rw [i2]; exact ho_host hok
    · exact ⟨f2, by rw [f1]; exact hr.fra⟩
    · intro _ h _ _
      have h : v.oh = true := h
      rw [i5] at h
      simp only [Bool.and_eq_true, Bool.not_eq_true'] at h
      rw [hrp]; exact (hr.nau h.1.2).2.1
    · intro _ _; rw [hrp]; exact hroot
    · have := hsc.2.2; show (if v.sc.data.toList = [] then u.sc else v.sc).size ≤ _; omega
    · show v.op.size ≤ _; rw [i1]; exact Nat.zero_le _
    · show v.ho.size ≤ _; rw [sz, i2]; omega
    · show pa.size ≤ _; omega
    · show v.rq.size ≤ _; omega
    · show v.rf.size ≤ _; omega
    · omega
    · omega
    · omega
    · omega
    · intro _
      refine str_join t1 hsc.1 ?_ (hqry _ rfl rfl) (hfrg _ rfl)
      rw [t2, t3, t4, removeDots_id hroot hd]
      unfold bodyS
      rw [if_neg (by show ¬ v.op.data.toList ≠ []; rw [i1]; simp), hrp]
      by_cases ha : r.ha = true
      · rw [if_pos ha]
        congr 1
        refine auth_body hok i2 rfl s2 ?_ ?_
        · show v.oh = false
          rw [i5, ha]; simp
        · rcases exact_ho hx ha with h | h
          · exact Or.inl h
          · right
            show pa.data.toList ≠ []
            intro e; exact h.2.2 (by rw [← hrp]; exact (pa_nil hch hpq).1 e)
      · have ha : r.ha = false := Bool.eq_false_iff.2 ha
        have hs : r.hs = true := hc.resolve_right (by rw [ha]; decide)
        have h47 : r.pa[0]? = some 47 := by
          unfold opqF at hop
          rw [hs, ha] at hop
          simpa using hop
        rw [ha]
        simp only [Bool.false_eq_true, if_false]
        congr 1
        unfold authS
        have ha0 := (hr.nau ha).1
        rw [if_pos]
        show (v.oh && decide (v.ho.data.toList = []) && !(authF r.au).hu) = true
        rw [i5, i2, hs, ha, ha0, auth_nil, h47]; rfl

theorem rel_case {b r : Ref} {u v : UrlB} {wx : World} {B B' : Nat} (hb : Fine b) (hr : Fine r) (hbs : b.hs = true) (hba : b.ha = true) (hbf : b.hf = false) (hxb : exactF b = true) (hx : exactF r = true) (hc : r.hs = false ∧ r.ha = false)
    (hst : starF r = false) (hd : r.pa = [] → dotsB b.pa = false ∧ (r.hq = false → b.hq = true → b.qu ≠ [])) (hz : r.le 3000000000) (hzb : b.le 3000000000)
    (hu : UrlOf b u wx B) (hv : UrlOf r v wx B') (hfb : FragS b.fr u.fr u.rf) (hf : FragS r.fr v.fr v.rf) :
    ∃ (p q : ByteArray) (o : Option Addr), u.us = .pointer o ∧ v.sc = ⟨#[]⟩ ∧ v.ho = ⟨#[]⟩ ∧ v.us = .pointer none ∧ v.op = ⟨#[]⟩ ∧ u.op = ⟨#[]⟩ ∧ u.fr = ⟨#[]⟩ ∧ u.rf = ⟨#[]⟩ ∧ (v.fr = ⟨#[]⟩ → v.rf = ⟨#[]⟩) ∧
      charsB [58, 64, 47] true p.data.toList = true ∧ p.size ≤ 3000000000 ∧ PathQ p u.pa u.rp ∧ charsB [58, 64, 47] true q.data.toList = true ∧ q.size ≤ 3000000000 ∧ PathQ q v.pa v.rp ∧
      ∀ (rb pa rp : ByteArray), rb.data.toList = rpF (fullF p.data.toList q.data.toList) → PathOf 1 rb pa rp →
        Says { v with sc := u.sc, us := u.us, ho := u.ho, rq := (if (decide (v.pa.data.toList = []) && !v.fq && decide (v.rq.data.toList = [])) = true then u.rq else v.rq), pa := pa, rp := rp } rb wx
          (([47, 47] : L).isPrefixOf (resolveF b r).pa = false) (joinF (lowerR (resolveF b r))) := by
  obtain ⟨z1, z2, z3, z4, z5⟩ := hz
  obtain ⟨y1, y2, y3, y4, y5⟩ := hzb
  obtain ⟨fb, f1, f2, f3, f4⟩ := frag_s hr ⟨z1, z2, z3, z4, z5⟩ hf
  have hfi := frag_iff (po_ch _ hr.fra) hf
  obtain ⟨hs, ha⟩ := hc
  have hopb : opqF b = false := by unfold opqF; rw [hba]; simp
  have hopr : opqF r = false := by unfold opqF; rw [hs]; rfl
  obtain ⟨j1, j2, j3, j4, j5⟩ := hu.hie hopb
  obtain ⟨i1, i2, i3, i4, i5⟩ := hv.hie hopr
  obtain ⟨hok, hroot⟩ := hb.aut hba
  rw [hb.nfr hbf] at hfb
  have hfe := frag_empty hfb
  have hn : b.pa ≠ [37, 50, 65] := by
    rintro e
    rcases hroot with h | h
    · rw [e] at h; cases h
    · rw [e] at h; cases h
  have hn2 : r.pa ≠ [37, 50, 65] := by
    rintro e
    unfold starF at hst
    rw [hs, ha, e] at hst; exact absurd hst (by decide)
  obtain ⟨pb, p1, p2⟩ := path_q j4 hn
  obtain ⟨qb, q1, q2⟩ := path_q i4 hn2
  obtain ⟨un, pw, ps, s1, s2, s3, s4, o, s5⟩ := user_s j3 (exact_us hxb)
  rw [(hr.nau ha).1, auth_nil] at i2 i3
  have hvus : v.us = .pointer none := by
    rcases i3 with h | h
    · exact h.2
    · exact absurd h.1 (by decide)
  have hvoh : v.oh = false := by rw [i5, hs]; rfl
  have hz3 : pb.size ≤ 3000000000 := by rw [sz, p1]; exact y3
  have hz4 : qb.size ≤ 3000000000 := by rw [sz, q1]; exact z3
  refine ⟨pb, qb, o, s5, ba_nil (by rw [hv.sc, hr.nsc hs]; rfl), ba_nil i2, hvus, i1, j1, hfe.1, hfe.2, hfi.2, by rw [p1]; exact hb.pat, hz3, p2, by rw [q1]; exact hr.pat, hz4, q2, ?_⟩
  intro rb pa rp hrb hpo
  have hpq := path_of_q hrb hpo
  rw [p1, q1] at hrb
  have hch : charsB [58, 64, 47] true rb.data.toList = true := by rw [hrb]; exact ch_rpF ok47 (full_ch hb.pat hr.pat)
  have hpz := pa_size hpq
  have hrz : rb.size ≤ 7000000000 := by
    rw [sz, hrb]
    have h1 := rpF_size (fullF b.pa r.pa)
    have h2 := full_size b.pa r.pa
    omega
  have hal := au_ho_len hok
  have hvpa : v.pa.data.toList = [] ↔ r.pa = [] := by rw [← q1]; exact pa_nil (by rw [q1]; exact hr.pat) q2
  obtain ⟨rq, hrq⟩ : ∃ rq, (if (decide (v.pa.data.toList = []) && !v.fq && decide (v.rq.data.toList = [])) = true then u.rq else v.rq) = rq := ⟨_, rfl⟩
  rw [hrq]
  have hrqz : rq.size ≤ 3000000000 := by
    rw [← hrq]; split
    · rw [sz, hu.rq]; exact y4
    · rw [sz, hv.rq]; exact z4
  obtain ⟨t, ht⟩ : ∃ t, resolveF b r = t := ⟨_, rfl⟩
  have tt : t.hs = true ∧ t.ha = true ∧ t.au = b.au ∧ t.sc = b.sc ∧ t.hf = r.hf ∧ t.fr = r.fr := by
    rw [← ht]; unfold resolveF
    rw [hs, ha]
    simp only [Bool.false_eq_true, if_false]
    by_cases h : r.pa = []
    · rw [if_pos h]; exact ⟨hbs, hba, rfl, rfl, rfl, rfl⟩
    · rw [if_neg h]; exact ⟨hbs, hba, rfl, rfl, rfl, rfl⟩
  obtain ⟨t1, t2, t3, t4, t5, t6⟩ := tt
  have tp : ([47, 47] : L).isPrefixOf t.pa = false → rb.data.toList = t.pa := by
    intro hnp
    rw [hrb]
    rw [← ht] at hnp ⊢
    unfold resolveF at hnp ⊢
    rw [hs, ha] at hnp ⊢
    simp only [Bool.false_eq_true, if_false] at hnp ⊢
    by_cases h : r.pa = []
    · rw [if_pos h]
      show rpF (fullF b.pa r.pa) = b.pa
      rw [h, full_nil, rpF_id hroot (hd h).1]
    · rw [if_neg h] at hnp ⊢
      unfold fullF
      rw [if_neg h]
      simp only at hnp ⊢
      by_cases h47 : r.pa[0]? = some 47
      · rw [if_pos h47] at hnp ⊢
        rw [if_pos h47]
        obtain ⟨q, hq⟩ : ∃ q, r.pa = 47 :: q := by
          cases hr0 : r.pa with
          | nil => exact absurd hr0 h
          | cons c q => rw [hr0] at h47; exact ⟨q, by rw [Option.some.inj h47]⟩
        rw [hq] at hnp ⊢
        exact rpF_abs q hnp
      · rw [if_neg h47] at hnp ⊢
        rw [if_neg h47]
        by_cases hb0 : b.pa = []
        · rw [if_pos ⟨hba, hb0⟩] at hnp ⊢
          rw [hb0]
          exact rpF_rel r.pa h hnp
        · rw [if_neg (fun e => hb0 e.2)] at hnp ⊢
          have hb47 := hroot.resolve_left hb0
          have hl0 : lastSl b.pa ≠ 0 := by
            obtain ⟨c, q, hq⟩ : ∃ c q, b.pa = c :: q := by
              cases hr0 : b.pa with
              | nil => exact absurd hr0 hb0
              | cons c q => exact ⟨c, q, rfl⟩
            have hc47 : c = 47 := by rw [hq] at hb47; exact Option.some.inj hb47
            intro e
            unfold lastSl at e
            have e2 : b.pa.reverse.dropWhile (fun c => decide (c ≠ 47)) = [] := List.eq_nil_of_length_eq_zero e
            have := drop_nil _ _ e2 47 (by rw [hq, hc47]; simp)
            simp at this
          obtain ⟨q, hq⟩ : ∃ q, b.pa.take (lastSl b.pa) ++ r.pa = 47 :: q := by
            cases hr0 : b.pa with
            | nil => exact absurd hr0 hb0
            | cons c q =>
              have hc47 : c = 47 := by rw [hr0] at hb47; exact Option.some.inj hb47
              rw [hr0] at hl0
              obtain ⟨k, hk⟩ : ∃ k, lastSl (c :: q) = k + 1 := ⟨lastSl (c :: q) - 1, by omega⟩
              rw [hk, hc47]
              exact ⟨q.take k ++ r.pa, rfl⟩
          rw [hq] at hnp ⊢
          exact rpF_abs q hnp
  have tq : qryS { v with sc := u.sc, us := u.us, ho := u.ho, rq := rq, pa := pa, rp := rp } = (if t.hq = true then [63] ++ t.qu else []) := by
    by_cases h : r.pa = []
    · have e : t.hq = (if r.hq = true then true else b.hq) ∧ t.qu = (if r.hq = true then r.qu else b.qu) := by
        rw [← ht]; unfold resolveF
        rw [hs, ha]
        simp only [Bool.false_eq_true, if_false]
        rw [if_pos h]; exact ⟨rfl, rfl⟩
      rw [e.1, e.2]
      have hv0 : v.pa.data.toList = [] := hvpa.2 h
      rw [hv0, hv.fq, hv.rq] at hrq
      cases hq : r.hq
      · rw [hq, hr.nqu hq] at hrq
        have : rq = u.rq := hrq.symm
        simp only [Bool.false_eq_true, if_false]
        have e0 : rq.data.toList = b.qu := by rw [this]; exact hu.rq
        have e1 : v.fq = (b.hq && decide (b.qu = [])) := by
          rw [hv.fq, hq]
          cases hbq : b.hq
          · rfl
          · have := (hd h).2 hq hbq
            rw [decide_eq_false this]; rfl
        exact qry_of (u := { v with sc := u.sc, us := u.us, ho := u.ho, rq := rq, pa := pa, rp := rp }) e0 e1 hb.nqu
      · simp only [if_true]
        rw [hq] at hrq
        have : rq = v.rq := by
          rw [← hrq]
          by_cases h0 : r.qu = []
          · rw [h0]; rfl
          · rw [if_neg]; simp [h0]
        have e0 : rq.data.toList = r.qu := by rw [this]; exact hv.rq
        have e1 : v.fq = (true && decide (r.qu = [])) := by rw [hv.fq, hq]
        exact qry_of (u := { v with sc := u.sc, us := u.us, ho := u.ho, rq := rq, pa := pa, rp := rp }) e0 e1 (by intro e; cases e)
    · have e : t.hq = r.hq ∧ t.qu = r.qu := by
        rw [← ht]; unfold resolveF
        rw [hs, ha]
        simp only [Bool.false_eq_true, if_false]
        rw [if_neg h]; exact ⟨rfl, rfl⟩
      rw [e.1, e.2]
      have : rq = v.rq := by
        rw [← hrq, decide_eq_false (fun e => h (hvpa.1 e))]; rfl
      have e0 : rq.data.toList = r.qu := by rw [this]; exact hv.rq
      exact qry_of (u := { v with sc := u.sc, us := u.us, ho := u.ho, rq := rq, pa := pa, rp := rp }) e0 hv.fq hr.nqu
  rw [ht]
  refine ⟨(authF b.au).hu, un, pw, ps, fb, s1, ⟨?_, ?_, ?_, ?_, ?_, ?_⟩, ⟨?_, ?_, ?_, ?_, ?_, ?_, ?_, ?_, ?_, ?_⟩, ?_⟩
  · show u.sc.data.toList ≠ []
    rw [hu.sc]; exact low_ne (sch_ne (hb.sch hbs))
  · exact fun _ => ⟨hpq, hch⟩
  · show u.ho.data.toList.all _ = true
    rw [j2]; exact ho_host hok
  · exact ⟨f2, by rw [f1]; exact hr.fra⟩
  · intro _ h _ _
    have h : v.oh = true := h
    rw [hvoh] at h; cases h
  · intro _ _; exact rp_abs hrb
  · show u.sc.size ≤ _; rw [sz, hu.sc, lowerL_len]; omega
  · show v.op.size ≤ _; rw [i1]; exact Nat.zero_le _
  · show u.ho.size ≤ _; rw [sz, j2]; omega
  · show pa.size ≤ _; omega
  · show rq.size ≤ _; omega
  · show v.rf.size ≤ _; omega
  · omega
  · omega
  · omega
  · omega
  · intro hnp
    have hrt := tp hnp
    refine str_join t1 (by show u.sc.data.toList = _; rw [hu.sc, t4]) ?_ tq (by rw [t5, t6, f1]; exact frg_of hfi.1 hr.nfr)
    rw [t2, t3, if_pos rfl]
    unfold bodyS
    rw [if_neg (by show ¬ v.op.data.toList ≠ []; rw [i1]; simp), hrt]
    congr 1
    refine auth_body hok j2 rfl s2 hvoh ?_
    rcases exact_ho hxb hba with h | h
    · exact Or.inl h
    · right
      show pa.data.toList ≠ []
      intro e
      have e2 := (pa_nil hch hpq).1 e
      rw [hrb] at e2
      refine rp_ne ?_ e2
      unfold fullF
      split
      · exact h.2.2
      · split
        · assumption
        · simp_all
end Go.Proofs.YtfkgkkmcaaefnaaGreatDoor.Wk
namespace Go.Proofs.YtfkgkkmcaaefnaaGreatDoor.Wk
open Go.RowKit Go.Proofs.YtfkgkkmcaaefnaaGreatDoor.Pu

/-- what is asked of base and reference -/
structure Meets (b r : Ref) : Prop where
  fb : Fine b
  fr : Fine r
  hs : b.hs = true
  ha : b.ha = true
  hf : b.hf = false
  xb : exactF b = true
  xr : exactF r = true
  st : starF r = false
  emp : r.pa = [] → dotsB b.pa = false ∧ (r.hq = false → b.hq = true → b.qu ≠ [])
  dot : r.hs = true ∨ r.ha = true → dotsB r.pa = false
  zb : b.le 3000000000
  zr : r.le 3000000000

theorem UserS.below {N : Nat} {w w' : World} {us : Value} {hu : Bool} {un pw : ByteArray} {ps : Bool} (h : UserS w us hu un pw ps) (hb : Below N w w') (hN : w.heap.size ≤ N) : UserS w' us hu un pw ps := by
  rcases h with h | ⟨h1, g, h2, h3⟩
  · exact Or.inl h
  · exact Or.inr ⟨h1, g, h2, blk_below h3 hb (Nat.lt_of_lt_of_le (Array.getElem?_eq_some_iff.1 h3).1 hN)⟩
theorem UserAt.below {B N : Nat} {w w' : World} {us : Value} {hu : Bool} {l : L} (h : UserAt B w us hu l) (hb : Below N w w') (hN : w.heap.size ≤ N) : UserAt B w' us hu l := by
  rcases h with h | ⟨h1, g, un, pw, ps, h2, h3, h4, h5⟩
  · exact Or.inl h
  · exact Or.inr ⟨h1, g, un, pw, ps, h2, h3, blk_below h4 hb (Nat.lt_of_lt_of_le (Array.getElem?_eq_some_iff.1 h4).1 hN), h5⟩
theorem UrlOf.below {r : Ref} {u : UrlB} {w w' : World} {B N : Nat} (h : UrlOf r u w B) (hb : Below N w w') (hN : w.heap.size ≤ N) : UrlOf r u w' B :=
  ⟨h.sc, h.rq, h.fq, h.opq, fun e => by obtain ⟨h1, h2, h3, h4, h5⟩ := h.hie e; exact ⟨h1, h2, h3.below hb hN, h4, h5⟩⟩

/-- ResolveReference and String, at two URLs that were parsed -/
theorem resolved {b r : Ref} (hm : Meets b r) (gb gr : Nat) (u v : UrlB) (w : World) (B B' : Nat) (hT : Tab w) (hgb : w.heap[gb]? = some (urlObj u)) (hgr : w.heap[gr]? = some (urlObj v))
    (hub : UrlOf b u w B) (hvr : UrlOf r v w B') (hfb : FragS b.fr u.fr u.rf) (hfr : FragS r.fr v.fr v.rf) :
    Calls Tryz.prog 46 #[ptr gb, ptr gr] w fun e w' => ∃ g U, e = .returned (ptr g) ∧ w'.heap[g]? = some (urlObj U) ∧ Hid (∃ rb, Says U rb w' (([47, 47] : L).isPrefixOf (resolveF b r).pa = false) (joinF (lowerR (resolveF b r)))) ∧ Below w.heap.size w w' := by
  by_cases hc : r.hs = true ∨ r.ha = true
  · obtain ⟨p, o, h1, h2, h3, h4, h5, h6⟩ := abs_case hm.fb hm.fr hm.hs hm.xr hc (hm.dot hc) hm.zr hm.zb hub.sc hvr hfr
    refine Calls.mono (resolve_abs gb gr u v p o w hT hgb hgr h1 h2 h3 (by omega) h5) ?_
    rintro e w' ⟨rfl, rb, hrb, pa, rp, hpo, hk, hbel⟩
    refine ⟨_, _, rfl, hk, Lib.hid ⟨rb, ?_⟩, hbel⟩
    obtain ⟨hu, un, pw, ps, fb, s1, s2, s3, s4⟩ := h6 rb pa rp hrb.out hpo.out
    exact ⟨hu, un, pw, ps, fb, s1.below hbel (Nat.le_refl _), s2, s3, fun _ => s4 trivial⟩
  · have hc2 : r.hs = false ∧ r.ha = false := ⟨Bool.eq_false_iff.2 fun h => hc (Or.inl h), Bool.eq_false_iff.2 fun h => hc (Or.inr h)⟩
    obtain ⟨p, q, o, h1, h2, h3, h4, h5, h6, h7, h8, h9, h10, h11, h12, h13, h14, h15, h16⟩ := rel_case hm.fb hm.fr hm.hs hm.ha hm.hf hm.xb hm.xr hc2 hm.st hm.emp hm.zr hm.zb hub hvr hfb hfr
    refine Calls.mono (resolve_rel gb gr u v p q o w hT hgb hgr h1 h2 h3 h4 h5 h6 h7 h8 h9 h10 (by omega) h12 h13 (by omega) h15) ?_
    rintro e w' ⟨rfl, rb, hrb, pa, rp, hpo, hk, hbel⟩
    refine ⟨_, _, rfl, hk, Lib.hid ⟨rb, ?_⟩, hbel⟩
    obtain ⟨hu, un, pw, ps, fb, s1, s2, s3, s4⟩ := h16 rb pa rp hrb.out hpo.out
    exact ⟨hu, un, pw, ps, fb, s1.below hbel (Nat.le_refl _), s2, s3, s4⟩
theorem says_any {U : UrlB} {rb : ByteArray} {C : Prop} {T : L} (g : Nat) (w : World) (hT : Tab w) (hg : w.heap[g]? = some (urlObj U)) (h : Says U rb w C T) :
    Calls Tryz.prog 37 #[ptr g] w fun e w' => ∃ t : ByteArray, e = .returned (.string t) ∧ Hid (C → t.data.toList = T) ∧ Below w.heap.size w w' := by
  obtain ⟨hu, un, pw, ps, fb, s1, s2, s3, s4⟩ := h
  refine Calls.mono (String_any g U hu rb fb un pw ps w hT hg s1 s2 s3) ?_
  rintro e w' ⟨t, rfl, ht, hb⟩
  exact ⟨t, rfl, Lib.hid fun c => by rw [ht.out, s4 c], hb⟩

set_option maxHeartbeats 4000000 in
set_option maxRecDepth 100000 in
theorem Resolve_any {N : Nat} {p4 p6 : Addr} (x y : ByteArray) (b r : Ref) (w : World) (hT : Tab w) (h : Net N w p4 p6) (hN : N ≤ w.heap.size) (hsx : x.size ≤ 20000000000000) (hsy : y.size ≤ 20000000000000)
    (hx : x.data.toList = preF b ++ fragF b) (hy : y.data.toList = preF r ++ fragF r) (hm : Meets b r) :
    Calls Tryz.prog 20 #[.string x, .string y] w fun e w' => ∃ t : ByteArray, e = .returned (.tuple #[.string t, .bool true]) ∧ Hid (([47, 47] : L).isPrefixOf (resolveF b r).pa = false → t.data.toList = joinF (lowerR (resolveF b r))) ∧ Below w.heap.size w w' := by
  have HX := Lib.hid hx
  have HY := Lib.hid hy
  have HM := Lib.hid hm
  have HT := Lib.hid hT
  have HN := Lib.hid h
  clear hx hy hm hT h
  go_enter Tryz.func20, Tryz.ntmps20
  go_wp2_with (fail)
  refine Calls.mono (Parse_any x b _ HT.out HN.out hN (by omega) HX.out HM.out.fb) ?_
  rintro e w1 ⟨g1, u, rfl, hg1, hk1, hfb, hub, hb1⟩
  have K1 := Lib.hid hk1
  have HB1 := Lib.hid hb1
  have HT1 := Lib.hid (HT.out.up hb1 HT.out.pos)
  have HN1 := Lib.hid (HN.out.up (hb1.mono hN))
  clear hk1 hb1
  go_wp2_with (fail)
  refine Calls.mono (Parse_any y r _ HT1.out HN1.out (Nat.le_trans hN HB1.out.size) (by omega) HY.out HM.out.fr) ?_
  rintro e w2 ⟨g2, v, rfl, hg2, hk2, hfr, hvr, hb2⟩
  have K2 := Lib.hid hk2
  have K1' := Lib.hid (blk_below K1.out hb2 (Array.getElem?_eq_some_iff.1 K1.out).1)
  have HUB := Lib.hid (hub.out.below hb2 (Nat.le_refl _))
  have HB2 := Lib.hid (HB1.out.trans (hb2.mono HB1.out.size))
  have HT2 := Lib.hid (HT1.out.up hb2 HT1.out.pos)
  clear hk2 hb2 hub K1
  go_wp2_with (fail)
  refine Calls.mono (resolved HM.out g1 g2 u v _ _ _ HT2.out K1'.out K2.out HUB.out hvr.out hfb.out hfr.out) ?_
  rintro e w3 ⟨g, U, rfl, hk3, hsay, hb3⟩
  have K3 := Lib.hid hk3
  have HB3 := Lib.hid (HB2.out.trans (hb3.mono HB2.out.size))
  have HT3 := Lib.hid (HT2.out.up hb3 HT2.out.pos)
  clear hk3 hb3
  obtain ⟨rb, hsay⟩ := hsay.out
  have HS := Lib.hid hsay
  clear hsay
  go_wp2_with (fail)
  refine Calls.mono (says_any g _ HT3.out K3.out HS.out) ?_
  rintro e w4 ⟨t, rfl, ht, hb4⟩
  have HB4 := Lib.hid (HB3.out.trans (hb4.mono HB3.out.size))
  clear hb4
  go_wp2
  go_ret2
  exact ⟨t, rfl, ht, HB4.out⟩
end Go.Proofs.YtfkgkkmcaaefnaaGreatDoor.Wk
