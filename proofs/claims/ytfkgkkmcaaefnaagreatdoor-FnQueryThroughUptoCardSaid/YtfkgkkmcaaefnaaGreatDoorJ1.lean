/-
  THE WALK of made: a URL out of its fields.
  THE WALK of told: a URL's fields as data.
  THE WALKS of impl.Parse and of impl.String.
  THE WALKS of works and parses, the statements' own look at one URL.
-/
import Derived.Test.YtfkgkkmcaaefnaaGreatDoorI14
import Derived.BigRegion
import Derived.Deep.RegionHeld3
import Derived.Test.YtfkgkkmcaaefnaaGreatDoorI11
set_option linter.unusedSimpArgs false
set_option linter.unusedVariables false
namespace Go.Proofs.YtfkgkkmcaaefnaaGreatDoor.Wk
open Go.RowKit Go.Proofs.YtfkgkkmcaaefnaaGreatDoor.Pu
theorem dec_nil : ∀ (l : L), pctOk l = true → decB false l = [] → l = []
  | [], _, _ => rfl
  | c :: r, h, h2 => by
    by_cases h37 : c.toNat = 37
    · obtain ⟨a, b, r', hr, _⟩ := po_inv h37 h
      rw [hr, de_pct _ _ _ _ _ h37] at h2; cases h2
    · rw [de_else _ _ _ h37] at h2; cases h2
theorem frag_empty {fr rf : ByteArray} (h : FragS [] fr rf) : fr = ⟨#[]⟩ ∧ rf = ⟨#[]⟩ := by
  obtain ⟨fb, h1, h2, h3⟩ := h
  have hf : fb = ⟨#[]⟩ := ba_nil h1
  have hfr : fr = ⟨#[]⟩ := ba_nil (by rw [h2, h1]; rfl)
  rcases h3 with h | h
  · exact ⟨hfr, h.1⟩
  · exact ⟨hfr, by rw [h.1, hf]⟩
theorem frag_iff {p : L} {fr rf : ByteArray} (hc : pctOk p = true) (h : FragS p fr rf) : (fr.data.toList = [] ↔ p = []) ∧ (fr = ⟨#[]⟩ → rf = ⟨#[]⟩) := by
  obtain ⟨fb, rfl, h2, h3⟩ := h
  have h4 : fr.data.toList = [] ↔ fb.data.toList = [] := ⟨fun h => dec_nil _ hc (by rw [← h2]; exact h), fun h => by rw [h2, h]; rfl⟩
  refine ⟨h4, fun h => ?_⟩
  have hf : fb = ⟨#[]⟩ := ba_nil (h4.1 (by rw [h]))
  rcases h3 with h | h
  · exact h.1
  · rw [h.1, hf]
theorem path_q {p : L} {pa rp : ByteArray} (h : PathS p pa rp) (hn : p ≠ [37, 50, 65]) : ∃ pb : ByteArray, pb.data.toList = p ∧ PathQ pb pa rp := by
  rcases h with ⟨pb, h1, h2⟩ | ⟨h1, h2, h3⟩
  · exact ⟨pb, h1, Or.inl ⟨h2, by rw [h1]; exact hn⟩⟩
  · exact ⟨⟨#[42]⟩, h1.symm, Or.inr ⟨rfl, h2, h3⟩⟩
theorem qry_of {u : UrlB} {hq : Bool} {qu : L} (h1 : u.rq.data.toList = qu) (h2 : u.fq = (hq && decide (qu = []))) (h3 : hq = false → qu = []) : qryS u = (if hq = true then [63] ++ qu else []) := by
  unfold qryS
  rw [h1, h2]
  cases hq
  · rw [h3 rfl]; rfl
  · by_cases h : qu = []
    · rw [h]; rfl
    · rw [decide_eq_false h, decide_eq_true h]; simp
theorem ho_host {a : L} (h : (authF a).ok = true) : (authF a).ho.all (fun c => hostN c.toNat) = true := by
  have hf : hostF (authF a).ho = true := by
    by_cases hat : idx [64] a < a.length
    · have ha1 : auth1 a = some (a.take (idx [64] a), a.drop (idx [64] a + 1)) := by unfold auth1; rw [if_pos hat]
      unfold authF at h ⊢
      rw [ha1] at h ⊢
      simp only at h ⊢
      by_cases hch : charsB [58] true (a.take (idx [64] a)) = true
      · rw [if_pos hch] at h ⊢; exact h
      · rw [if_neg hch] at h; cases h
    · have ha1 : auth1 a = none := by unfold auth1; rw [if_neg hat]
      unfold authF at h ⊢
      rw [ha1] at h ⊢
      exact h
  refine List.all_eq_true.2 fun c hc => ?_
  rcases host_cases hf with ⟨m, r, he, hv6, hport, _⟩ | ⟨hch, hport, _⟩
  · rw [he] at hc
    simp only [List.cons_append, List.mem_cons, List.mem_append] at hc
    rcases hc with rfl | hc | rfl | hc
    · decide +kernel
    · exact (v6_host hv6 c hc).1
    · decide +kernel
    · exact (port_host hport c hc).1
  · rw [← List.take_append_drop (idx [58] (authF a).ho) (authF a).ho, List.mem_append] at hc
    rcases hc with hc | hc
    · exact (name_host hch c hc).1
    · exact (port_host hport c hc).1
theorem sch_ne {s : L} (h : isScheme s = true) : s ≠ [] := by rintro rfl; exact absurd h (by decide)
theorem low_ne {s : L} (h : s ≠ []) : lowerL s ≠ [] := by unfold lowerL; simpa using h
theorem lowerL_len (s : L) : (lowerL s).length = s.length := by unfold lowerL; simp
theorem sz (a : ByteArray) : a.size = a.data.toList.length := by rw [Array.length_toList]; rfl
theorem pa_nil {p pa rp : ByteArray} (hc : charsB [58, 64, 47] true p.data.toList = true) (h : PathQ p pa rp) : pa.data.toList = [] ↔ p.data.toList = [] := by
  rcases h with ⟨h, _⟩ | ⟨h1, h2, h3⟩
  · exact ⟨fun e => dec_nil _ (po_ch _ hc) (by rw [← h.1]; exact e), fun e => by rw [h.1, e]; rfl⟩
  · rw [h1, h2]
theorem pa_size {p pa rp : ByteArray} (h : PathQ p pa rp) : pa.size ≤ p.size ∧ rp.size ≤ p.size := by
  rcases h with ⟨h, _⟩ | ⟨h1, h2, h3⟩
  · refine ⟨by rw [sz, sz, h.1]; exact de_len _ _, ?_⟩
    rcases h.2 with e | e
    · rw [e.1]; exact Nat.zero_le _
    · rw [e.1]; exact Nat.le_refl _
  · rw [h1, h2, h3]; exact ⟨Nat.le_refl _, Nat.zero_le _⟩
theorem au_eq {a : L} (h : (authF a).ok = true) : a = (if (authF a).hu = true then (authF a).us ++ [64] else []) ++ (authF a).ho := by
  by_cases hat : idx [64] a < a.length
  · have ha1 : auth1 a = some (a.take (idx [64] a), a.drop (idx [64] a + 1)) := by unfold auth1; rw [if_pos hat]
    have e : authF a = (if charsB [58] true (a.take (idx [64] a)) = true then ⟨true, a.take (idx [64] a), a.drop (idx [64] a + 1), hostF (a.drop (idx [64] a + 1))⟩ else ⟨true, a.take (idx [64] a), [], false⟩) := by
      unfold authF; rw [ha1]
    by_cases hch : charsB [58] true (a.take (idx [64] a)) = true
    · rw [if_pos hch] at e
      rw [e]
      simp only [if_true]
      conv => lhs; rw [cut_at 64 a hat]
      simp
    · rw [if_neg hch] at e
      rw [e] at h; cases h
  · have ha1 : auth1 a = none := by unfold auth1; rw [if_neg hat]
    have e : authF a = ⟨false, [], a, hostF a⟩ := by unfold authF; rw [ha1]
    rw [e]; simp
/-- the authority as String writes it -/
theorem au_ho_len {a : L} (h : (authF a).ok = true) : (authF a).ho.length ≤ a.length ∧ (authF a).us.length ≤ a.length := by
  have e := au_eq h
  constructor
  · have := congrArg List.length e; rw [List.length_append] at this; omega
  · by_cases hh : (authF a).hu = true
    · rw [if_pos hh] at e
      have := congrArg List.length e; rw [List.length_append, List.length_append] at this; omega
    · have : (authF a).us = [] := by
        unfold authF at hh ⊢
        cases ha : auth1 a with
        | none => rfl
        | some x =>
          rw [ha] at hh
          exfalso; apply hh; simp only
          split <;> rfl
      rw [this]; exact Nat.zero_le _

theorem drop_nil (p : UInt8 → Bool) : ∀ (l : L), l.dropWhile p = [] → ∀ c ∈ l, p c = true
  | [], _, c, hc => by cases hc
  | a :: r, h, c, hc => by
    rw [List.dropWhile_cons] at h
    by_cases ha : p a = true
    · rw [if_pos ha] at h
      rcases List.mem_cons.1 hc with e | e
      · rw [e]; exact ha
      · exact drop_nil p r h c e
    · rw [if_neg ha] at h; cases h
theorem frag_s {r : Ref} {fr rf : ByteArray} (h : Fine r) (hz : r.le 3000000000) (hf : FragS r.fr fr rf) :
    ∃ fb : ByteArray, fb.data.toList = r.fr ∧ PathOf 64 fb fr rf ∧ fb.size ≤ 3000000000 ∧ rf.size ≤ 3000000000 := by
  obtain ⟨fb, h1, h2⟩ := hf
  have : fb.size ≤ 3000000000 := by rw [sz, h1]; exact hz.2.2.2.2
  refine ⟨fb, h1, h2, this, ?_⟩
  rcases h2.2 with e | e
  · rw [e.1]; exact Nat.zero_le _
  · rw [e.1]; exact this

theorem UserS.below {N : Nat} {w w' : World} {us : Value} {hu : Bool} {un pw : ByteArray} {ps : Bool} (h : UserS w us hu un pw ps) (hb : Below N w w') (hN : w.heap.size ≤ N) : UserS w' us hu un pw ps := by
  rcases h with h | ⟨h1, g, h2, h3⟩
  · exact Or.inl h
  · exact Or.inr ⟨h1, g, h2, blk_below h3 hb (Nat.lt_of_lt_of_le (Array.getElem?_eq_some_iff.1 h3).1 hN)⟩
theorem UserAt.below {B N : Nat} {w w' : World} {us : Value} {hu : Bool} {l : L} (h : UserAt B w us hu l) (hb : Below N w w') (hN : w.heap.size ≤ N) : UserAt B w' us hu l := by
  rcases h with h | ⟨h1, g, un, pw, ps, h2, h3, h4, h5⟩
  · exact Or.inl h
  · exact Or.inr ⟨h1, g, un, pw, ps, h2, h3, blk_below h4 hb (Nat.lt_of_lt_of_le (Array.getElem?_eq_some_iff.1 h4).1 hN), h5⟩
theorem UrlOf.below {r : Ref} {u : UrlB} {w w' : World} {B N : Nat} (h : UrlOf r u w B) (hb : Below N w w') (hN : w.heap.size ≤ N) : UrlOf r u w' B :=
  ⟨h.sc, h.rq, h.fq, h.opq, fun e => by obtain ⟨h1, h2, h3, h4, h5⟩ := h.hie e; exact ⟨h1, h2, h3.below hb hN, h4, h5⟩⟩
end Go.Proofs.YtfkgkkmcaaefnaaGreatDoor.Wk
namespace Go.Proofs.YtfkgkkmcaaefnaaGreatDoor.Wk
open Go.RowKit Go.Proofs.YtfkgkkmcaaefnaaGreatDoor.Pu

abbrev toldCells (u : UrlB) (hu : Bool) (un : ByteArray) (ps : Bool) (pw ep ef : ByteArray) : Array Value :=
  #[.string u.sc, .string u.op, .bool hu, .string un, .bool ps, .string pw, .string u.ho, .string u.pa, .string u.rp, .bool u.fq, .string u.rq, .string u.fr, .string u.rf, .bool u.oh, .string ep, .string ef]

set_option maxHeartbeats 4000000 in
set_option maxRecDepth 100000 in
theorem made_any (u : UrlB) (hu : Bool) (un pw : ByteArray) (ps : Bool) (ep ef : ByteArray) (w : World) :
    Calls Tryz.prog 53 #[.agg (toldCells u hu un ps pw ep ef)] w fun e w' => e = .returned (ptr (w.heap.size + 1)) ∧ ∃ us : Value, w'.heap[w.heap.size + 1]? = some (urlObj { u with us := us }) ∧
      UserS w' us hu un (if ps = true then pw else ⟨#[]⟩) ps ∧ Below w.heap.size w w' := by
  have HB := Lib.hid (((Below.refl w.heap.size w).alloc (Nat.le_refl _) (.cells (toldCells u hu un ps pw ep ef) 28)).alloc (by simp) (.cells (urlCells { u with us := .pointer none }) 94))
  have HK := Lib.hid (blk_new (w.alloc (.cells (toldCells u hu un ps pw ep ef) 28)) (.cells (urlCells { u with us := .pointer none }) 94))
  have HZ := Lib.hid (show (w.alloc (.cells (toldCells u hu un ps pw ep ef) 28)).heap.size = w.heap.size + 1 by simp)
  rw [HZ.out] at HK
  cases hu
  · cases ps
    all_goals
      go_enter Tryz.func53, Tryz.ntmps53
      go_wp2
      go_ret
      exact ⟨rfl, _, HK.out, Or.inl ⟨rfl, rfl⟩, HB.out⟩
  cases ps
  · go_enter Tryz.func53, Tryz.ntmps53
    go_wp2_with (fail)
    generalize hW : (w.alloc (.cells (toldCells u true un false pw ep ef) 28)).alloc (.cells (urlCells { u with us := .pointer none }) 94) = W at *
    have hs : W.heap.size = w.heap.size + 2 := by rw [← hW]; simp
    refine Calls.mono (user_new un W) ?_
    rintro e w1 ⟨rfl, rfl⟩
    have K1 := Lib.hid (blk_alloc HK.out (userObj un ⟨#[]⟩ false))
    have HB1 := Lib.hid (HB.out.alloc (by omega) (userObj un ⟨#[]⟩ false))
    have HN := Lib.hid (blk_new W (userObj un ⟨#[]⟩ false))
    rw [hs] at HN
    have f2 : (W.alloc (userObj un ⟨#[]⟩ false)).frozen? ⟨w.heap.size + 1, 2, none⟩ = false := blk_frozen K1.out 2
    have c2 : (W.alloc (userObj un ⟨#[]⟩ false)).cell? ⟨w.heap.size + 1, 2, none⟩ = some (.pointer none) := blk_cell K1.out 2
    rw [hs]
    clear hW
    generalize W.alloc (userObj un ⟨#[]⟩ false) = W2 at *
    go_wp2
    go_ret
    exact ⟨rfl, _, blk_set K1.out 2 _, Or.inr ⟨rfl, _, rfl, blk_far HN.out 2 _ (by omega)⟩, HB1.out.setCell (Nat.le_succ _) _⟩
  · go_enter Tryz.func53, Tryz.ntmps53
    go_wp2_with (fail)
    generalize hW : (w.alloc (.cells (toldCells u true un true pw ep ef) 28)).alloc (.cells (urlCells { u with us := .pointer none }) 94) = W at *
    have hs : W.heap.size = w.heap.size + 2 := by rw [← hW]; simp
    refine Calls.mono (userPw_new un pw W) ?_
    rintro e w1 ⟨rfl, rfl⟩
    have K1 := Lib.hid (blk_alloc HK.out (userObj un pw true))
    have HB1 := Lib.hid (HB.out.alloc (by omega) (userObj un pw true))
    have HN := Lib.hid (blk_new W (userObj un pw true))
    rw [hs] at HN
    have f2 : (W.alloc (userObj un pw true)).frozen? ⟨w.heap.size + 1, 2, none⟩ = false := blk_frozen K1.out 2
    have c2 : (W.alloc (userObj un pw true)).cell? ⟨w.heap.size + 1, 2, none⟩ = some (.pointer none) := blk_cell K1.out 2
    rw [hs]
    clear hW
    generalize W.alloc (userObj un pw true) = W2 at *
    go_wp2
    go_ret
    exact ⟨rfl, _, blk_set K1.out 2 _, Or.inr ⟨rfl, _, rfl, blk_far HN.out 2 _ (by omega)⟩, HB1.out.setCell (Nat.le_succ _) _⟩
end Go.Proofs.YtfkgkkmcaaefnaaGreatDoor.Wk
namespace Go.Proofs.YtfkgkkmcaaefnaaGreatDoor.Wk
open Go.RowKit Go.Proofs.YtfkgkkmcaaefnaaGreatDoor.Pu

set_option maxHeartbeats 4000000 in
set_option maxRecDepth 100000 in
theorem told_any (g : Nat) (u : UrlB) (hu : Bool) (un pw : ByteArray) (ps : Bool) (p fb : ByteArray) (w : World) (hT : Tab w) (hg : w.heap[g]? = some (urlObj u)) (hus : UserS w u.us hu un pw ps)
    (hp : charsB [58, 64, 47] true p.data.toList = true) (hz : p.size ≤ 40000000000000) (hq : PathQ p u.pa u.rp) (hf : charsB [58, 64, 47, 63] true fb.data.toList = true) (hfz : fb.size ≤ 40000000000000) (hpf : PathOf 64 fb u.fr u.rf) :
    Calls Tryz.prog 40 #[ptr g] w fun e w' => ∃ (a b : ByteArray) (c : Bool), e = .returned (.agg (toldCells u hu a c b p fb)) ∧ Below w.heap.size w w' := by
  have hlt : g < w.heap.size := (Array.getElem?_eq_some_iff.1 hg).1
  have hpos := hT.pos
  have HT := Lib.hid hT
  have HG := Lib.hid hg
  have HP := Lib.hid hp
  have HQ := Lib.hid hq
  have HF := Lib.hid hf
  have HPF := Lib.hid hpf
  have HUS := Lib.hid hus
  clear hT hg hp hq hf hpf hus
  have HK := Lib.hid (blk_new w (.cells (toldCells url0 false ⟨#[]⟩ false ⟨#[]⟩ ⟨#[]⟩ ⟨#[]⟩) 28))
  have HB := Lib.hid ((Below.refl w.heap.size w).alloc (Nat.le_refl _) (.cells (toldCells url0 false ⟨#[]⟩ false ⟨#[]⟩ ⟨#[]⟩ ⟨#[]⟩) 28))
  have HZ := Lib.hid (show (w.alloc (.cells (toldCells url0 false ⟨#[]⟩ false ⟨#[]⟩ ⟨#[]⟩ ⟨#[]⟩) 28)).heap.size = w.heap.size + 1 by simp)
  go_enter Tryz.func40, Tryz.ntmps40
  go_upto_region 1 with (fail)
  generalize w.alloc (.cells (toldCells url0 false ⟨#[]⟩ false ⟨#[]⟩ ⟨#[]⟩ ⟨#[]⟩) 28) = W at *
  have HR := Lib.hid (blk_below HG.out HB.out hlt)
  obtain ⟨sc, op, us, ho, pa0, fr, rq, rp0, rf, fq, oh⟩ := u
  have KC : Hid (W.cell? ⟨g, 0, none⟩ = some (.string sc) ∧ W.cell? ⟨g, 1, none⟩ = some (.string op) ∧ W.cell? ⟨g, 3, none⟩ = some (.string ho) ∧ W.cell? ⟨g, 4, none⟩ = some (.string pa0) ∧ W.cell? ⟨g, 5, none⟩ = some (.string fr) ∧ W.cell? ⟨g, 6, none⟩ = some (.string rq) ∧ W.cell? ⟨g, 7, none⟩ = some (.string rp0) ∧ W.cell? ⟨g, 8, none⟩ = some (.string rf) ∧ W.cell? ⟨g, 9, none⟩ = some (.bool fq) ∧ W.cell? ⟨g, 10, none⟩ = some (.bool oh)) := Lib.hid ⟨blk_cell HR.out 0, blk_cell HR.out 1, blk_cell HR.out 3, blk_cell HR.out 4, blk_cell HR.out 5, blk_cell HR.out 6, blk_cell HR.out 7, blk_cell HR.out 8, blk_cell HR.out 9, blk_cell HR.out 10⟩
  have KF : Hid (∀ o : Obj, (W.alloc o).cell? ⟨g, 0, none⟩ = some (.string sc) ∧ (W.alloc o).cell? ⟨g, 1, none⟩ = some (.string op) ∧ (W.alloc o).cell? ⟨g, 3, none⟩ = some (.string ho) ∧ (W.alloc o).cell? ⟨g, 4, none⟩ = some (.string pa0) ∧ (W.alloc o).cell? ⟨g, 5, none⟩ = some (.string fr) ∧ (W.alloc o).cell? ⟨g, 6, none⟩ = some (.string rq) ∧ (W.alloc o).cell? ⟨g, 7, none⟩ = some (.string rp0) ∧ (W.alloc o).cell? ⟨g, 8, none⟩ = some (.string rf) ∧ (W.alloc o).cell? ⟨g, 9, none⟩ = some (.bool fq) ∧ (W.alloc o).cell? ⟨g, 10, none⟩ = some (.bool oh)) := Lib.hid fun o => ⟨blk_cell (blk_alloc HR.out o) 0, blk_cell (blk_alloc HR.out o) 1, blk_cell (blk_alloc HR.out o) 3, blk_cell (blk_alloc HR.out o) 4, blk_cell (blk_alloc HR.out o) 5, blk_cell (blk_alloc HR.out o) 6, blk_cell (blk_alloc HR.out o) 7, blk_cell (blk_alloc HR.out o) 8, blk_cell (blk_alloc HR.out o) 9, blk_cell (blk_alloc HR.out o) 10⟩
  go_cut [3] from 4 to 44 (fun v3 wx => v3 = ptr (w.heap.size + 1) ∧ Hid (wx.heap[w.heap.size + 1]? = some (.cells (toldCells ⟨sc, op, us, ho, pa0, fr, rq, rp0, rf, fq, oh⟩ false ⟨#[]⟩ false ⟨#[]⟩ ⟨#[]⟩ ⟨#[]⟩) 28)) ∧ Hid (wx.heap[w.heap.size]? = some (.cells (toldCells url0 false ⟨#[]⟩ false ⟨#[]⟩ ⟨#[]⟩ ⟨#[]⟩) 28)) ∧ Hid (Below w.heap.size w wx))
  case first =>
    go_region_held3 (fun w' => w'.cell? ⟨g, 0, none⟩ = some (.string sc) ∧ w'.cell? ⟨g, 1, none⟩ = some (.string op) ∧ w'.cell? ⟨g, 3, none⟩ = some (.string ho) ∧ w'.cell? ⟨g, 4, none⟩ = some (.string pa0) ∧ w'.cell? ⟨g, 5, none⟩ = some (.string fr) ∧ w'.cell? ⟨g, 6, none⟩ = some (.string rq) ∧ w'.cell? ⟨g, 7, none⟩ = some (.string rp0) ∧ w'.cell? ⟨g, 8, none⟩ = some (.string rf) ∧ w'.cell? ⟨g, 9, none⟩ = some (.bool fq) ∧ w'.cell? ⟨g, 10, none⟩ = some (.bool oh)) (first | exact KC.out | exact KF.out _) (fail)
    go_wp2
    go_meet
    case rel =>
      have HE : Hid ((W.heap.size : Nat) = w.heap.size + 1) := HZ
      refine ⟨by rw [HE.out], Lib.hid ?_, Lib.hid (blk_alloc HK.out _), Lib.hid ((HB.out.alloc (by rw [HE.out]; omega) _).drew)⟩
      rw [← HE.out]; exact blk_new W _
  case rest =>
    obtain ⟨rfl, HK1, HK0, HB1⟩ := hcut
    clear HK HB HZ KC KF HR
    have HR := Lib.hid (blk_below HG.out HB1.out hlt)
    obtain ⟨o, ho, hoc⟩ : ∃ o : Option Addr, us = .pointer o ∧ Hid ((o = none ∧ hu = false) ∨ (hu = true ∧ ∃ gu, o = some ⟨gu, 0, none⟩ ∧ gu < w.heap.size ∧ wc.heap[gu]? = some (userObj un pw ps))) := by
      rcases HUS.out with ⟨hu0, hu1⟩ | ⟨hu0, gu, hu1, hgu⟩
      · exact ⟨none, hu1, Lib.hid (Or.inl ⟨rfl, hu0⟩)⟩
      · exact ⟨_, hu1, Lib.hid (Or.inr ⟨hu0, gu, rfl, (Array.getElem?_eq_some_iff.1 hgu).1, blk_below hgu HB1.out (Array.getElem?_eq_some_iff.1 hgu).1⟩)⟩
    subst ho
    have c2 : wc.cell? ⟨g, 2, none⟩ = some (.pointer o) := blk_cell HR.out 2
    go_upto_if 49 with (fail)
    go_cut [3] from 49 to 66 (fun v3 wx => v3 = ptr (w.heap.size + 1) ∧ ∃ (a b : ByteArray) (c : Bool), Hid (wx.heap[w.heap.size + 1]? = some (.cells (toldCells ⟨sc, op, .pointer o, ho, pa0, fr, rq, rp0, rf, fq, oh⟩ hu a c b ⟨#[]⟩ ⟨#[]⟩) 28)) ∧ Hid (wx.heap[w.heap.size]? = some (.cells (toldCells url0 false ⟨#[]⟩ false ⟨#[]⟩ ⟨#[]⟩ ⟨#[]⟩) 28)) ∧ Hid (Below w.heap.size w wx))
    case first =>
      rcases hoc.out with ⟨hu0, hu1⟩ | ⟨hu1, gu, hu0, hltu, hgu⟩
      · subst hu1
        subst hu0
        go_wp2
        go_meet
        case rel => exact ⟨rfl, _, _, _, HK1, HK0, HB1⟩
      · subst hu1
        subst hu0
        have HKU := Lib.hid hgu
        clear hgu hoc
        have k2 : wc.cell? ⟨w.heap.size + 1, 2, none⟩ = some (.bool false) := blk_cell HK1.out 2
        have k3 : wc.cell? ⟨w.heap.size + 1, 3, none⟩ = some (.string ⟨#[]⟩) := blk_cell HK1.out 3
        have f2 : wc.frozen? ⟨w.heap.size + 1, 2, none⟩ = false := blk_frozen HK1.out 2
        have f3 : wc.frozen? ⟨w.heap.size + 1, 3, none⟩ = false := blk_frozen HK1.out 3
        have HN1 := Lib.hid (show ((wc.setCell ⟨w.heap.size + 1, 2, none⟩ (.bool true)).setCell ⟨w.heap.size + 1, 3, none⟩ (.string un)).heap[w.heap.size + 1]? = some (.cells (toldCells ⟨sc, op, .pointer (some ⟨gu, 0, none⟩), ho, pa0, fr, rq, rp0, rf, fq, oh⟩ true un false ⟨#[]⟩ ⟨#[]⟩ ⟨#[]⟩) 28) from blk_set (blk_set HK1.out 2 (.bool true)) 3 (.string un))
        have HN0 := Lib.hid (blk_far (g' := w.heap.size + 1) (blk_far (g' := w.heap.size + 1) HK0.out 2 (.bool true) (by omega)) 3 (.string un) (by omega))
        have HNR := Lib.hid (blk_far (g' := w.heap.size + 1) (blk_far (g' := w.heap.size + 1) HR.out 2 (.bool true) (by omega)) 3 (.string un) (by omega))
        have HNU := Lib.hid (blk_far (g' := w.heap.size + 1) (blk_far (g' := w.heap.size + 1) HKU.out 2 (.bool true) (by omega)) 3 (.string un) (by omega))
        have HNB := Lib.hid ((HB1.out.setCell (p := ⟨w.heap.size + 1, 2, none⟩) (Nat.le_succ _) (.bool true)).setCell (p := ⟨w.heap.size + 1, 3, none⟩) (Nat.le_succ _) (.string un))
        go_wp2_with (fail)
        refine Calls.mono (username_any gu un pw ps _ HKU.out) ?_
        rintro e w1 ⟨rfl, rfl⟩
        go_upto_region 4 with (fail)
        generalize (wc.setCell ⟨w.heap.size + 1, 2, none⟩ (.bool true)).setCell ⟨w.heap.size + 1, 3, none⟩ (.string un) = W2 at *
        clear k2 k3 f2 f3 c2 HK1 HK0 HB1 HR HKU
        have c2 : W2.cell? ⟨g, 2, none⟩ = some (.pointer (some ⟨gu, 0, none⟩)) := blk_cell HNR.out 2
        have k4 : W2.cell? ⟨w.heap.size + 1, 4, none⟩ = some (.bool false) := blk_cell HN1.out 4
        have k5 : W2.cell? ⟨w.heap.size + 1, 5, none⟩ = some (.string ⟨#[]⟩) := blk_cell HN1.out 5
        have f4 : W2.frozen? ⟨w.heap.size + 1, 4, none⟩ = false := blk_frozen HN1.out 4
        have f5 : W2.frozen? ⟨w.heap.size + 1, 5, none⟩ = false := blk_frozen HN1.out 5
        go_wp2_with (fail)
        refine Calls.mono (password_any gu un pw ps _ HNU.out) ?_
        rintro e w3 ⟨m, rfl, rfl⟩
        have HM1 := Lib.hid (blk_set (blk_set (show (W2.drewN m).heap[w.heap.size + 1]? = _ from HN1.out) 5 (.string pw)) 4 (.bool ps))
        have HM0 := Lib.hid (blk_far (g' := w.heap.size + 1) (blk_far (g' := w.heap.size + 1) (show (W2.drewN m).heap[w.heap.size]? = _ from HN0.out) 5 (.string pw) (by omega)) 4 (.bool ps) (by omega))
        have HMB := Lib.hid (((bdN HNB.out m).setCell (p := ⟨w.heap.size + 1, 5, none⟩) (Nat.le_succ _) (.string pw)).setCell (p := ⟨w.heap.size + 1, 4, none⟩) (Nat.le_succ _) (.bool ps))
        go_wp2
        go_meet
        case rel => exact ⟨rfl, un, pw, ps, HM1, HM0, HMB⟩
    case rest =>
      obtain ⟨rfl, a, b, c, HK2, HK3, HB2⟩ := hcut
      have HG2 := Lib.hid (blk_below HG.out HB2.out hlt)
      have HT2 := Lib.hid (HT.out.up HB2.out hpos)
      clear HK1 HK0 HB1 HR hoc c2
      go_wp2_with (fail)
      refine Calls.mono (escPath_any g _ p _ HT2.out HG2.out HP.out (by omega) HQ.out) ?_
      rintro e w1 ⟨q, rfl, rfl, hb1⟩
      have HB3 := Lib.hid (HB2.out.trans (hb1.mono HB2.out.size))
      have K1 := Lib.hid (blk_below HK2.out hb1 (Array.getElem?_eq_some_iff.1 HK2.out).1)
      have K0 := Lib.hid (blk_below HK3.out hb1 (Array.getElem?_eq_some_iff.1 HK3.out).1)
      have HG3 := Lib.hid (blk_below HG2.out hb1 (Array.getElem?_eq_some_iff.1 HG2.out).1)
      have HT3 := Lib.hid (HT.out.up HB3.out hpos)
      clear hb1 HB2 HK2 HK3 HG2 HT2
      go_wp2_with (fail)
      refine Calls.mono (escFrag_any g _ fb _ HT3.out HG3.out HF.out (by omega) HPF.out) ?_
      rintro e w2 ⟨q2, rfl, rfl, hb2⟩
      have HB4 := Lib.hid (HB3.out.trans (hb2.mono HB3.out.size))
      have J1 := Lib.hid (blk_below K1.out hb2 (Array.getElem?_eq_some_iff.1 K1.out).1)
      have J0 := Lib.hid (blk_below K0.out hb2 (Array.getElem?_eq_some_iff.1 K0.out).1)
      clear hb2 HB3 K1 K0 HG3 HT3
      have f14 : w2.frozen? ⟨w.heap.size + 1, 14, none⟩ = false := blk_frozen J1.out 14
      have f15 : w2.frozen? ⟨w.heap.size + 1, 15, none⟩ = false := blk_frozen J1.out 15
      have c14 : w2.cell? ⟨w.heap.size + 1, 14, none⟩ = some (.string ⟨#[]⟩) := blk_cell J1.out 14
      have c15 : w2.cell? ⟨w.heap.size + 1, 15, none⟩ = some (.string ⟨#[]⟩) := blk_cell J1.out 15
      go_upto_region 6 with (fail)
      have N1 := Lib.hid (show ((w2.setCell ⟨w.heap.size + 1, 14, none⟩ (.string q)).setCell ⟨w.heap.size + 1, 15, none⟩ (.string q2)).heap[w.heap.size + 1]? = some (.cells (toldCells ⟨sc, op, .pointer o, ho, pa0, fr, rq, rp0, rf, fq, oh⟩ hu a c b q q2) 28) from blk_set (blk_set J1.out 14 _) 15 _)
      have N0 := Lib.hid (blk_far (g' := w.heap.size + 1) (blk_far (g' := w.heap.size + 1) J0.out 14 (.string q) (by omega)) 15 (.string q2) (by omega))
      have NB := Lib.hid ((HB4.out.setCell (p := ⟨w.heap.size + 1, 14, none⟩) (Nat.le_succ _) (.string q)).setCell (p := ⟨w.heap.size + 1, 15, none⟩) (Nat.le_succ _) (.string q2))
      clear f14 f15 c14 c15 J1 J0 HB4
      generalize (w2.setCell ⟨w.heap.size + 1, 14, none⟩ (.string q)).setCell ⟨w.heap.size + 1, 15, none⟩ (.string q2) = W3 at *
      have d1 : ∀ j, W3.cell? ⟨w.heap.size + 1, j, none⟩ = (toldCells ⟨sc, op, .pointer o, ho, pa0, fr, rq, rp0, rf, fq, oh⟩ hu a c b q q2)[j]? := blk_cell N1.out
      have d0 : ∀ j, W3.cell? ⟨w.heap.size, j, none⟩ = (toldCells url0 false ⟨#[]⟩ false ⟨#[]⟩ ⟨#[]⟩ ⟨#[]⟩)[j]? := blk_cell N0.out
      have e0 : ∀ j, W3.frozen? ⟨w.heap.size, j, none⟩ = false := blk_frozen N0.out
      have hBf := NB.out
      go_wp2
      refine bodyPost_ret (v := .agg (toldCells ⟨sc, op, .pointer o, ho, pa0, fr, rq, rp0, rf, fq, oh⟩ hu a c b q q2)) (by simp [results, Tryz.results40, go_sem, d0, url0]) rfl ⟨a, b, c, rfl, ?_⟩
      go_grown
end Go.Proofs.YtfkgkkmcaaefnaaGreatDoor.Wk
namespace Go.Proofs.YtfkgkkmcaaefnaaGreatDoor.Wk
open Go.RowKit Go.Proofs.YtfkgkkmcaaefnaaGreatDoor.Pu

theorem UserAt.userS {B : Nat} {w : World} {up : Value} {hu : Bool} {us : L} (h : UserAt B w up hu us) : ∃ un pw ps, UserS w up hu un pw ps := by
  rcases h with ⟨h1, h2⟩ | ⟨h1, g, un, pw, ps, h2, h3, h4, h5⟩
  · exact ⟨⟨#[]⟩, ⟨#[]⟩, false, Or.inl ⟨h1, h2⟩⟩
  · exact ⟨un, pw, ps, Or.inr ⟨h1, g, h2, h4⟩⟩
/-- what told says of a URL that was parsed out of r -/
structure ToldOf (r : Ref) (u : UrlB) (hu : Bool) (p fb : ByteArray) : Prop where
  url : ∃ wx B, UrlOf r u wx B
  pat : p.data.toList = (if opqF r = true then [] else r.pa)
  fra : fb.data.toList = r.fr
  frg : FragS r.fr u.fr u.rf

set_option maxHeartbeats 4000000 in
set_option maxRecDepth 100000 in
theorem iparse_big {N : Nat} {p4 p6 : Addr} (x : ByteArray) (r : Ref) (w : World) (hT : Tab w) (h : Net N w p4 p6) (hN : N ≤ w.heap.size) (hs : x.size ≤ 20000000000000) (hx : x.data.toList = preF r ++ fragF r) (hf : Fine r)
    (hz : r.le 20000000000) (hst : opqF r = true ∨ r.pa ≠ [37, 50, 65]) :
    Calls Tryz.prog 11 #[.string x] w fun e w' => ∃ (u : UrlB) (hu : Bool) (a b : ByteArray) (c : Bool) (p fb : ByteArray), e = .returned (.tuple #[.agg (toldCells u hu a c b p fb), .bool true]) ∧ Hid (ToldOf r u hu p fb) ∧ Below w.heap.size w w' := by
  have HX := Lib.hid hx
  have HF := Lib.hid hf
  have HT := Lib.hid hT
  have HN := Lib.hid h
  have HZ := Lib.hid hz
  have HST := Lib.hid hst
  clear hx hf hT h hz hst
  have hpos := HT.out.pos
  have HK0 := Lib.hid (blk_new w (.cells (toldCells url0 false ⟨#[]⟩ false ⟨#[]⟩ ⟨#[]⟩ ⟨#[]⟩) 28))
  have hz0 : (w.alloc (.cells (toldCells url0 false ⟨#[]⟩ false ⟨#[]⟩ ⟨#[]⟩ ⟨#[]⟩) 28)).heap.size = w.heap.size + 1 := by simp
  have HB0 := Lib.hid ((Below.refl w.heap.size w).alloc (Nat.le_refl _) (.cells (toldCells url0 false ⟨#[]⟩ false ⟨#[]⟩ ⟨#[]⟩ ⟨#[]⟩) 28))
  go_enter Tryz.func11, Tryz.ntmps11
  go_wp2_with (fail)
  generalize w.alloc (.cells (toldCells url0 false ⟨#[]⟩ false ⟨#[]⟩ ⟨#[]⟩ ⟨#[]⟩) 28) = W at *
  refine Calls.mono (Parse_any x r W (HT.out.up HB0.out hpos) (HN.out.up (HB0.out.mono hN)) (Nat.le_trans hN HB0.out.size) (by omega) HX.out HF.out) ?_
  rintro e w1 ⟨g1, u, rfl, hg1, hk1, hfb, hub, hb1⟩
  have K1 := Lib.hid hk1
  have HB1 := Lib.hid (HB0.out.trans (hb1.mono HB0.out.size))
  have HK1 := Lib.hid (blk_below HK0.out hb1 (by omega))
  have HT1 := Lib.hid (HT.out.up HB1.out hpos)
  clear hk1 hb1
  obtain ⟨hu, un, pw, ps, p, hus, hp, hq, hpat⟩ : ∃ (hu : Bool) (un pw : ByteArray) (ps : Bool) (p : ByteArray), Hid (UserS w1 u.us hu un pw ps) ∧ Hid (charsB [58, 64, 47] true p.data.toList = true ∧ p.size ≤ 20000000000) ∧ Hid (PathQ p u.pa u.rp) ∧ Hid (p.data.toList = (if opqF r = true then [] else r.pa)) := by
    by_cases ho : opqF r = true
    · obtain ⟨o1, o2, o3, o4, o5, o6⟩ := hub.out.opq ho
      refine ⟨false, ⟨#[]⟩, ⟨#[]⟩, false, ⟨#[]⟩, Lib.hid (Or.inl ⟨rfl, o5⟩), Lib.hid ⟨rfl, Nat.zero_le _⟩, Lib.hid ?_, Lib.hid (by rw [if_pos ho])⟩
      rw [o2, o3]
      exact Or.inl ⟨⟨rfl, Or.inl ⟨rfl, rfl⟩⟩, by decide⟩
    · have ho2 := Bool.eq_false_iff.2 ho
      obtain ⟨i1, i2, i3, i4, i5⟩ := hub.out.hie ho2
      obtain ⟨un, pw, ps, hus⟩ := i3.userS
      have hn : r.pa ≠ [37, 50, 65] := HST.out.resolve_left ho
      obtain ⟨pb, q1, q2⟩ := path_q i4 hn
      refine ⟨_, un, pw, ps, pb, Lib.hid hus, Lib.hid ⟨by rw [q1]; exact HF.out.pat, ?_⟩, Lib.hid q2, Lib.hid (by rw [if_neg ho]; exact q1)⟩
      rw [← size_len, q1]; exact HZ.out.2.2.1
  obtain ⟨fb, f1, f2⟩ := hfb.out
  have HF1 := Lib.hid f1
  have HF2 := Lib.hid f2
  clear f1 f2
  have hz1 := hp.out.2
  have hz2 : fb.size ≤ 20000000000 := by rw [← size_len, HF1.out]; exact HZ.out.2.2.2.2
  go_wp2_with (fail)
  refine Calls.mono (told_any g1 u hu un pw ps p fb _ HT1.out K1.out hus.out hp.out.1 (by omega) hq.out (by rw [HF1.out]; exact HF.out.fra) (by omega) HF2.out) ?_
  rintro e w2 ⟨a, b, c, rfl, hb2⟩
  have hBf := HB1.out.trans (hb2.mono HB1.out.size)
  have HK2 := Lib.hid (blk_below HK1.out hb2 (Array.getElem?_eq_some_iff.1 HK1.out).1)
  have d0 : ∀ j, w2.cell? ⟨w.heap.size, j, none⟩ = (toldCells url0 false ⟨#[]⟩ false ⟨#[]⟩ ⟨#[]⟩ ⟨#[]⟩)[j]? := blk_cell HK2.out
  have e0 : ∀ j, w2.frozen? ⟨w.heap.size, j, none⟩ = false := blk_frozen HK2.out
  clear hb2 hz0
  go_wp2
  refine bodyPost_ret (v := .tuple #[.agg (toldCells u hu a c b p fb), .bool true]) (by simp [results, Tryz.results11, go_sem, d0, url0]) rfl ⟨u, hu, a, b, c, p, fb, rfl, Lib.hid ⟨⟨_, _, hub.out⟩, hpat.out, HF1.out, hfb.out⟩, ?_⟩
  go_grown

theorem iparse_any {N : Nat} {p4 p6 : Addr} (x : ByteArray) (r : Ref) (w : World) (hT : Tab w) (h : Net N w p4 p6) (hN : N ≤ w.heap.size) (hs : x.size ≤ 20000000000000) (hx : x.data.toList = preF r ++ fragF r) (hf : Fine r)
    (hz : r.le 3000000000) (hst : opqF r = true ∨ r.pa ≠ [37, 50, 65]) :
    Calls Tryz.prog 11 #[.string x] w fun e w' => ∃ (u : UrlB) (hu : Bool) (a b : ByteArray) (c : Bool) (p fb : ByteArray), e = .returned (.tuple #[.agg (toldCells u hu a c b p fb), .bool true]) ∧ Hid (ToldOf r u hu p fb) ∧ Below w.heap.size w w' :=
  iparse_big x r w hT h hN hs hx hf ⟨Nat.le_trans hz.1 (by decide), Nat.le_trans hz.2.1 (by decide), Nat.le_trans hz.2.2.1 (by decide), Nat.le_trans hz.2.2.2.1 (by decide), Nat.le_trans hz.2.2.2.2 (by decide)⟩ hst

set_option maxHeartbeats 4000000 in
set_option maxRecDepth 100000 in
theorem istring_any (u : UrlB) (hu : Bool) (un pw : ByteArray) (ps : Bool) (ep ef : ByteArray) (p fb pw2 : ByteArray) (hp2 : Hid (pw2 = if ps = true then pw else ⟨#[]⟩)) (w : World) (hT : Tab w) (hh : ∀ us : Value, StrH { u with us := us } hu p fb) (hz : ∀ us : Value, StrZ { u with us := us } p fb un pw2) :
    Calls Tryz.prog 33 #[.agg (toldCells u hu un ps pw ep ef)] w fun e w' => ∃ t : ByteArray, e = .returned (.string t) ∧ Hid (t.data.toList = u.sc.data.toList ++ [58] ++ bodyS u hu (uiF hu un pw2 ps) p.data.toList ++ qryS u ++ frgS u fb.data.toList) ∧ Below w.heap.size w w' := by
  have HT := Lib.hid hT
  have HH := Lib.hid hh
  have HZ := Lib.hid hz
  have hpos := hT.pos
  clear hT hh hz
  have HK := Lib.hid (blk_new w (.cells (toldCells u hu un ps pw ep ef) 28))
  have HB := Lib.hid ((Below.refl w.heap.size w).alloc (Nat.le_refl _) (.cells (toldCells u hu un ps pw ep ef) 28))
  have hsz : (w.alloc (.cells (toldCells u hu un ps pw ep ef) 28)).heap.size = w.heap.size + 1 := by simp
  go_enter Tryz.func33, Tryz.ntmps33
  go_wp2_with (fail)
  generalize hW : w.alloc (.cells (toldCells u hu un ps pw ep ef) 28) = W at *
  clear hW
  refine Calls.mono (made_any u hu un pw ps ep ef W) ?_
  rintro e w1 ⟨rfl, us, hk1, hus, hb1⟩
  rw [← hp2.out] at hus
  have HUS := Lib.hid hus
  rw [hsz] at hk1
  have K1 := Lib.hid hk1
  have HB1 := Lib.hid (HB.out.trans (hb1.mono HB.out.size))
  have HT1 := Lib.hid (HT.out.up HB1.out hpos)
  clear hk1 hus hb1
  go_wp2_with (fail)
  refine Calls.mono (String_any _ _ hu p fb un _ ps _ HT1.out K1.out HUS.out (HH.out us) (HZ.out us)) ?_
  rintro e w2 ⟨t, rfl, ht, hb2⟩
  have HB2 := Lib.hid (HB1.out.trans (hb2.mono HB1.out.size))
  clear hb2
  go_wp2
  go_ret
  exact ⟨t, rfl, ht, HB2.out⟩
end Go.Proofs.YtfkgkkmcaaefnaaGreatDoor.Wk
namespace Go.Proofs.YtfkgkkmcaaefnaaGreatDoor.Wk
open Go.RowKit Go.Proofs.YtfkgkkmcaaefnaaGreatDoor.Pu

abbrev refW : Ref := ⟨true, [97], true, [98], [47, 99], false, [], false, []⟩
theorem fineW : Fine refW where
  sch := fun _ => by decide +kernel
  nsc := fun h => by cases h
  pat := by decide +kernel
  que := rfl
  fra := rfl
  aut := fun _ => ⟨by decide +kernel, Or.inr rfl⟩
  nau := fun h => by cases h
  nqu := fun _ => rfl
  nfr := fun _ => rfl
  emp := fun _ => Or.inl rfl
theorem leW : refW.le 3000000000 := ⟨by decide, by decide, by decide, by decide, by decide⟩
theorem toldW {u : UrlB} {hu : Bool} {p fb : ByteArray} (h : ToldOf refW u hu p fb) : u.sc = ⟨#[97]⟩ ∧ u.ho = ⟨#[98]⟩ ∧ u.pa = ⟨#[47, 99]⟩ := by
  obtain ⟨⟨wx, B, hu⟩, _, _, _⟩ := h
  obtain ⟨i1, i2, i3, i4, i5⟩ := hu.hie rfl
  refine ⟨ba_ext (by rw [hu.sc]; rfl), ba_ext (by rw [i2]; decide +kernel), ?_⟩
  rcases i4 with ⟨pb, h1, h2, _⟩ | ⟨h1, _⟩
  · exact ba_ext (by rw [h2, h1]; decide +kernel)
  · exact absurd h1 (by decide)
abbrev urlW (us : Value) : UrlB := ⟨⟨#[97]⟩, ⟨#[]⟩, us, ⟨#[98]⟩, ⟨#[47, 99]⟩, ⟨#[]⟩, ⟨#[]⟩, ⟨#[]⟩, ⟨#[]⟩, false, false⟩
theorem strW (us : Value) : StrH (urlW us) false ⟨#[47, 99]⟩ ⟨#[]⟩ where
  sc := List.cons_ne_nil _ _
  pq := fun _ => ⟨Or.inl ⟨⟨show ([47, 99] : L) = decB false [47, 99] by decide +kernel, Or.inl ⟨rfl, show escF 1 [47, 99] = [47, 99] by decide +kernel⟩⟩, by decide⟩, by decide +kernel⟩
  ho := show ([98] : L).all (fun c => hostN c.toNat) = true by decide +kernel
  fq := ⟨⟨rfl, Or.inl ⟨rfl, rfl⟩⟩, rfl⟩
  lost := fun _ h => by cases h
  abs := fun _ _ => Or.inr rfl
theorem strzW (us : Value) : StrZ (urlW us) ⟨#[47, 99]⟩ ⟨#[]⟩ ⟨#[]⟩ ⟨#[]⟩ :=
  ⟨show 1 ≤ 1000000000000 by decide, show 0 ≤ 1000000000000 by decide, show 1 ≤ 1000000000000 by decide, show 2 ≤ 1000000000000 by decide, show 0 ≤ 1000000000000 by decide, show 0 ≤ 1000000000000 by decide, show 2 ≤ 1000000000000 by decide, show 0 ≤ 1000000000000 by decide, show 0 ≤ 1000000000000 by decide, show 0 ≤ 1000000000000 by decide⟩

set_option maxHeartbeats 4000000 in
set_option maxRecDepth 100000 in
theorem works_any {N : Nat} {p4 p6 : Addr} (w : World) (hT : Tab w) (h : Net N w p4 p6) (hN : N ≤ w.heap.size) :
    Calls Tryz.prog 13 #[] w fun e w' => e = .returned (.bool true) ∧ Below w.heap.size w w' := by
  have HT := Lib.hid hT
  have HN := Lib.hid h
  have hpos := hT.pos
  clear hT h
  go_enter Tryz.func13, Tryz.ntmps13
  go_wp2_with (fail)
  refine Calls.mono (iparse_any ⟨#[97, 58, 47, 47, 98, 47, 99]⟩ refW w HT.out HN.out hN (by decide) (by decide +kernel) fineW leW (Or.inr (by decide))) ?_
  rintro e w1 ⟨u, hu, a, b, c, p, fb, rfl, htold, hb1⟩
  obtain ⟨e1, e2, e3⟩ := toldW htold.out
  have HB1 := Lib.hid hb1
  have hpos1 : 0 < w1.heap.size := Nat.lt_of_lt_of_le hpos hb1.size
  have HT1 := Lib.hid (HT.out.up hb1 hpos)
  clear hb1 htold
  obtain ⟨sc, op, us, ho, pa0, fr, rq, rp0, rf, fq, oh⟩ := u
  simp only at e1 e2 e3
  subst e1 e2 e3
  go_upto_region 2 with (fail)
  go_wp2_with (fail)
  have HB2 := Lib.hid (HB1.out.alloc HB1.out.size (.cells (toldCells ⟨⟨#[97]⟩, op, us, ⟨#[98]⟩, ⟨#[47, 99]⟩, fr, rq, rp0, rf, fq, oh⟩ hu a c b p fb) 28))
  generalize w1.alloc (.cells (toldCells ⟨⟨#[97]⟩, op, us, ⟨#[98]⟩, ⟨#[47, 99]⟩, fr, rq, rp0, rf, fq, oh⟩ hu a c b p fb) 28) = W2 at *
  refine Calls.mono (istring_any (urlW (.pointer none)) false ⟨#[]⟩ ⟨#[]⟩ false ⟨#[]⟩ ⟨#[]⟩ ⟨#[47, 99]⟩ ⟨#[]⟩ ⟨#[]⟩ (Lib.hid rfl) W2 (HT.out.up HB2.out hpos) strW strzW) ?_
  rintro e w2 ⟨t, rfl, ht, hb2⟩
  have ht2 : t = ⟨#[97, 58, 47, 47, 98, 47, 99]⟩ := ba_ext (ht.out.trans (by decide +kernel))
  have HB3 := Lib.hid (HB2.out.trans (hb2.mono HB2.out.size))
  clear ht hb2
  subst ht2
  go_wp2
  go_ret
  exact ⟨rfl, HB3.out⟩

set_option maxHeartbeats 4000000 in
set_option maxRecDepth 100000 in
theorem parses_any {N : Nat} {p4 p6 : Addr} (w : World) (hT : Tab w) (h : Net N w p4 p6) (hN : N ≤ w.heap.size) :
    Calls Tryz.prog 24 #[] w fun e w' => e = .returned (.bool true) ∧ Below w.heap.size w w' := by
  have HT := Lib.hid hT
  have HN := Lib.hid h
  have hpos := hT.pos
  clear hT h
  go_enter Tryz.func24, Tryz.ntmps24
  go_wp2_with (fail)
  refine Calls.mono (iparse_any ⟨#[97, 58, 47, 47, 98, 47, 99]⟩ refW w HT.out HN.out hN (by decide) (by decide +kernel) fineW leW (Or.inr (by decide))) ?_
  rintro e w1 ⟨u, hu, a, b, c, p, fb, rfl, htold, hb1⟩
  obtain ⟨e1, e2, e3⟩ := toldW htold.out
  have HB1 := Lib.hid hb1
  clear hb1 htold
  obtain ⟨sc, op, us, ho, pa0, fr, rq, rp0, rf, fq, oh⟩ := u
  simp only at e1 e2 e3
  subst e1 e2 e3
  have HB2 := HB1.out.alloc HB1.out.size (.cells (toldCells ⟨⟨#[97]⟩, op, us, ⟨#[98]⟩, ⟨#[47, 99]⟩, fr, rq, rp0, rf, fq, oh⟩ hu a c b p fb) 28)
  go_wp2
  go_ret
  exact ⟨rfl, HB2⟩
end Go.Proofs.YtfkgkkmcaaefnaaGreatDoor.Wk
