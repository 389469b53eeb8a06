/-
  THE WALK of parseAuthority, at an authority of RFC 3986 without percent signs in its host.
-/
import Derived.Test.YtfkgkkmcaaefnaaGreatDoorI8
import Derived.Test.YtfkgkkmcaaefnaaGreatDoorI9
set_option linter.unusedSimpArgs false
set_option linter.unusedVariables false
namespace Go.Proofs.YtfkgkkmcaaefnaaGreatDoor.Wk
open Go.RowKit Go.Proofs.YtfkgkkmcaaefnaaGreatDoor.Pu

theorem host64 : hostN 64 = false := by decide +kernel
theorem host_no64 {h : L} (hh : hostF h = true) : ∀ c ∈ h, c ≠ 64 := by
  intro c hc e
  rcases host_cases hh with ⟨m, r, he, hv6, hport, _⟩ | ⟨hch, hport, _⟩
  · rw [he] at hc
    simp only [List.cons_append, List.mem_cons, List.mem_append] at hc
    rcases hc with rfl | hc | rfl | hc
    · exact absurd e (by decide)
    · have := (v6_host hv6 c hc).1; rw [e] at this; rw [show (64 : UInt8).toNat = 64 from rfl, host64] at this; exact absurd this (by decide)
    · exact absurd e (by decide)
    · have := (port_host hport c hc).1; rw [e] at this; rw [show (64 : UInt8).toNat = 64 from rfl, host64] at this; exact absurd this (by decide)
  · rw [← List.take_append_drop (idx [58] h) h, List.mem_append] at hc
    rcases hc with hc | hc
    · have := (name_host hch c hc).1; rw [e] at this; rw [show (64 : UInt8).toNat = 64 from rfl, host64] at this; exact absurd this (by decide)
    · have := (port_host hport c hc).1; rw [e] at this; rw [show (64 : UInt8).toNat = 64 from rfl, host64] at this; exact absurd this (by decide)
theorem idx_all (c : UInt8) (l : L) (h : ¬ idx [c] l < l.length) : ∀ x ∈ l, x ≠ c := by
  intro x hx e
  apply h
  exact (idx_lt [c] l).2 (List.any_eq_true.2 ⟨x, hx, by rw [inB_one, e]; simp⟩)

theorem pct_split {more : L} (h58 : okN more 58 = true) : ∀ (a b : L), charsB more true (a ++ 58 :: b) = true → charsB more true a = true ∧ charsB more true b = true
  | [], b, h => by
    rw [List.nil_append, ch_else _ _ _ _ (by decide), Bool.and_eq_true] at h
    exact ⟨rfl, h.2⟩
  | c :: r, b, h => by
    by_cases h37 : c.toNat = 37
    · match r, h with
      | [], h =>
        exfalso
        cases b with
        | nil => rw [show [c] ++ [58] = c :: [58] from rfl, ch_short _ _ _ _ h37 (by simp)] at h; exact absurd h (by decide)
        | cons y b => rw [show [c] ++ 58 :: y :: b = c :: 58 :: y :: b from rfl, ch_pct _ _ _ _ _ _ h37, show isHex 58 = false by decide] at h; simp at h
      | [x], h =>
        exfalso
        rw [show [c, x] ++ 58 :: b = c :: x :: 58 :: b from rfl, ch_pct _ _ _ _ _ _ h37, show isHex 58 = false by decide] at h; simp at h
      | x :: y :: r', h =>
        rw [show (c :: x :: y :: r') ++ 58 :: b = c :: x :: y :: (r' ++ 58 :: b) from rfl, ch_pct _ _ _ _ _ _ h37, Bool.and_eq_true] at h
        obtain ⟨i1, i2⟩ := pct_split h58 r' b h.2
        exact ⟨by rw [ch_pct _ _ _ _ _ _ h37, h.1, i1]; rfl, i2⟩
    · rw [List.cons_append, ch_else _ _ _ _ h37, Bool.and_eq_true] at h
      obtain ⟨i1, i2⟩ := pct_split h58 r b h.2
      exact ⟨by rw [ch_else _ _ _ _ h37, h.1, i1]; rfl, i2⟩
termination_by a => a.length
theorem ch_split58 (us : L) (h : idx [58] us < us.length) (hc : charsB [58] true us = true) : pctOk (us.take (idx [58] us)) = true ∧ pctOk (us.drop (idx [58] us + 1)) = true := by
  rw [cut_at 58 us h] at hc
  obtain ⟨h1, h2⟩ := pct_split (by decide) _ _ hc
  exact ⟨po_ch _ h1, po_ch _ h2⟩

/-- the user information that a URL points to -/
def UserAt (B : Nat) (w : World) (up : Value) (hu : Bool) (us : L) : Prop :=
  (hu = false ∧ up = .pointer none) ∨ (hu = true ∧ ∃ (g : Nat) (un pw : ByteArray) (ps : Bool), up = ptr g ∧ B ≤ g ∧ w.heap[g]? = some (userObj un pw ps) ∧ un.data.toList = decB false (us.take (idx [58] us)) ∧
    ps = decide (idx [58] us < us.length) ∧ pw.data.toList = decB false (us.drop (idx [58] us + 1)))

set_option maxHeartbeats 8000000 in
set_option maxRecDepth 100000 in
theorem parseAuth_any {N : Nat} {p4 p6 : Addr} (sc s : ByteArray) (hu : Bool) (us ho : L) (w : World) (hT : Tab w) (h : Net N w p4 p6) (hN : N ≤ w.heap.size) (hs : s.size ≤ 40000000000000) (hv : authF s.data.toList = ⟨hu, us, ho, true⟩) :
    Calls Tryz.prog 93 #[.string sc, .string s] w fun e w' => ∃ (up : Value) (t : ByteArray), e = .returned (.tuple #[up, .string t, .nilIface]) ∧ Hid (t.data.toList = ho) ∧ Hid (UserAt w.heap.size w' up hu us) ∧ Below w.heap.size w w' := by
  have HT := Lib.hid hT
  have HN := Lib.hid h
  have hN0 : 0 < N := by have := h.l7; omega
  clear hT h
  by_cases hat : idx [64] s.data.toList < s.data.toList.length
  · have ha1 : auth1 s.data.toList = some (s.data.toList.take (idx [64] s.data.toList), s.data.toList.drop (idx [64] s.data.toList + 1)) := by unfold auth1; rw [if_pos hat]
    unfold authF at hv
    rw [ha1] at hv
    simp only at hv
    by_cases hch : charsB [58] true (s.data.toList.take (idx [64] s.data.toList)) = true
    · rw [if_pos hch] at hv
      simp only [Auth.mk.injEq] at hv
      obtain ⟨e1, e2, e3, hhost⟩ := hv
      have hcut := cut_at 64 s.data.toList hat
      have hl64 : lastC 64 s.data.toList = idx [64] s.data.toList + 1 := by
        have := lastC_cut 64 (s.data.toList.take (idx [64] s.data.toList)) (s.data.toList.drop (idx [64] s.data.toList + 1)) (host_no64 hhost)
        rw [← hcut, List.length_take, Nat.min_eq_left (Nat.le_of_lt hat)] at this
        exact this
      have hns : idx [64] s.data.toList < s.size := hat
      have hxu : (s.extract 0 (idx [64] s.data.toList)).data.toList = us := by rw [ext_toList, List.drop_zero]; exact e2
      have hxh : (s.extract (idx [64] s.data.toList + 1) s.size).data.toList = ho := by rw [ext_toList, ← size_len, List.take_length]; exact e3
      have hzu : (s.extract 0 (idx [64] s.data.toList)).size ≤ 40000000000000 := Nat.le_trans (ext_size _ _ _) hs
      have hzh : (s.extract (idx [64] s.data.toList + 1) s.size).size ≤ 40000000000000 := Nat.le_trans (ext_size _ _ _) hs
      rw [e2] at hch
      rw [e3] at hhost
      have HXU := Lib.hid hxu
      have HXH := Lib.hid hxh
      have HCH := Lib.hid hch
      have HHO := Lib.hid hhost
      subst e1
      clear ha1 hch hcut hhost e2 e3 hat hxu hxh
      generalize idx [64] s.data.toList = n at *
      have hw1 : (n : Int) + 1 - 1 = n := by omega
      go_enter Tryz.func93, Tryz.ntmps93
      go_wp2_with (fail)
      refine Calls.mono (lastIndex_any 64 s _ (by omega)) ?_
      rintro e w1 ⟨rfl, rfl⟩
      rw [hl64, show (((n + 1 : Nat) : Int) - 1) = (n : Int) by omega]
      generalize hgh : s.extract (n + 1) s.size = hh at *
      generalize hgu : s.extract 0 n = uu at *
      go_wp2_with (fail)
      refine Calls.mono (parseHost_any sc hh _ HT.out HN.out hN (by omega) (by rw [HXH.out]; exact HHO.out)) ?_
      rintro e w2 ⟨t, rfl, ht, hb2⟩
      have HT2 := Lib.hid (HT.out.up (hb2.mono hN) hN0)
      have HB2 := Lib.hid hb2
      clear hb2
      go_wp2_with (fail)
      refine Calls.mono (vuser_any uu _ (by omega) (by rw [HXU.out]; exact HCH.out)) ?_
      rintro e w3 ⟨rfl, hb3⟩
      have HT3 := Lib.hid (HT2.out.up hb3 HT2.out.pos)
      have HB3 := Lib.hid (HB2.out.trans (hb3.mono HB2.out.size))
      clear hb3 HB2 HT2
      go_wp2_with (fail)
      refine Calls.mono (zzContains_one uu 58 _ (by omega)) ?_
      rintro e w4 ⟨rfl, rfl⟩
      have hpo := po_ch _ HCH.out
      have HPO := Lib.hid hpo
      have d16 : decide ((16 : Nat) = 32) = false := by decide
      clear hpo
      cases hE : hasC 58 uu.data.toList
      · have hni : ¬ idx [58] us < us.length := by
          unfold hasC at hE
          rw [HXU.out] at hE
          exact of_decide_eq_false hE
        have HNI := Lib.hid hni
        clear hE hni
        go_wp2_with (fail)
        refine Calls.mono (unescape_any uu 16 _ HT3.out (by decide) (by decide) (by decide) (by omega) (by rw [HXU.out]; exact HPO.out)) ?_
        rintro e w5 ⟨q, rfl, hq, hb5⟩
        have HB5 := Lib.hid (HB3.out.trans (hb5.mono HB3.out.size))
        clear hb5
        go_wp2_with (fail)
        refine Calls.mono (user_new q _) ?_
        rintro e w6 ⟨rfl, rfl⟩
        have HK := Lib.hid (blk_new w5 (userObj q ⟨#[]⟩ false))
        go_wp2
        go_ret3
        refine ⟨_, t, rfl, Lib.hid (by rw [ht.out]; exact HXH.out), Lib.hid (Or.inr ⟨rfl, w5.heap.size, q, ⟨#[]⟩, false, rfl, HB5.out.size, HK.out, ?_, ?_, ?_⟩), HB5.out.alloc HB5.out.size _⟩
        · have hle := idx_le [58] us
          have hni := HNI.out
          rw [hq.out, HXU.out, List.take_of_length_le (by omega)]; rfl
        · exact (decide_eq_false HNI.out).symm
        · have hni := HNI.out
          rw [List.drop_eq_nil_of_le (by omega)]; rfl
      · have hni : idx [58] us < us.length := by
          unfold hasC at hE
          rw [HXU.out] at hE
          exact of_decide_eq_true hE
        have HNI := Lib.hid hni
        clear hE
        have hcf : cutF 58 us = (us.take (idx [58] us), us.drop (idx [58] us + 1), true) := by unfold cutF; rw [if_pos hni]
        have hsp := ch_split58 us hni HCH.out
        have HSP := Lib.hid hsp
        have HCF := Lib.hid hcf
        clear hni hcf hsp
        go_wp2_with (fail)
        refine Calls.mono (zzCut_one uu 58 _ (by omega)) ?_
        rintro e w5 ⟨a, b, f, rfl, hcut, hza, hzb, hb5⟩
        have hc2 := hcut.out
        rw [HXU.out, HCF.out] at hc2
        simp only [Prod.mk.injEq] at hc2
        have HA := Lib.hid hc2.1
        have HBb := Lib.hid hc2.2.1
        have HB5 := Lib.hid (HB3.out.trans (hb5.mono HB3.out.size))
        have HT5 := Lib.hid (HT3.out.up hb5 HT3.out.pos)
        clear hb5 hc2 hcut
        go_wp2_with (fail)
        refine Calls.mono (unescape_any a 16 _ HT5.out (by decide) (by decide) (by decide) (by omega) (by rw [← HA.out]; exact HSP.out.1)) ?_
        rintro e w6 ⟨q1, rfl, hq1, hb6⟩
        have HB6 := Lib.hid (HB5.out.trans (hb6.mono HB5.out.size))
        have HT6 := Lib.hid (HT5.out.up hb6 HT5.out.pos)
        clear hb6
        go_wp2_with (fail)
        refine Calls.mono (unescape_any b 16 _ HT6.out (by decide) (by decide) (by decide) (by omega) (by rw [← HBb.out]; exact HSP.out.2)) ?_
        rintro e w7 ⟨q2, rfl, hq2, hb7⟩
        have HB7 := Lib.hid (HB6.out.trans (hb7.mono HB6.out.size))
        clear hb7
        go_wp2_with (fail)
        refine Calls.mono (userPw_new q1 q2 _) ?_
        rintro e w8 ⟨rfl, rfl⟩
        have HK := Lib.hid (blk_new w7 (userObj q1 q2 true))
        go_wp2
        go_ret3
        refine ⟨_, t, rfl, Lib.hid (by rw [ht.out]; exact HXH.out), Lib.hid (Or.inr ⟨rfl, w7.heap.size, q1, q2, true, rfl, HB7.out.size, HK.out, ?_, ?_, ?_⟩), HB7.out.alloc HB7.out.size _⟩
        · rw [hq1.out, ← HA.out]; rfl
        · exact (decide_eq_true HNI.out).symm
        · rw [hq2.out, ← HBb.out]; rfl
    · rw [if_neg hch] at hv
      simp only [Auth.mk.injEq] at hv
      exact absurd hv.2.2.2 (by decide)
  · have ha1 : auth1 s.data.toList = none := by unfold auth1; rw [if_neg hat]
    unfold authF at hv
    rw [ha1] at hv
    simp only [Auth.mk.injEq] at hv
    obtain ⟨rfl, rfl, rfl, hhost⟩ := hv
    have hl64 : lastC 64 s.data.toList = 0 := lastC_none 64 _ (idx_all 64 _ hat)
    have HHO := Lib.hid hhost
    clear ha1 hhost hat
    go_enter Tryz.func93, Tryz.ntmps93
    go_wp2_with (fail)
    refine Calls.mono (lastIndex_any 64 s _ (by omega)) ?_
    rintro e w1 ⟨rfl, rfl⟩
    rw [hl64]
    go_wp2_with (fail)
    refine Calls.mono (parseHost_any sc s _ HT.out HN.out hN (by omega) HHO.out) ?_
    rintro e w2 ⟨t, rfl, ht, hb2⟩
    go_wp2
    go_ret3
    exact ⟨_, t, rfl, Lib.hid (by rw [ht.out]), Lib.hid (Or.inl ⟨rfl, rfl⟩), hb2⟩
end Go.Proofs.YtfkgkkmcaaefnaaGreatDoor.Wk
