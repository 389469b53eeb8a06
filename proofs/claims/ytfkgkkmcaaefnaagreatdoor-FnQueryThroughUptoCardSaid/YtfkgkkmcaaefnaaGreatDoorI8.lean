/-
  THE WALK of parseHost, at a host of RFC 3986 without percent signs.
-/
import Derived.Test.YtfkgkkmcaaefnaaGreatDoorI7
import Derived.Test.YtfkgkkmcaaefnaaGreatDoorQ9
import Derived.Test.YtfkgkkmcaaefnaaGreatDoorQ6
import Derived.Test.YtfkgkkmcaaefnaaGreatDoorR2
import Derived.Test.YtfkgkkmcaaefnaaGreatDoorU1
import Derived.Deep.DeepCutAuto
set_option linter.unusedSimpArgs false
set_option linter.unusedVariables false
namespace Go.Proofs.YtfkgkkmcaaefnaaGreatDoor.Wk
open Go.RowKit Go.Proofs.YtfkgkkmcaaefnaaGreatDoor.Pu

/-! where the last x stands -/
theorem lastC_none (x : UInt8) (l : L) (h : ∀ c ∈ l, c ≠ x) : lastC x l = 0 := by
  refine snoc_ind (P := fun l => (∀ c ∈ l, c ≠ x) → lastC x l = 0) ?_ ?_ l h
  · intro _; rfl
  · intro b c ih hb
    rw [lastC_snoc, if_neg (hb c (by simp)), ih (fun d hd => hb d (by simp [hd]))]
theorem lastC_cut (x : UInt8) (a b : L) (h : ∀ c ∈ b, c ≠ x) : lastC x (a ++ x :: b) = a.length + 1 := by
  refine snoc_ind (P := fun b => (∀ c ∈ b, c ≠ x) → lastC x (a ++ x :: b) = a.length + 1) ?_ ?_ b h
  · intro _
    rw [show a ++ [x] = a ++ [x] from rfl, lastC_snoc, if_pos rfl]
  · intro b c ih hb
    rw [show a ++ x :: (b ++ [c]) = (a ++ x :: b) ++ [c] by simp, lastC_snoc, if_neg (hb c (by simp)), ih (fun d hd => hb d (by simp [hd]))]
theorem host_dig : ∀ n, n < 256 → digitN n = true → hostN n = true := by decide +kernel
theorem host_col : hostN 58 = true := by decide +kernel
theorem host_chr : ∀ n, n < 256 → okN [] n = true → n ≠ 37 → hostN n = true := by decide +kernel
theorem host_hex : ∀ n, n < 256 → 0 ≤ hexN n → hostN n = true := by decide +kernel
theorem ok_not : ∀ n, n < 256 → okN [] n = true → n ≠ 91 ∧ n ≠ 58 ∧ n ≠ 64 ∧ n ≠ 47 ∧ n ≠ 63 ∧ n ≠ 35 := by decide +kernel
theorem port_host {r : L} (h : portOk r = true) : ∀ c ∈ r, hostN c.toNat = true ∧ c ≠ 91 ∧ c ≠ 93 := by
  cases r with
  | nil => intro c hc; simp at hc
  | cons a t =>
    rw [portOk, Bool.and_eq_true, decide_eq_true_iff] at h
    intro c hc
    rw [List.mem_cons] at hc
    rcases hc with rfl | hc
    · refine ⟨by rw [h.2]; exact host_col, ?_, ?_⟩ <;> (rintro rfl; simp at h)
    · have := List.all_eq_true.1 h.1 c hc
      refine ⟨host_dig _ c.toNat_lt this, ?_, ?_⟩ <;> (rintro rfl; exact absurd this (by decide))
theorem port_tail {r : L} (h : portOk (58 :: r) = true) : ∀ c ∈ r, c ≠ 58 := by
  rw [portOk, Bool.and_eq_true] at h
  intro c hc e
  have := List.all_eq_true.1 h.1 c hc
  rw [e] at this
  exact absurd this (by decide)
theorem name_host {l : L} (h : charsB [] false l = true) : ∀ c ∈ l, hostN c.toNat = true ∧ c ≠ 91 := by
  intro c hc
  have h1 : charsB [] true l = true ∧ ∀ c ∈ l, c.toNat ≠ 37 := by
    clear hc
    induction l with
    | nil => exact ⟨rfl, by simp⟩
    | cons x r ih =>
      by_cases h37 : x.toNat = 37
      · rw [ch_off _ _ _ h37] at h; exact absurd h (by decide)
      · rw [ch_else _ _ _ _ h37, Bool.and_eq_true] at h
        obtain ⟨i1, i2⟩ := ih h.2
        refine ⟨by rw [ch_else _ _ _ _ h37, h.1, i1]; rfl, fun c hc => ?_⟩
        rw [List.mem_cons] at hc
        rcases hc with rfl | hc
        · exact h37
        · exact i2 c hc
  have h2 := h1.2 c hc
  rcases ch_bytes l h1.1 c hc with h3 | h3
  · exact absurd h3 h2
  · exact ⟨host_chr _ c.toNat_lt h3 h2, fun e => (ok_not _ c.toNat_lt h3).1 (by rw [e]; rfl)⟩
theorem v6_host {l : L} (h : v6F l = true) : ∀ c ∈ l, hostN c.toNat = true ∧ c ≠ 91 ∧ c ≠ 93 ∧ c.toNat ≠ 37 := by
  intro c hc
  have := v6_chars h c hc
  unfold v6C at this
  simp only [Bool.or_eq_true, decide_eq_true_eq] at this
  rcases this with (h1 | rfl) | rfl
  · refine ⟨host_hex _ c.toNat_lt (isHex_le h1), ?_, ?_, ?_⟩
    · rintro rfl; exact absurd h1 (by decide)
    · rintro rfl; exact absurd h1 (by decide)
    · intro e; unfold isHex at h1; rw [e] at h1; exact absurd h1 (by decide)
  · exact ⟨host_col, by decide, by decide, by decide⟩
  · exact ⟨by decide +kernel, by decide, by decide, by decide⟩
/-- a host's two forms -/
theorem host_cases {h : L} (hh : hostF h = true) :
    (∃ m r, h = 91 :: m ++ 93 :: r ∧ v6F m = true ∧ portOk r = true ∧ (∀ c ∈ m, c ≠ 93)) ∨ (charsB [] false (h.take (idx [58] h)) = true ∧ portOk (h.drop (idx [58] h)) = true ∧ ([91] : L).isPrefixOf h = false) := by
  cases hp : ([91] : L).isPrefixOf h with
  | true =>
    left
    by_cases hn : idx [93] h = h.length
    · rw [host_b1 hp hn] at hh; exact absurd hh (by decide)
    · have hle := idx_le [93] h
      rw [host_b hp rfl (by omega), Bool.and_eq_true] at hh
      have hc := cut_at 93 h (by omega)
      obtain ⟨t, ht⟩ := List.isPrefixOf_iff_prefix.1 hp
      have hpos : 0 < idx [93] h := by
        rw [← ht, List.singleton_append, idx_miss _ _ _ (by decide)]; omega
      have e1 : h.take (idx [93] h) = 91 :: (h.take (idx [93] h)).drop 1 := by
        obtain ⟨n, hn⟩ : ∃ n, idx [93] h = n + 1 := ⟨idx [93] h - 1, by omega⟩
        rw [hn, ← ht]; simp
      have hno : ∀ c ∈ (h.take (idx [93] h)).drop 1, c ≠ 93 := fun c hc => by
        have := v6_host hh.1 c hc
        exact this.2.2.1
      refine ⟨(h.take (idx [93] h)).drop 1, h.drop (idx [93] h + 1), ?_, hh.1, hh.2, hno⟩
      rw [← e1]; exact hc
  | false =>
    right
    rw [host_n hp rfl, Bool.and_eq_true] at hh
    exact ⟨hh.1, hh.2, rfl⟩

set_option maxHeartbeats 8000000 in
set_option maxRecDepth 100000 in
theorem parseHost_any {N : Nat} {p4 p6 : Addr} (sc s : ByteArray) (w : World) (hT : Tab w) (h : Net N w p4 p6) (hN : N ≤ w.heap.size) (hs : s.size ≤ 40000000000000) (hv : hostF s.data.toList = true) :
    Calls Tryz.prog 110 #[.string sc, .string s] w fun e w' => ∃ t : ByteArray, e = .returned (.tuple #[.string t, .nilIface]) ∧ Hid (t = s) ∧ Below w.heap.size w w' := by
  have HT := Lib.hid hT
  have HN := Lib.hid h
  have HB := Lib.hid (Below.refl w.heap.size w)
  have hN0 : 0 < N := by have := h.l7; omega
  rcases host_cases hv with ⟨m, r, he, hv6, hport, hm93⟩ | ⟨hch, hport, hpre⟩
  · have hlen : s.size = m.length + r.length + 2 := by rw [← size_len, he]; simp; omega
    have h91 : lastC 91 s.data.toList = 1 := by
      rw [he]
      have := lastC_cut 91 [] (m ++ 93 :: r) (fun c hc => by
        simp only [List.mem_append, List.mem_cons] at hc
        rcases hc with hc | rfl | hc
        · exact (v6_host hv6 c hc).2.1
        · decide
        · exact (port_host hport c hc).2.1)
      simpa using this
    have h93 : lastC 93 s.data.toList = m.length + 2 := by
      rw [he]
      have := lastC_cut 93 (91 :: m) r (fun c hc => (port_host hport c hc).2.2)
      simpa using this
    have hx1 : (s.extract (m.length + 2) s.size).data.toList = r := by
      rw [ext_toList, ← size_len, List.take_length, he, show m.length + 2 = (91 :: m ++ [93]).length by simp, show 91 :: m ++ 93 :: r = (91 :: m ++ [93]) ++ r by simp, List.drop_left]
    have hx2 : (s.extract 1 (m.length + 1)).data.toList = m := by
      rw [ext_toList, he, show m.length + 1 = (91 :: m).length by simp, List.take_left]; simp
    have hz1 : (s.extract (m.length + 2) s.size).size ≤ 40000000000000 := Nat.le_trans (ext_size _ _ _) hs
    have hz2 : (s.extract 1 (m.length + 1)).size ≤ 40000000000000 := Nat.le_trans (ext_size _ _ _) hs
    have HE := Lib.hid he
    have HX1 := Lib.hid hx1
    have HX2 := Lib.hid hx2
    have HV6 := Lib.hid hv6
    have HP := Lib.hid hport
    have hml : (m.length : Int) + 2 - 1 = (m.length : Int) + 1 := by omega
    have hml2 : ¬ ((m.length : Int) + 1 < 0) := by omega
    have hml3 : (m.length : Int) + 1 + 1 = (m.length : Int) + 2 := by omega
    have hle1 : m.length + 2 ≤ s.size := by omega
    clear hT h hv he hm93 hx1 hx2 hv6 hport hlen
    go_enter Tryz.func110, Tryz.ntmps110
    go_wp2_with (fail)
    refine Calls.mono (lastIndex_any 91 s _ (by omega)) ?_
    rintro e w1 ⟨rfl, rfl⟩
    rw [h91]
    go_wp2_with (fail)
    refine Calls.mono (lastIndex_any 93 s _ (by omega)) ?_
    rintro e w1 ⟨rfl, rfl⟩
    rw [h93, show (((m.length + 2 : Nat) : Int) - 1) = (m.length : Int) + 1 by omega]
    go_upto_region 9 with (fail)
    generalize s.extract (m.length + 2) s.size = pr at *
    generalize hgm : s.extract 1 (m.length + 1) = hn at *
    have HGM := Lib.hid hgm
    clear h91 h93
    go_wp2_with (fail)
    refine Calls.mono (port_any pr _ (by omega) (by rw [HX1.out]; exact HP.out)) ?_
    rintro e w2 ⟨rfl, hb2⟩
    have HT2 := Lib.hid (HT.out.up (hb2.mono hN) hN0)
    have HN2 := Lib.hid (HN.out.up (hb2.mono hN))
    have hPH := port_host HP.out
    go_wp2_with (fail)
    refine Calls.mono (unescape_host pr _ HT2.out (by omega) (List.all_eq_true.2 fun c hc => (hPH c (by rw [← HX1.out]; exact hc)).1)) ?_
    rintro e w3 ⟨rfl, rfl⟩
    have hVH := v6_host HV6.out
    go_upto_region 16 with (fail)
    go_wp2_with (fail)
    refine Calls.mono (zone_none hn _ (by omega) (fun c hc => (hVH c (by rw [← HX2.out]; exact hc)).2.2.2)) ?_
    rintro e w4 ⟨rfl, rfl⟩
    go_wp2_with (fail)
    refine Calls.mono (unescape_host hn _ HT2.out (by omega) (List.all_eq_true.2 fun c hc => (hVH c (by rw [← HX2.out]; exact hc)).1)) ?_
    rintro e w5 ⟨rfl, rfl⟩
    go_wp2_with (fail)
    refine Calls.mono (parseAddr_any hn _ HN2.out (Nat.le_trans hN hb2.size) (by omega) (by rw [HX2.out]; exact HV6.out)) ?_
    rintro e w6 ⟨hi, lo, rfl, hb6⟩
    have hB6 := hb2.trans (hb6.mono hb2.size)
    have HN6 := Lib.hid (HN.out.up (hB6.mono hN))
    have HB6 := Lib.hid hB6
    clear hb2 hb6 hB6 HN2 HT2 hPH hVH
    go_wp2_with (fail)
    have HB7 := Lib.hid (HB6.out.alloc HB6.out.size (.cells #[.int .u64 hi, .int .u64 lo, .pointer (some p6)] 168))
    refine Calls.mono (is4_any hi lo _ (HN.out.up (HB7.out.mono hN)) (Nat.le_trans hN HB7.out.size)) ?_
    rintro e w8 ⟨rfl, hb8⟩
    have HB8 := Lib.hid (HB7.out.trans (hb8.mono HB7.out.size))
    clear hb8 HB7 HB6 HN6
    go_wp2
    go_ret2
    refine ⟨_, rfl, Lib.hid (ba_ext ?_), HB8.out⟩
    rw [HE.out]
    simp only [ByteArray.data_append, Array.toList_append, HX1.out, HX2.out]
    simp
  · have hle := idx_le [58] s.data.toList
    rw [size_len] at hle
    have hno91 : lastC 91 s.data.toList = 0 := lastC_none 91 _ fun c hc => by
      rw [← List.take_append_drop (idx [58] s.data.toList) s.data.toList, List.mem_append] at hc
      rcases hc with hc | hc
      · exact (name_host hch c hc).2
      · exact (port_host hport c hc).2.1
    have hhost : s.data.toList.all (fun c => hostN c.toNat) = true := List.all_eq_true.2 fun c hc => by
      rw [← List.take_append_drop (idx [58] s.data.toList) s.data.toList, List.mem_append] at hc
      rcases hc with hc | hc
      · exact (name_host hch c hc).1
      · exact (port_host hport c hc).1
    have HH := Lib.hid hhost
    clear hT h hv hpre
    go_enter Tryz.func110, Tryz.ntmps110
    go_wp2_with (fail)
    refine Calls.mono (lastIndex_any 91 s _ (by omega)) ?_
    rintro e w1 ⟨rfl, rfl⟩
    rw [hno91]
    go_wp2_with (fail)
    refine Calls.mono (zzIndex_one s 58 _ (by omega)) ?_
    rintro e w2 ⟨rfl, rfl⟩
    by_cases hc : idx [58] s.data.toList < s.data.toList.length
    · have hz : zzi 58 s.data.toList = (idx [58] s.data.toList : Int) := by unfold zzi; rw [if_pos hc]
      have hcut := cut_at 58 s.data.toList hc
      have hd : s.data.toList.drop (idx [58] s.data.toList) = 58 :: s.data.toList.drop (idx [58] s.data.toList + 1) := by
        rw [List.drop_eq_getElem_cons hc]
        congr 1
        have := idx_at 58 s.data.toList hc
        rw [List.getElem?_eq_getElem hc] at this
        exact Option.some.inj this
      have hl58 : lastC 58 s.data.toList = idx [58] s.data.toList + 1 := by
        rw [hd] at hport
        have := lastC_cut 58 (s.data.toList.take (idx [58] s.data.toList)) (s.data.toList.drop (idx [58] s.data.toList + 1)) (port_tail hport)
        rw [← hcut, List.length_take, Nat.min_eq_left (Nat.le_of_lt hc)] at this
        exact this
      have hpx : portOk (s.extract (idx [58] s.data.toList) s.size).data.toList = true := by rw [ext_toList, ← size_len, List.take_length]; exact hport
      have HPX := Lib.hid hpx
      rw [hz]
      clear hz hcut hd hport hch hno91 hhost hc hpx
      generalize idx [58] s.data.toList = n at *
      have hn1 : ((n : Int) != -1) = true := by rw [bne_iff_ne]; omega
      have hzp : (s.extract n s.size).size ≤ 40000000000000 := Nat.le_trans (ext_size _ _ _) hs
      go_wp2_with (fail)
      refine Calls.mono (lastIndex_any 58 s _ (by omega)) ?_
      rintro e w3 ⟨rfl, rfl⟩
      rw [hl58, show (((n + 1 : Nat) : Int) - 1) = (n : Int) by omega]
      go_upto_region 42 with (fail)
      generalize s.extract n s.size = pr at *
      go_wp2_with (fail)
      refine Calls.mono (port_any pr _ (by omega) HPX.out) ?_
      rintro e w4 ⟨rfl, hb4⟩
      go_wp2_with (fail)
      refine Calls.mono (unescape_host s _ (HT.out.up (hb4.mono hN) hN0) (by omega) HH.out) ?_
      rintro e w5 ⟨rfl, rfl⟩
      go_wp2
      go_ret2
      exact ⟨s, rfl, Lib.hid rfl, hb4⟩
    · have hz : zzi 58 s.data.toList = -1 := by unfold zzi; rw [if_neg hc]
      rw [hz]
      clear hz hport hch hno91 hhost hc
      go_wp2_with (fail)
      refine Calls.mono (unescape_host s _ HT.out (by omega) HH.out) ?_
      rintro e w5 ⟨rfl, rfl⟩
      go_wp2
      go_ret2
      exact ⟨s, rfl, Lib.hid rfl, HB.out⟩
end Go.Proofs.YtfkgkkmcaaefnaaGreatDoor.Wk
