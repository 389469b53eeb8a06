/-
  THE WALK of netip's parseIPv6, where the text is an IPv6 address without a zone.
-/
import Derived.Test.YtfkgkkmcaaefnaaGreatDoorI3
import Derived.Test.YtfkgkkmcaaefnaaGreatDoorU1
import Derived.Test.YtfkgkkmcaaefnaaGreatDoorR2
import Derived.Lib.Bytealg
import Derived.Test.YtfkgkkmcaaefnaaGreatDoorI5
import Derived.Test.YtfkgkkmcaaefnaaGreatDoorI6
import Derived.Deep.DeepCutAuto
import Derived.Deep.CutBlock
set_option linter.unusedSimpArgs false
set_option linter.unusedVariables false
namespace Go.Proofs.YtfkgkkmcaaefnaaGreatDoor.Wk
open Go.RowKit Go.Proofs.YtfkgkkmcaaefnaaGreatDoor.Pu

theorem indexByte_none (c : UInt8) : ∀ (l : L), (∀ x ∈ l, x ≠ c) → Lib.indexByte l c = -1
  | [], _ => rfl
  | b :: l, h => by
    have h1 : (b == c) = false := by rw [beq_eq_false_iff_ne]; exact h b List.mem_cons_self
    unfold Lib.indexByte
    rw [h1, indexByte_none c l (fun x hx => h x (List.mem_cons_of_mem _ hx))]
    rfl
theorem v6_no37 {l : L} (h : v6F l = true) : Lib.indexByte l 37 = -1 := indexByte_none 37 l fun x hx e => by
  have := v6_chars h x hx
  rw [e] at this
  exact absurd this (by decide)


theorem rowN_zeros {W : World} {g : Nat} (h : W.heap[g]? = some (.cells #[.int .u8 0, .int .u8 0, .int .u8 0, .int .u8 0, .int .u8 0, .int .u8 0, .int .u8 0, .int .u8 0, .int .u8 0, .int .u8 0, .int .u8 0, .int .u8 0, .int .u8 0, .int .u8 0, .int .u8 0, .int .u8 0] 206)) : rowN W g 16 := by
  refine ⟨List.replicate 16 0, rfl, _, _, h, fun j c hj => ?_⟩
  have hj16 : j < 16 := by have := (List.getElem?_eq_some_iff.1 hj).1; simpa using this
  rw [List.getElem?_replicate, if_pos hj16] at hj
  rw [← Option.some.inj hj]
  have h0 : ∀ j, j < 16 → (#[.int .u8 0, .int .u8 0, .int .u8 0, .int .u8 0, .int .u8 0, .int .u8 0, .int .u8 0, .int .u8 0, .int .u8 0, .int .u8 0, .int .u8 0, .int .u8 0, .int .u8 0, .int .u8 0, .int .u8 0, .int .u8 0] : Array Value)[j]? = some (Value.int .u8 ((0 : UInt8).toNat : Int)) := by
    intro j hj
    match j, hj with
    | 0, _ => rfl
    | 1, _ => rfl
    | 2, _ => rfl
    | 3, _ => rfl
    | 4, _ => rfl
    | 5, _ => rfl
    | 6, _ => rfl
    | 7, _ => rfl
    | 8, _ => rfl
    | 9, _ => rfl
    | 10, _ => rfl
    | 11, _ => rfl
    | 12, _ => rfl
    | 13, _ => rfl
    | 14, _ => rfl
    | 15, _ => rfl
    | k + 16, h => omega
  exact h0 j hj16
theorem Six.round2 {e : Bool} {i : Nat} {s : L} (h : Six e i s) : i ≤ 14 ∧ ∃ n, 1 ≤ n ∧ n ≤ 4 ∧ n ≤ s.length ∧ (∀ k, k < n → ∃ c, s[k]? = some c ∧ isHex c = true) ∧
    ((v4 s = true ∧ (e = false → i = 12) ∧ (e = true → i + 4 ≤ 14) ∧ s[n]? = some 46) ∨ ((n = s.length ∨ s[n]? = some 58) ∧ Grp e i s n)) := by
  obtain ⟨hi, hne, hc⟩ := h.round
  refine ⟨hi, ?_⟩
  rcases hc with ⟨h4, h1, h2⟩ | ⟨n, h1, h4, hn, hall, hg⟩
  · obtain ⟨n, n1, n3, hat, hlt, hall⟩ := v4_first h4
    exact ⟨n, n1, by omega, by omega, (fun k hk => by obtain ⟨c, hc, hd⟩ := hall k hk; exact ⟨c, hc, dig_hex hd⟩), Or.inl ⟨h4, h1, h2, hat⟩⟩
  · refine ⟨n, h1, h4, hn, hall, Or.inr ⟨?_, hg⟩⟩
    rcases hg with ⟨h, _⟩ | ⟨h, _⟩ | ⟨_, h, _⟩ | ⟨_, h, _⟩
    · exact Or.inl h
    · exact Or.inr h
    · exact Or.inr h
    · exact Or.inr h
theorem hex_cases {c : UInt8} (h : isHex c = true) : (48 ≤ c.toNat ∧ c.toNat ≤ 57) ∨ (97 ≤ c.toNat ∧ c.toNat ≤ 102) ∨ (65 ≤ c.toNat ∧ c.toNat ≤ 70) := by
  have h1 : 0 ≤ hexN c.toNat := isHex_le h
  unfold hexN at h1
  split at h1
  · exact Or.inl ‹_›
  · split at h1
    · exact Or.inr (Or.inl ‹_›)
    · split at h1
      · exact Or.inr (Or.inr ‹_›)
      · omega
theorem pow16 {k a v : Nat} (hk : k ≤ 3) (ha : a < 16 ^ k) (hv : v < 16) : a * 16 + v < 16 ^ (k + 1) ∧ a * 16 + v < 65536 := by
  have h1 : a * 16 + v < 16 ^ (k + 1) := by rw [Nat.pow_succ]; omega
  have h2 : 16 ^ (k + 1) ≤ 16 ^ 4 := Nat.pow_le_pow_right (by decide) (by omega)
  exact ⟨h1, Nat.lt_of_lt_of_le h1 h2⟩
theorem pow16' {k a : Nat} (hk : k ≤ 4) (ha : a < 16 ^ k) : a < 65536 := Nat.lt_of_lt_of_le ha (Nat.pow_le_pow_right (by decide) hk : 16 ^ k ≤ 16 ^ 4)

set_option maxHeartbeats 40000000 in
set_option maxRecDepth 100000 in
theorem parse6_any {N : Nat} {p4 p6 : Addr} (s : ByteArray) (w : World) (h : Net N w p4 p6) (hN : N ≤ w.heap.size) (hs : s.size ≤ 140737488355328) (hv : v6F s.data.toList = true) :
    Calls Tryz.prog 156 #[.string s] w fun e w' => ∃ hi lo : Int, e = .returned (.tuple #[addrV hi lo p6, .nilIface]) ∧ Below w.heap.size w w' := by
  have H1 := Lib.hid (blk_alloc (blk_new w (.cells #[.int .u64 0, .int .u64 0, .pointer none] 168)) (.cells #[.int .u8 0, .int .u8 0, .int .u8 0, .int .u8 0, .int .u8 0, .int .u8 0, .int .u8 0, .int .u8 0, .int .u8 0, .int .u8 0, .int .u8 0, .int .u8 0, .int .u8 0, .int .u8 0, .int .u8 0, .int .u8 0] 206))
  have H2 := Lib.hid (blk_new2 w (.cells #[.int .u64 0, .int .u64 0, .pointer none] 168) (.cells #[.int .u8 0, .int .u8 0, .int .u8 0, .int .u8 0, .int .u8 0, .int .u8 0, .int .u8 0, .int .u8 0, .int .u8 0, .int .u8 0, .int .u8 0, .int .u8 0, .int .u8 0, .int .u8 0, .int .u8 0, .int .u8 0] 206))
  have HB := Lib.hid (((Below.refl w.heap.size w).alloc (Nat.le_refl _) (.cells #[.int .u64 0, .int .u64 0, .pointer none] 168)).alloc (by simp) (.cells #[.int .u8 0, .int .u8 0, .int .u8 0, .int .u8 0, .int .u8 0, .int .u8 0, .int .u8 0, .int .u8 0, .int .u8 0, .int .u8 0, .int .u8 0, .int .u8 0, .int .u8 0, .int .u8 0, .int .u8 0, .int .u8 0] 206))
  have HN := Lib.hid (h.up (HB.out.mono hN))
  have HZ := Lib.hid (show ((w.alloc (.cells #[.int .u64 0, .int .u64 0, .pointer none] 168)).alloc (.cells #[.int .u8 0, .int .u8 0, .int .u8 0, .int .u8 0, .int .u8 0, .int .u8 0, .int .u8 0, .int .u8 0, .int .u8 0, .int .u8 0, .int .u8 0, .int .u8 0, .int .u8 0, .int .u8 0, .int .u8 0, .int .u8 0] 206)).heap.size = w.heap.size + 2 by simp)
  have HV := Lib.hid hv
  have h37 := Lib.hid (v6_no37 hv)
  have HNw := Lib.hid h
  clear h hv
  go_enter Tryz.func156, Tryz.ntmps156
  go_wp2
  rw [call163, h37.out]
  rw [Oper.upon_value]
  go_upto_region 10 with (fail)
  generalize ((w.alloc (.cells #[.int .u64 0, .int .u64 0, .pointer none] 168)).alloc (.cells #[.int .u8 0, .int .u8 0, .int .u8 0, .int .u8 0, .int .u8 0, .int .u8 0, .int .u8 0, .int .u8 0, .int .u8 0, .int .u8 0, .int .u8 0, .int .u8 0, .int .u8 0, .int .u8 0, .int .u8 0, .int .u8 0] 206)) = W at *
  go_cut [46] from 34 to 46 (fun v46 wc => ∃ b : Bool, v46 = .bool b ∧ Hid (b = true → s.data.toList[0]? = some 58 ∧ s.data.toList[1]? = some 58) ∧ Hid (b = false → ¬ (s.data.toList[0]? = some 58 ∧ s.data.toList[1]? = some 58)) ∧ wc = W)
  case first =>
    by_cases c2 : 2 ≤ s.size
    · have g0 := Lib.hid (get_opt s 0 (by omega))
      have g1 := Lib.hid (get_opt s 1 (by omega))
      by_cases c0 : s[0].toNat = 58
      · have e0 : ((s[0].toNat : Int) == 58) = true := by rw [beq_iff_eq]; omega
        by_cases c1 : s[1].toNat = 58
        · have e1 : ((s[1].toNat : Int) == 58) = true := by rw [beq_iff_eq]; omega
          have C0 := Lib.hid c0
          have C1 := Lib.hid c1
          clear c0 c1
          go_wp2
          go_meet
          case rel => exact ⟨true, rfl, Lib.hid (fun _ => ⟨by rw [g0.out]; congr; exact UInt8.toNat_inj.1 C0.out, by rw [g1.out]; congr; exact UInt8.toNat_inj.1 C1.out⟩), Lib.hid (fun h => by cases h), rfl⟩
        · have e1 : ((s[1].toNat : Int) == 58) = false := by rw [beq_eq_false_iff_ne]; omega
          have C1 := Lib.hid c1
          clear c0 c1
          go_wp2
          go_meet
          case rel => exact ⟨false, rfl, Lib.hid (fun h => by cases h), Lib.hid (fun _ ⟨_, h⟩ => C1.out (by rw [g1.out] at h; rw [Option.some.inj h]; rfl)), rfl⟩
      · have e0 : ((s[0].toNat : Int) == 58) = false := by rw [beq_eq_false_iff_ne]; omega
        have C0 := Lib.hid c0
        clear c0
        go_wp2
        go_meet
        case rel => exact ⟨false, rfl, Lib.hid (fun h => by cases h), Lib.hid (fun _ ⟨h, _⟩ => C0.out (by rw [g0.out] at h; rw [Option.some.inj h]; rfl)), rfl⟩
    · go_wp2
      go_meet
      case rel => exact ⟨false, rfl, Lib.hid (fun h => by cases h), Lib.hid (fun _ ⟨_, h⟩ => c2 (by have := (List.getElem?_eq_some_iff.1 h).1; rw [size_len] at this; omega)), rfl⟩
  case rest =>
    obtain ⟨b, rfl, hbt, hbf, rfl⟩ := hcut
    go_upto_if 46 with (fail)
    go_cut [4, 8] from 47 to 54 (fun v4 v8 wx => ∃ (d : ByteArray) (e : Bool) (j : Nat), v4 = .string d ∧ v8 = .int .i64 (if e = true then 0 else -1) ∧ d.size + j = s.size ∧ Hid (d.data.toList = s.data.toList.drop j) ∧ Hid (Six e 0 d.data.toList) ∧ wx = wc)
    case first =>
      rcases v6_start HV.out with he | ⟨h0, h1, hl, hsix⟩ | ⟨hnot, hsix⟩
      · have hb : b = true := by
          cases b
          · exact absurd ⟨by rw [he]; rfl, by rw [he]; rfl⟩ (hbf.out rfl)
          · rfl
        subst hb
        have hse : s = ⟨#[58, 58]⟩ := ba_ext he
        subst hse
        clear hbt hbf he HV h37
        go_wp2_with (fail)
        refine Calls.mono (unspec_any _ HN.out (by rw [HZ.out]; omega)) ?_
        rintro e w1 ⟨rfl, hb1⟩
        have hN1 := HN.out.up (hb1.mono (by rw [HZ.out]; omega))
        have k1 := blk_below H1.out hb1 (by rw [HZ.out]; omega)
        have hB1 := bt HB.out hb1
        go_wp2_with (fail)
        refine Calls.mono (withZone_any 0 0 _ hN1 (Nat.le_trans hN hB1.size)) ?_
        rintro e w2 ⟨rfl, hb2⟩
        have k2 := blk_below k1 hb2 (Array.getElem?_eq_some_iff.1 k1).1
        have hB2 := bt hB1 hb2
        have K2 := Lib.hid k2
        have r0 : ∀ i, w2.cell? ⟨w.heap.size, i, none⟩ = _ := blk_cell k2
        have s0 : ∀ i, w2.frozen? ⟨w.heap.size, i, none⟩ = false := blk_frozen k2
        clear k1 k2 hb1 hb2 hN1 H1 H2 HB HN HZ hB1
        go_wp2
        have q := blk_set (blk_set (blk_set K2.out 0 (.int .u64 0)) 1 (.int .u64 0)) 2 (.pointer (some p6))
        have hc0 : ∀ j, _ := blk_cell q
        have hz0 : ∀ j, _ := blk_frozen q
        refine bodyPost_ret (v := .tuple #[addrV 0 0 p6, .nilIface]) (by simp [results, Tryz.results156, go_sem, hc0, hz0]) rfl ⟨0, 0, rfl, ?_⟩
        exact Below.setCell (p := ⟨w.heap.size, 2, none⟩) (Below.setCell (p := ⟨w.heap.size, 1, none⟩) (Below.setCell (p := ⟨w.heap.size, 0, none⟩) hB2 (Nat.le_refl _) _) (Nat.le_refl _) _) (Nat.le_refl _) _
      · have hb : b = true := by
          cases b
          · exact absurd ⟨h0, h1⟩ (hbf.out rfl)
          · rfl
        subst hb
        have hl3 : 2 < s.size := by rwa [size_len] at hl
        have HS := Lib.hid hsix
        clear hbt hbf h0 h1 hl hsix
        go_wp2
        go_meet
        case rel =>
          have e : (s.extract 2 s.size).data.toList = s.data.toList.drop 2 := by rw [ext_toList, ← size_len, List.take_length]
          refine ⟨s.extract 2 s.size, true, 2, rfl, rfl, by rw [ByteArray.size_extract]; omega, Lib.hid e, Lib.hid (by rw [e]; exact HS.out), rfl⟩
      · have hb : b = false := by
          cases b
          · rfl
          · exact absurd (hbt.out rfl) hnot
        subst hb
        have HS := Lib.hid hsix
        clear hbt hbf hnot hsix
        go_wp2
        go_meet
        case rel => exact ⟨s, false, 0, rfl, rfl, by omega, Lib.hid (by rw [List.drop_zero]), HS, rfl⟩
    case rest =>
      obtain ⟨d, e, j, rfl, rfl, hdj, HD, HS, rfl⟩ := hcut
      clear hbt hbf HV h37
      have HR0 := Lib.hid (rowN_zeros H2.out)
      have hal : Tryz.prog.arrayLen 206 = 16 := by kernel_rfl
      obtain ⟨el0, hel0⟩ : ∃ el0 : Int, el0 = (if e = true then 0 else -1) := ⟨_, rfl⟩
      rw [← hel0]
      have HEL0 := Lib.hid (show (e = false → el0 = -1) ∧ (e = true → 0 ≤ el0 ∧ el0 ≤ (0 : Nat)) by rw [hel0]; cases e <;> simp)
      clear hel0
      go_upto_block 0 with (fail)
      go_cut [4, 6, 8, 9, 10, 11, 12, 13] from 55 to 232 (fun v4 v6 v8 v9 v10 v11 v12 v13 wy => ∃ (z : ByteArray) (i : Nat) (el : Int), v4 = .string z ∧ z.size = 0 ∧ v6 = .int .i64 i ∧ v8 = .int .i64 el ∧ Hid ((el = -1 ∧ i = 16) ∨ (0 ≤ el ∧ el ≤ i ∧ i ≤ 14)) ∧ Hid (rowN wy (w.heap.size + 1) 16) ∧ Hid (wy.heap[w.heap.size]? = some (.cells #[.int .u64 0, .int .u64 0, .pointer none] 168)) ∧ Hid (Below w.heap.size w wy) ∧ w.heap.size + 2 ≤ wy.heap.size)
      case first =>
        go_wp2_with (fail)
        go_loopw [4, 6, 8, 9, 10, 11, 12, 13] (fun x4 x6 x8 x9 x10 x11 x12 x13 wr => ∃ (d : ByteArray) (e : Bool) (i j : Nat) (el : Int), x4 = .string d ∧ x6 = .int .i64 i ∧ x8 = .int .i64 el ∧ Hid ((e = false → el = -1) ∧ (e = true → 0 ≤ el ∧ el ≤ i)) ∧ d.size + j = s.size ∧ Hid (d.data.toList = s.data.toList.drop j) ∧ Hid (Six e i d.data.toList) ∧ Hid (rowN wr (w.heap.size + 1) 16) ∧ Hid (wr.heap[w.heap.size]? = some (.cells #[.int .u64 0, .int .u64 0, .pointer none] 168)) ∧ Hid (Below w.heap.size w wr) ∧ w.heap.size + 2 ≤ wr.heap.size) (fun x4 _ _ _ _ _ _ _ _ => strSize x4)
        case atStart => exact ⟨d, e, 0, j, el0, rfl, rfl, rfl, HEL0, hdj, HD, HS, HR0, H1, HB, by rw [HZ.out]; omega⟩
        case round =>
          clear hdj HD HS HR0 H1 HB HEL0 H2 HN HZ
          obtain ⟨d, e, i, j, el, rfl, rfl, rfl, HEL, hdj, HD, HS, HR, H1, HB, hsz⟩ := hrel
          obtain ⟨hi14, n, hn1, hn4, hnl, hhex, hcase⟩ := Six.round2 HS.out
          rw [size_len] at hnl hcase
          have HHEX := Lib.hid hhex
          have HC := Lib.hid hcase
          clear hhex hcase
          go_upto_block 2 with (fail)
          go_cut [9, 10, 11] from 56 to 117 (fun v9 v10 v11 wz => ∃ a : Nat, v9 = .int .i64 n ∧ v10 = .int .u32 a ∧ a < 65536 ∧ wz = wr)
          case first =>
            as_aux_lemma =>
              go_wp2_with (fail)
              go_loop [9, 10, 11] (fun o a c => ∃ k q : Nat, o = .int .i64 k ∧ a = .int .u32 q ∧ k ≤ n ∧ Hid (q < 16 ^ k)) (fun o _ _ => n - (intOf o).toNat)
              case atStart => exact ⟨0, 0, rfl, rfl, by omega, Lib.hid (by decide)⟩
              case round =>
                obtain ⟨k, q, rfl, rfl, hk, hq⟩ := hrel
                by_cases hkn : k < n
                · obtain ⟨c, hc, hx⟩ := HHEX.out k hkn
                  have hks : k < d.size := by omega
                  have hcd : d[k] = c := by rw [get_opt d k hks] at hc; exact Option.some.inj hc
                  have hc3 := hex_cases hx
                  have hcn : d[k].toNat < 256 := d[k].toNat_lt
                  rw [← hcd] at hc3
                  have h3 : ¬ (3 < (k : Int)) := by omega
                  have hqb : q < 4096 := Nat.lt_of_lt_of_le hq.out (Nat.le_trans (Nat.pow_le_pow_right (by decide) (by omega : k ≤ 3)) (by decide))
                  have hpw := fun v (hv : v < 16) => pow16 (v := v) (by omega : k ≤ 3) hq.out hv
                  have HPW := Lib.hid hpw
                  clear hpw hc hx hcd hq
                  rcases hc3 with hr | hr | hr
                  · have HQ := Lib.hid (HPW.out (d[k].toNat - 48) (by omega))
                    clear HPW
                    go_wp2
                    exact ⟨⟨_, _, _, ⟨k + 1, by go_num, q * 16 + (d[k].toNat - 48), congrArg (Value.int .u32) (by omega), by omega, Lib.hid HQ.out.1⟩, rfl, rfl, rfl⟩, by simp [intOf]; omega⟩
                  · have HQ := Lib.hid (HPW.out (d[k].toNat - 87) (by omega))
                    clear HPW
                    go_wp2
                    exact ⟨⟨_, _, _, ⟨k + 1, by go_num, q * 16 + (d[k].toNat - 87), congrArg (Value.int .u32) (by omega), by omega, Lib.hid HQ.out.1⟩, rfl, rfl, rfl⟩, by simp [intOf]; omega⟩
                  · have HQ := Lib.hid (HPW.out (d[k].toNat - 55) (by omega))
                    clear HPW
                    go_wp2
                    exact ⟨⟨_, _, _, ⟨k + 1, by go_num, q * 16 + (d[k].toNat - 55), congrArg (Value.int .u32) (by omega), by omega, Lib.hid HQ.out.1⟩, rfl, rfl, rfl⟩, by simp [intOf]; omega⟩
                · have hke : k = n := by omega
                  subst hke
                  have hq2 := pow16' hn4 hq.out
                  clear hq HHEX
                  by_cases hend : k = d.size
                  · subst hend
                    go_wp2
                    go_meet
                    case rel => exact ⟨q, rfl, rfl, hq2, rfl⟩
                  · have hks : k < d.size := by omega
                    have hcc : d[k].toNat = 46 ∨ d[k].toNat = 58 := by
                      have hx := get_opt d k hks
                      rcases HC.out with ⟨_, _, _, h46⟩ | ⟨h | h, _⟩
                      · rw [hx] at h46; left; rw [Option.some.inj h46]; rfl
                      · exact absurd h hend
                      · rw [hx] at h; right; rw [Option.some.inj h]; rfl
                    go_wp2
                    all_goals first
                      | (exfalso; omega)
                      | (go_meet
                         case rel => exact ⟨q, rfl, rfl, hq2, rfl⟩)
          case rest =>
            as_aux_lemma =>
              obtain ⟨a, rfl, rfl, ha, rfl⟩ := hcut
              clear HHEX hn4
              rcases HC.out with ⟨h4, h12, h14, hat⟩ | ⟨hend, hg⟩
              · have hlt : n < d.size := by rw [← size_len]; exact (List.getElem?_eq_some_iff.1 hat).1
                have hcb : ((d[n].toNat : Int) == 46) = true := by
                  rw [get_opt d n hlt] at hat
                  rw [Option.some.inj hat]; rfl
                have hex : (s.extract j s.size).data.toList = d.data.toList := by rw [HD.out, ext_toList, ← size_len, List.take_length]
                have H4 := Lib.hid (show v4 (s.extract j s.size).data.toList = true by rw [hex]; exact h4)
                have hn0 : ((n : Int) == 0) = false := by rw [beq_eq_false_iff_ne]; omega
                have hwj : (s.size : Int) - (d.size : Int) = j := by omega
                have hi4 : (i : Int) + 4 ≤ 16 := by cases e
                                                    · have := h12 rfl; omega
                                                    · have := h14 rfl; omega
                have hi4' : ¬ (16 < (i : Int) + 4) := by omega
                have HEI := Lib.hid (show (el = -1 ∧ i + 4 = 16) ∨ (0 ≤ el ∧ el ≤ i + 4 ∧ i + 4 ≤ 14) by
                  cases e
                  · exact Or.inl ⟨HEL.out.1 rfl, by have := h12 rfl; omega⟩
                  · right; have := HEL.out.2 rfl; have := h14 rfl; omega)
                have hor : (¬ el < 0) ∨ ((i : Int) != 12) = false := by
                  cases e
                  · right; rw [h12 rfl]; rfl
                  · left; have := (HEL.out.2 rfl).1; omega
                have hpt := part16' (w.heap.size + 1) i (by omega)
                clear HC HEL HS HD h12 h14 hat hex h4
                rcases hor with hor | hor
                all_goals
                  go_wp2_with (fail)
                  all_goals
                    refine Calls.mono (v4fields_any s j s.size (w.heap.size + 1) i 16 (16 - i) _ (by omega) (by omega) (Nat.le_refl _) (by omega) (by omega) HR.out H4.out) ?_
                    rintro e5 w5 ⟨rfl, hR5, hB5⟩
                    have H15 := Lib.hid (blk_below H1.out hB5 (by omega))
                    have HR5 := Lib.hid hR5
                    have HB5 := Lib.hid (HB.out.trans (hB5.mono (by omega)))
                    have hsz5 := Nat.le_trans hsz hB5.size
                    clear hR5 hB5
                    go_wp2
                    go_meet
                    case rel => exact ⟨⟨#[]⟩, i + 4, el, rfl, rfl, by go_num, rfl, HEI, HR5, H15, HB5, hsz5⟩
              · have hn0B : ((n : Int) == 0) = false := by rw [beq_eq_false_iff_ne]; omega
                obtain ⟨c0, hc0⟩ := HR.out.cell (j := i) (by omega)
                obtain ⟨c1, hc1⟩ := HR.out.cell (j := i + 1) (by omega)
                have hf0 : wc.frozen? ⟨w.heap.size + 1, i, none⟩ = false := HR.out.free i
                have hf1 : wc.frozen? ⟨w.heap.size + 1, i + 1, none⟩ = false := HR.out.free (i + 1)
                have hl0 : (i : Int) < (Tryz.prog.arrayLen 206 : Int) := by rw [hal]; omega
                have hl1 : (i : Int) + 1 < (Tryz.prog.arrayLen 206 : Int) := by rw [hal]; omega
                go_upto_region 34 with (fail)
                go_cut [134] from 118 to 133 (fun v134 wq => v134 = .bool false ∧ wq = wc)
                case first =>
                  rcases hend with hend | hend
                  · have hnd : ¬ ((n : Int) < (d.size : Int)) := by omega
                    clear hend
                    go_wp2
                    go_meet
                    case rel => exact ⟨rfl, rfl⟩
                  · have hlt : n < d.size := by rw [← size_len]; exact (List.getElem?_eq_some_iff.1 hend).1
                    have hcb : ((d[n].toNat : Int) == 46) = false := by
                      rw [get_opt d n hlt] at hend
                      rw [Option.some.inj hend]; rfl
                    go_wp2
                    go_meet
                    case rel => exact ⟨rfl, rfl⟩
                case rest =>
                  obtain ⟨rfl, rfl⟩ := hcut
                  go_upto_region 51 with (fail)
                  have hdz : (d.extract n d.size).size = d.size - n := by rw [ByteArray.size_extract]; omega
                  have hdl : (d.extract n d.size).data.toList = d.data.toList.drop n := by rw [ext_toList, ← size_len, List.take_length]
                  have hk1 : (wc.setCell ⟨w.heap.size + 1, i, none⟩ (.int .u8 ((a : Int) / 256))).setCell ⟨w.heap.size + 1, i + 1, none⟩ (.int .u8 ((a : Int) % 256)) = (wc.setCell ⟨w.heap.size + 1, i, none⟩ (.int .u8 ((a / 256 : Nat) : Int))).setCell ⟨w.heap.size + 1, i + 1, none⟩ (.int .u8 ((a % 256 : Nat) : Int)) := by
                    rw [Int.natCast_ediv, Int.natCast_emod]; rfl
                  have HR2 := Lib.hid (show rowN ((wc.setCell ⟨w.heap.size + 1, i, none⟩ (.int .u8 ((a : Int) / 256))).setCell ⟨w.heap.size + 1, i + 1, none⟩ (.int .u8 ((a : Int) % 256))) (w.heap.size + 1) 16 by
                    rw [hk1]; exact (HR.out.setN (by omega) _ (by omega)).setN (by omega) _ (by omega))
                  have HB2 := Lib.hid (show Below w.heap.size w ((wc.setCell ⟨w.heap.size + 1, i, none⟩ (.int .u8 ((a : Int) / 256))).setCell ⟨w.heap.size + 1, i + 1, none⟩ (.int .u8 ((a : Int) % 256))) from Below.setCell (p := ⟨w.heap.size + 1, i + 1, none⟩) (Below.setCell (p := ⟨w.heap.size + 1, i, none⟩) HB.out (by show w.heap.size ≤ w.heap.size + 1; omega) _) (by show w.heap.size ≤ w.heap.size + 1; omega) _)
                  have H12 := Lib.hid (show ((wc.setCell ⟨w.heap.size + 1, i, none⟩ (.int .u8 ((a : Int) / 256))).setCell ⟨w.heap.size + 1, i + 1, none⟩ (.int .u8 ((a : Int) % 256))).heap[w.heap.size]? = _ from blk_far (blk_far H1.out _ _ (by omega)) _ _ (by omega))
                  have hsz2 : w.heap.size + 2 ≤ ((wc.setCell ⟨w.heap.size + 1, i, none⟩ (.int .u8 ((a : Int) / 256))).setCell ⟨w.heap.size + 1, i + 1, none⟩ (.int .u8 ((a : Int) % 256))).heap.size := by simpa [World.setCell] using hsz
                  clear hk1 HR HB H1 hsz hc0 hc1 hf0 hf1 hl0 hl1
                  generalize (wc.setCell ⟨w.heap.size + 1, i, none⟩ (.int .u8 ((a : Int) / 256))).setCell ⟨w.heap.size + 1, i + 1, none⟩ (.int .u8 ((a : Int) % 256)) = W2 at *
                  generalize d.extract n d.size = d2 at *
                  have HDL := Lib.hid hdl
                  clear hdl hend
                  have hg2 : (n = d.size ∧ (e = false → i + 2 = 16) ∧ (e = true → i + 2 ≤ 14)) ∨ (d.data.toList[n]? = some 58 ∧ n + 2 ≤ d.size ∧
                      ((d.data.toList[n + 1]? ≠ some 58 ∧ Six e (i + 2) (d.data.toList.drop (n + 1))) ∨ (e = false ∧ d.data.toList[n + 1]? = some 58 ∧ i + 2 ≤ 14 ∧ (n + 2 = d.size ∨ (n + 2 < d.size ∧ Six true (i + 2) (d.data.toList.drop (n + 2))))))) := by
                    rcases hg with ⟨hn, hB1, hB2⟩ | ⟨ha1, hl, hne, hsix⟩ | ⟨he, ha1, hb1, hl, hi2⟩ | ⟨he, ha1, hb1, hl, hsix⟩
                    · rw [size_len] at hn
                      exact Or.inl ⟨hn, hB1, hB2⟩
                    · rw [size_len] at hl
                      exact Or.inr ⟨ha1, by omega, Or.inl ⟨hne, hsix⟩⟩
                    · rw [size_len] at hl
                      exact Or.inr ⟨ha1, by omega, Or.inr ⟨he, hb1, hi2, Or.inl hl⟩⟩
                    · rw [size_len] at hl
                      exact Or.inr ⟨ha1, by omega, Or.inr ⟨he, hb1, (Six.round2 hsix).1, Or.inr ⟨hl, hsix⟩⟩⟩
                  clear hg HC HS
                  rcases hg2 with ⟨hn, hB1, hB2⟩ | ⟨ha1, hl, hg3⟩
                  · have hd0 : d2.size = 0 := by omega
                    have HE := Lib.hid (show (el = -1 ∧ i + 2 = 16) ∨ (0 ≤ el ∧ el ≤ i + 2 ∧ i + 2 ≤ 14) by
                      cases e
                      · exact Or.inl ⟨HEL.out.1 rfl, hB1 rfl⟩
                      · right; have := HEL.out.2 rfl; have := hB2 rfl; omega)
                    clear hB1 hB2 HEL HD hdz hn
                    go_wp2
                    go_meet
                    case rel => exact ⟨d2, i + 2, el, rfl, hd0, by go_num, rfl, HE, HR2, H12, HB2, hsz2⟩
                  · have hp0 : 0 < d2.size := by omega
                    have hz0 : ((d2.size : Int) == 0) = false := by rw [beq_eq_false_iff_ne]; omega
                    have hz1 : ((d2.size : Int) == 1) = false := by rw [beq_eq_false_iff_ne]; omega
                    have hb0 : ((d2[0].toNat : Int) == 58) = true := by
                      have hx := get_opt d2 0 hp0
                      rw [HDL.out, List.getElem?_drop, Nat.add_zero, ha1] at hx
                      rw [← Option.some.inj hx]; rfl
                    have HG3 := Lib.hid hg3
                    have HDZ := Lib.hid hdz
                    have h2le : 2 ≤ d2.size := by omega
                    clear hg3 ha1 hdz
                    go_upto_region 57 with (fail)
                    have hz3 : (d2.extract 1 d2.size).size = d2.size - 1 := by rw [ByteArray.size_extract]; omega
                    have hl3 : (d2.extract 1 d2.size).data.toList = d.data.toList.drop (n + 1) := by rw [ext_toList, ← size_len, List.take_length, HDL.out, List.drop_drop]
                    generalize d2.extract 1 d2.size = d3 at *
                    have hp3 : 0 < d3.size := by omega
                    have HZ3 := Lib.hid hz3
                    have HZJ := Lib.hid (show d3.size + (j + n + 1) = s.size by have := HDZ.out; omega)
                    clear hz3
                    have hx3 := get_opt d3 0 hp3
                    rw [hl3, List.getElem?_drop, Nat.add_zero] at hx3
                    have HX3 := Lib.hid hx3
                    have HL3 := Lib.hid hl3
                    clear hx3 hl3 hb0
                    rcases HG3.out with ⟨hne, hsix⟩ | ⟨he, hb1, hi2, hor⟩
                    · have hb3 : ((d3[0].toNat : Int) == 58) = false := by
                        rw [beq_eq_false_iff_ne]; intro h
                        apply hne
                        rw [HX3.out]; congr; exact UInt8.toNat_inj.1 (by show d3[0].toNat = 58; omega)
                      have HS3 := Lib.hid hsix
                      have HEL3 := Lib.hid (show (e = false → el = -1) ∧ (e = true → 0 ≤ el ∧ el ≤ ((i + 2 : Nat) : Int)) from ⟨HEL.out.1, fun h => ⟨(HEL.out.2 h).1, by have := (HEL.out.2 h).2; omega⟩⟩)
                      clear hne hsix HG3 HEL
                      go_wp2
                      go_roundw
                      case rel => exact ⟨d3, e, i + 2, j + n + 1, el, rfl, by go_num, rfl, HEL3, HZJ.out, Lib.hid (by rw [HL3.out, HD.out, List.drop_drop, Nat.add_assoc]), Lib.hid (by rw [HL3.out]; exact HS3.out), HR2, H12, HB2, hsz2⟩
                      case measure => show strSize (.string d3) < strSize (.string d); simp only [strSize]; have := HZJ.out; omega
                    · have hb3 : ((d3[0].toNat : Int) == 58) = true := by
                        rw [HX3.out] at hb1
                        rw [Option.some.inj hb1]; rfl
                      have hel : el = -1 := HEL.out.1 he
                      have HOR := Lib.hid hor
                      clear hor hb1 HG3 HEL he
                      subst hel
                      go_upto_region 62 with (fail)
                      have hz4 : (d3.extract 1 d3.size).size = d3.size - 1 := by rw [ByteArray.size_extract]; omega
                      have hl4 : (d3.extract 1 d3.size).data.toList = d.data.toList.drop (n + 2) := by rw [ext_toList, ← size_len, List.take_length, HL3.out, List.drop_drop]
                      generalize d3.extract 1 d3.size = d4 at *
                      have HL4 := Lib.hid hl4
                      have HZ4 := Lib.hid hz4
                      have HZK := Lib.hid (show d4.size + (j + n + 2) = s.size by have := HZJ.out; omega)
                      clear hl4 hb3 hz4
                      rcases HOR.out with hend | ⟨hlt, hsix⟩
                      · have hd0 : d4.size = 0 := by have := HZK.out; omega
                        clear HOR hend
                        go_wp2
                        go_meet
                        case rel => exact ⟨d4, i + 2, (i : Int) + 2, rfl, hd0, by go_num, rfl, Lib.hid (Or.inr (by omega)), HR2, H12, HB2, hsz2⟩
                      · have hz5 : ((d4.size : Int) == 0) = false := by rw [beq_eq_false_iff_ne]; have := HZK.out; omega
                        have HS4 := Lib.hid hsix
                        clear HOR hsix
                        go_wp2
                        go_roundw
                        case rel => exact ⟨d4, true, i + 2, j + n + 2, (i : Int) + 2, rfl, by go_num, rfl, Lib.hid ⟨(fun h => by cases h), fun _ => by omega⟩, HZK.out, Lib.hid (by rw [HL4.out, HD.out, List.drop_drop, Nat.add_assoc]), Lib.hid (by rw [HL4.out]; exact HS4.out), HR2, H12, HB2, hsz2⟩
                        case measure => show strSize (.string d4) < strSize (.string d); simp only [strSize]; have := HZK.out; omega
      case rest =>
        obtain ⟨z, i, el, rfl, hz, rfl, rfl, HEI, HR, H1, HB, hsz⟩ := hcut
        clear HEL0 HS HD HR0 hdj
        go_upto_if 242 with (fail)
        go_cut [14, 15] from 233 to 275 (fun v14 v15 wq => Hid (rowN wq (w.heap.size + 1) 16) ∧ Hid (wq.heap[w.heap.size]? = some (.cells #[.int .u64 0, .int .u64 0, .pointer none] 168)) ∧ Hid (Below w.heap.size w wq) ∧ w.heap.size + 2 ≤ wq.heap.size)
        case first =>
          as_aux_lemma =>
            rcases HEI.out with ⟨rfl, rfl⟩ | ⟨he0, hei, hi14⟩
            · go_wp2
              go_meet
              case rel => exact ⟨HR, H1, HB, hsz⟩
            · obtain ⟨e0, rfl⟩ : ∃ e0 : Nat, el = e0 := ⟨el.toNat, by omega⟩
              obtain ⟨nn, hnn⟩ : ∃ nn : Nat, nn = 16 - i := ⟨_, rfl⟩
              have hwn : (16 : Int) - (i : Int) = (nn : Int) := by omega
              have hlt : (i : Int) < 16 := by omega
              have hni : i + nn ≤ 16 := by omega
              have hnp : 0 < nn := by omega
              clear HEI hnn
              go_wp2_with (fail)
              go_loopw [15] (fun x15 wr => ∃ q : Nat, x15 = .int .i64 ((q : Int) - 1) ∧ e0 ≤ q ∧ q ≤ i ∧ Hid (rowN wr (w.heap.size + 1) 16) ∧ Hid (wr.heap[w.heap.size]? = some (.cells #[.int .u64 0, .int .u64 0, .pointer none] 168)) ∧ Hid (Below w.heap.size w wr) ∧ w.heap.size + 2 ≤ wr.heap.size) (fun x15 _ => (intOf x15 + 1).toNat)
              case atStart => exact ⟨i, rfl, by omega, by omega, HR, H1, HB, hsz⟩
              case round =>
                clear HR H1 HB hsz
                obtain ⟨q, rfl, heq, hqi, HR, H1, HB, hsz⟩ := hrel
                by_cases hq : e0 < q
                · obtain ⟨p, rfl⟩ : ∃ p, q = p + 1 := ⟨q - 1, by omega⟩
                  rw [show (((p + 1 : Nat) : Int) - 1) = (p : Int) by omega]
                  obtain ⟨ca, hca⟩ := HR.out.cell (j := p) (by omega)
                  obtain ⟨cb, hcb⟩ := HR.out.cell (j := p + nn) (by omega)
                  have hfb : wr.frozen? ⟨w.heap.size + 1, p + nn, none⟩ = false := HR.out.free (p + nn)
                  have hl0 : (p : Int) < (Tryz.prog.arrayLen 206 : Int) := by rw [hal]; omega
                  have hl1 : (p : Int) + (nn : Int) < (Tryz.prog.arrayLen 206 : Int) := by rw [hal]; omega
                  have hge : (e0 : Int) ≤ (p : Int) := by omega
                  have HR5 := Lib.hid (HR.out.set (j := p + nn) (by omega) ca)
                  have H15 := Lib.hid (blk_far (g' := w.heap.size + 1) H1.out (p + nn) (.int .u8 (ca.toNat : Int)) (by omega))
                  have HB5 := Lib.hid (Below.setCell (p := ⟨w.heap.size + 1, p + nn, none⟩) HB.out (by show w.heap.size ≤ w.heap.size + 1; omega) (.int .u8 (ca.toNat : Int)))
                  clear HR H1 HB
                  go_wp2
                  go_roundw
                  case rel => exact ⟨p, rfl, by omega, by omega, HR5, H15, HB5, by simpa [World.setCell] using hsz⟩
                  case measure => simp [intOf]
                · have hqe : q = e0 := by omega
                  subst hqe
                  have hge : ¬ ((q : Int) ≤ (q : Int) - 1) := by omega
                  have hpt : ∀ W : World, (Instr.sliceAt 206 (.pointer (some ⟨w.heap.size + 1, 0, none⟩)) (some (.int .i64 (q : Int))) (some (.int .i64 ((q : Int) + (nn : Int)))) none).run Tryz.prog W = .ok (.slice (some ⟨w.heap.size + 1, q, none⟩) nn (16 - q)) W := fun W => by
                    have := part16 (w.heap.size + 1) q (q + nn) W (by omega) (by omega) (by omega)
                    rw [show q + nn - q = nn by omega] at this
                    exact this
                  have hcl := fun ty => clear16 ty (w.heap.size + 1) q nn (16 - q) wr (by omega) (by omega) HR.out
                  have HSC := Lib.hid (rowN.setCells (g := w.heap.size + 1) (n := 16) (List.replicate nn (.int .u8 0)) q wr (fun v hv => List.eq_of_mem_replicate hv) (by rw [List.length_replicate]; omega) HR.out)
                  have H15 := Lib.hid ((HSC.out.2.2.1 w.heap.size (by omega)).trans H1.out)
                  have HB5 := Lib.hid (HSC.out.2.1 w.heap.size (by omega) w HB.out)
                  have hsz5 : w.heap.size + 2 ≤ (wr.setCells (w.heap.size + 1) q (List.replicate nn (.int .u8 0))).heap.size := by rw [HSC.out.2.2.2]; exact hsz
                  clear HR H1 HB
                  go_wp2
                  go_meet
                  case rel => exact ⟨Lib.hid HSC.out.1, H15, HB5, hsz5⟩
        case rest =>
          as_aux_lemma =>
            obtain ⟨HR2, H12, HB2, hsz2⟩ := hcut
            have HN2 := Lib.hid (HNw.out.up (HB2.out.mono hN))
            clear HN HB H1 HR H2 HZ HEI hsz
            obtain ⟨b0, h0⟩ := HR2.out.cell (j := 0) (by omega)
            obtain ⟨b1, h1⟩ := HR2.out.cell (j := 1) (by omega)
            obtain ⟨b2, h2⟩ := HR2.out.cell (j := 2) (by omega)
            obtain ⟨b3, h3⟩ := HR2.out.cell (j := 3) (by omega)
            obtain ⟨b4, h4⟩ := HR2.out.cell (j := 4) (by omega)
            obtain ⟨b5, h5⟩ := HR2.out.cell (j := 5) (by omega)
            obtain ⟨b6, h6⟩ := HR2.out.cell (j := 6) (by omega)
            obtain ⟨b7, h7⟩ := HR2.out.cell (j := 7) (by omega)
            obtain ⟨b8, h8⟩ := HR2.out.cell (j := 8) (by omega)
            obtain ⟨b9, h9⟩ := HR2.out.cell (j := 9) (by omega)
            obtain ⟨b10, h10⟩ := HR2.out.cell (j := 10) (by omega)
            obtain ⟨b11, h11⟩ := HR2.out.cell (j := 11) (by omega)
            obtain ⟨b12, h12⟩ := HR2.out.cell (j := 12) (by omega)
            obtain ⟨b13, h13⟩ := HR2.out.cell (j := 13) (by omega)
            obtain ⟨b14, h14⟩ := HR2.out.cell (j := 14) (by omega)
            obtain ⟨b15, h15⟩ := HR2.out.cell (j := 15) (by omega)
            go_wp2_with (fail)
            have hcs : ∀ j, j < 16 → ∃ c : Nat, c < 256 ∧ (#[Value.int .u8 (b0.toNat : Int), Value.int .u8 (b1.toNat : Int), Value.int .u8 (b2.toNat : Int), Value.int .u8 (b3.toNat : Int), Value.int .u8 (b4.toNat : Int), Value.int .u8 (b5.toNat : Int), Value.int .u8 (b6.toNat : Int), Value.int .u8 (b7.toNat : Int), Value.int .u8 (b8.toNat : Int), Value.int .u8 (b9.toNat : Int), Value.int .u8 (b10.toNat : Int), Value.int .u8 (b11.toNat : Int), Value.int .u8 (b12.toNat : Int), Value.int .u8 (b13.toNat : Int), Value.int .u8 (b14.toNat : Int), Value.int .u8 (b15.toNat : Int)] : Array Value)[j]? = some (.int .u8 (c : Int)) := by
              intro j hj
              match j, hj with
              | 0, _ => exact ⟨b0.toNat, b0.toNat_lt, rfl⟩
              | 1, _ => exact ⟨b1.toNat, b1.toNat_lt, rfl⟩
              | 2, _ => exact ⟨b2.toNat, b2.toNat_lt, rfl⟩
              | 3, _ => exact ⟨b3.toNat, b3.toNat_lt, rfl⟩
              | 4, _ => exact ⟨b4.toNat, b4.toNat_lt, rfl⟩
              | 5, _ => exact ⟨b5.toNat, b5.toNat_lt, rfl⟩
              | 6, _ => exact ⟨b6.toNat, b6.toNat_lt, rfl⟩
              | 7, _ => exact ⟨b7.toNat, b7.toNat_lt, rfl⟩
              | 8, _ => exact ⟨b8.toNat, b8.toNat_lt, rfl⟩
              | 9, _ => exact ⟨b9.toNat, b9.toNat_lt, rfl⟩
              | 10, _ => exact ⟨b10.toNat, b10.toNat_lt, rfl⟩
              | 11, _ => exact ⟨b11.toNat, b11.toNat_lt, rfl⟩
              | 12, _ => exact ⟨b12.toNat, b12.toNat_lt, rfl⟩
              | 13, _ => exact ⟨b13.toNat, b13.toNat_lt, rfl⟩
              | 14, _ => exact ⟨b14.toNat, b14.toNat_lt, rfl⟩
              | 15, _ => exact ⟨b15.toNat, b15.toNat_lt, rfl⟩
              | k + 16, h => omega
            refine Calls.mono (from16_any _ _ HN2.out (Nat.le_trans hN HB2.out.size) rfl hcs) ?_
            rintro e6 w6 ⟨hi, lo, rfl, hb6⟩
            have HN6 := HN2.out.up (hb6.mono (Nat.le_trans hN HB2.out.size))
            have k6 := blk_below H12.out hb6 (by omega)
            have hB6 := bt HB2.out hb6
            go_wp2_with (fail)
            refine Calls.mono (withZone_any hi lo _ HN6 (Nat.le_trans hN hB6.size)) ?_
            rintro e7 w7 ⟨rfl, hb7⟩
            have k7 := blk_below k6 hb7 (Array.getElem?_eq_some_iff.1 k6).1
            have hB7 := bt hB6 hb7
            have K7 := Lib.hid k7
            have r0 : ∀ i, w7.cell? ⟨w.heap.size, i, none⟩ = _ := blk_cell k7
            have s0 : ∀ i, w7.frozen? ⟨w.heap.size, i, none⟩ = false := blk_frozen k7
            clear k6 k7 hb6 hb7 HN6 HN2 HR2 H12 HB2 hB6
            go_wp2
            have q := blk_set (blk_set (blk_set K7.out 0 (.int .u64 hi)) 1 (.int .u64 lo)) 2 (.pointer (some p6))
            have hc0 : ∀ j, _ := blk_cell q
            have hz0 : ∀ j, _ := blk_frozen q
            refine bodyPost_ret (v := .tuple #[addrV hi lo p6, .nilIface]) (by simp [results, Tryz.results156, go_sem, hc0, hz0]) rfl ⟨hi, lo, rfl, ?_⟩
            exact Below.setCell (p := ⟨w.heap.size, 2, none⟩) (Below.setCell (p := ⟨w.heap.size, 1, none⟩) (Below.setCell (p := ⟨w.heap.size, 0, none⟩) hB7 (Nat.le_refl _) _) (Nat.le_refl _) _) (Nat.le_refl _) _
end Go.Proofs.YtfkgkkmcaaefnaaGreatDoor.Wk
