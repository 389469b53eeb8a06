/-
  THE WALK of netip's ParseAddr, at an IPv6 address without a zone.
-/
import Derived.Test.YtfkgkkmcaaefnaaGreatDoorI4
set_option linter.unusedSimpArgs false
set_option linter.unusedVariables false
namespace Go.Proofs.YtfkgkkmcaaefnaaGreatDoor.Wk
open Go.RowKit Go.Proofs.YtfkgkkmcaaefnaaGreatDoor.Pu

set_option maxHeartbeats 4000000 in
set_option maxRecDepth 100000 in
theorem parseAddr_any {N : Nat} {p4 p6 : Addr} (s : ByteArray) (w : World) (h : Net N w p4 p6) (hN : N ≤ w.heap.size) (hs : s.size ≤ 140737488355328) (hv : v6F s.data.toList = true) :
    Calls Tryz.prog 140 #[.string s] w fun e w' => ∃ hi lo : Int, e = .returned (.tuple #[addrV hi lo p6, .nilIface]) ∧ Below w.heap.size w w' := by
  obtain ⟨n, h58, hhex⟩ := v6_first hv
  have hns : n < s.size := by rw [← size_len]; exact (List.getElem?_eq_some_iff.1 h58).1
  have hb58 : s[n].toNat = 58 := by rw [get_opt s n hns] at h58; rw [Option.some.inj h58]; rfl
  have hall : ∀ k (hk : k < s.size), k < n → s[k].toNat ≠ 46 ∧ s[k].toNat ≠ 58 ∧ s[k].toNat ≠ 37 := by
    intro k hk hkn
    obtain ⟨c, hc, hx⟩ := hhex k hkn
    rw [get_opt s k hk] at hc
    rw [Option.some.inj hc]
    have := hex_cases hx
    omega
  have H1 := Lib.hid (blk_new w (.cells #[.int .u64 0, .int .u64 0, .pointer none] 168))
  have HB := Lib.hid ((Below.refl w.heap.size w).alloc (Nat.le_refl _) (.cells #[.int .u64 0, .int .u64 0, .pointer none] 168))
  have HN := Lib.hid (h.up (HB.out.mono hN))
  have HZ := Lib.hid (show (w.alloc (.cells #[.int .u64 0, .int .u64 0, .pointer none] 168)).heap.size = w.heap.size + 1 by simp)
  have HV := Lib.hid hv
  have HA := Lib.hid hall
  have H58 := Lib.hid hb58
  clear h hv h58 hhex hall hb58
  go_enter Tryz.func140, Tryz.ntmps140
  go_upto_region 1 with (fail)
  generalize w.alloc (.cells #[.int .u64 0, .int .u64 0, .pointer none] 168) = W at *
  go_wp2
  go_loopw [4, 14, 20, 26] (fun i _ _ _ wr => ∃ k : Nat, k ≤ n ∧ i = .int .i64 k ∧ wr = W) (fun i _ _ _ _ => s.size - (intOf i).toNat)
  case atStart => exact ⟨0, by omega, rfl, rfl⟩
  case round =>
    obtain ⟨k, hk, rfl, rfl⟩ := hrel
    by_cases hkn : k < n
    · have hks : k < s.size := by omega
      obtain ⟨h1, h2, h3⟩ := HA.out k hks hkn
      have e1 : ((s[k].toNat : Int) == 46) = false := by rw [beq_eq_false_iff_ne]; omega
      have e2 : ((s[k].toNat : Int) == 58) = false := by rw [beq_eq_false_iff_ne]; omega
      have e3 : ((s[k].toNat : Int) == 37) = false := by rw [beq_eq_false_iff_ne]; omega
      clear h1 h2 h3
      go_wp2
      go_roundw
      case rel => exact ⟨k + 1, by omega, by go_num, by first | rfl | trivial⟩
      case measure => simp [intOf]; omega
    · have hke : k = n := by omega
      subst hke
      have e1 : ((s[k].toNat : Int) == 46) = false := by rw [beq_eq_false_iff_ne]; have := H58.out; omega
      have e2 : ((s[k].toNat : Int) == 58) = true := by rw [beq_iff_eq]; have := H58.out; omega
      go_wp2_with (fail)
      refine Calls.mono (parse6_any s _ HN.out (by rw [HZ.out]; omega) hs HV.out) ?_
      rintro e w1 ⟨hi, lo, rfl, hb1⟩
      have k1 := blk_below H1.out hb1 (by rw [HZ.out]; omega)
      have hB1 := bt HB.out hb1
      have K1 := Lib.hid k1
      have r0 : ∀ i, w1.cell? ⟨w.heap.size, i, none⟩ = _ := blk_cell k1
      have s0 : ∀ i, w1.frozen? ⟨w.heap.size, i, none⟩ = false := blk_frozen k1
      clear k1 hb1 H1 HB HN HZ
      go_wp2
      have q := blk_set (blk_set (blk_set K1.out 0 (.int .u64 hi)) 1 (.int .u64 lo)) 2 (.pointer (some p6))
      have hc0 : ∀ j, _ := blk_cell q
      have hz0 : ∀ j, _ := blk_frozen q
      refine bodyPost_ret (v := .tuple #[addrV hi lo p6, .nilIface]) (by simp [results, Tryz.results140, go_sem, hc0, hz0]) rfl ⟨hi, lo, rfl, ?_⟩
      exact Below.setCell (p := ⟨w.heap.size, 2, none⟩) (Below.setCell (p := ⟨w.heap.size, 1, none⟩) (Below.setCell (p := ⟨w.heap.size, 0, none⟩) hB1 (Nat.le_refl _) _) (Nat.le_refl _) _) (Nat.le_refl _) _
end Go.Proofs.YtfkgkkmcaaefnaaGreatDoor.Wk
