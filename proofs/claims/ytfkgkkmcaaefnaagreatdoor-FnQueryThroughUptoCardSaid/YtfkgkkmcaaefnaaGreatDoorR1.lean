/-
  THE WALK of bytes.LastIndexByte at a slash.
-/
import Derived.Test.YtfkgkkmcaaefnaaGreatDoorS2
import Derived.Test.YtfkgkkmcaaefnaaGreatDoorPz
set_option linter.unusedSimpArgs false
set_option linter.unusedVariables false
namespace Go.Proofs.YtfkgkkmcaaefnaaGreatDoor.Wk
open Go.RowKit Go.Proofs.YtfkgkkmcaaefnaaGreatDoor.Pu

set_option maxHeartbeats 2000000 in
set_option maxRecDepth 100000 in
theorem lastIdxB_any (g off cap : Nat) (l : L) (w : World) (hl : l.length ≤ 140737488355328) (h : ∀ (j : Nat) (c : UInt8), l[j]? = some c → w.cell? ⟨g, off + j, none⟩ = some (.int .u8 (c.toNat : Int))) :
    Calls Tryz.prog 119 #[.slice (some ⟨g, off, none⟩) l.length cap, .int .u8 47] w fun e w' => e = .returned (.int .i64 ((lastSl l : Int) - 1)) ∧ w = w' := by
  have H := Lib.hid h
  clear h
  go_enter Tryz.func119, Tryz.ntmps119
  go_wp2
  go_loop [5] (fun i => ∃ k : Nat, k ≤ l.length ∧ i = .int .i64 ((k : Int) - 1) ∧ Hid (lastSl l = lastSl (l.take k))) (fun i => (intOf i + 1).toNat)
  case atStart => exact ⟨l.length, by omega, rfl, Lib.hid (by rw [List.take_length])⟩
  case round =>
    obtain ⟨k, hk, rfl, hls⟩ := hrel
    rcases Nat.eq_zero_or_pos k with rfl | hpos
    · have hz : lastSl l = 0 := by rw [hls.out]; rfl
      have HZ := Lib.hid hz
      clear hz hls
      go_wp2
      go_ret
      exact ⟨ret_int (by rw [HZ.out]; rfl), rfl⟩
    · obtain ⟨m, rfl⟩ : ∃ m, k = m + 1 := ⟨k - 1, by omega⟩
      have hm : m < l.length := by omega
      have hx : l[m]? = some l[m] := List.getElem?_eq_getElem hm
      have hc := H.out m _ hx
      have hsn : lastSl (l.take (m + 1)) = if l[m] = 47 then m + 1 else lastSl (l.take m) := by
        rw [List.take_succ_eq_append_getElem hm, lastSl_snoc, List.length_take, Nat.min_eq_left (by omega)]
      rw [show (((m + 1 : Nat) : Int) - 1) = (m : Int) by omega]
      have e1 : ((m : Int)).toNat = m := by omega
      by_cases h47 : l[m] = 47
      · rw [if_pos h47] at hsn
        have hb : ((l[m].toNat : Int) == 47) = true := by rw [h47]; rfl
        have HS := Lib.hid (hls.out.trans hsn)
        clear hls hsn hx h47
        go_wp2
        go_ret
        exact ⟨ret_int (by have := HS.out; omega), rfl⟩
      · rw [if_neg h47] at hsn
        have hb : ((l[m].toNat : Int) == 47) = false := by
          rw [beq_eq_false_iff_ne]; intro e; apply h47; apply UInt8.toNat_inj.1
          show l[m].toNat = 47
          omega
        have HS := Lib.hid (hls.out.trans hsn)
        clear hls hsn hx h47
        go_wp2
        exact ⟨⟨m, by omega, rfl, HS⟩, by simp [intOf]⟩
theorem lastIdx_any (g off cap : Nat) (l : L) (w : World) (hl : l.length ≤ 140737488355328) (h : ∀ (j : Nat) (c : UInt8), l[j]? = some c → w.cell? ⟨g, off + j, none⟩ = some (.int .u8 (c.toNat : Int))) :
    Calls Tryz.prog 102 #[.slice (some ⟨g, off, none⟩) l.length cap, .int .u8 47] w fun e w' => e = .returned (.int .i64 ((lastSl l : Int) - 1)) ∧ w = w' := by
  have H := Lib.hid h
  clear h
  go_enter Tryz.func102, Tryz.ntmps102
  go_wp2_with (fail)
  refine (lastIdxB_any g off cap l w hl H.out).mono ?_
  rintro e w1 ⟨rfl, rfl⟩
  go_wp2
  go_ret
  exact ⟨rfl, rfl⟩
end Go.Proofs.YtfkgkkmcaaefnaaGreatDoor.Wk
