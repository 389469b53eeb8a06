/-
  THE WALK of netip's AddrFrom16.
-/
import Derived.Test.YtfkgkkmcaaefnaaGreatDoorI2
import Derived.Deep.DeepCutAuto
import Derived.RegionTactic
set_option linter.unusedSimpArgs false
set_option linter.unusedVariables false
namespace Go.Proofs.YtfkgkkmcaaefnaaGreatDoor.Wk
open Go.RowKit Go.Proofs.YtfkgkkmcaaefnaaGreatDoor.Pu

set_option maxHeartbeats 4000000 in
set_option maxRecDepth 100000 in
theorem from16_any {N : Nat} {p4 p6 : Addr} (cs : Array Value) (w : World) (h : Net N w p4 p6) (hN : N ≤ w.heap.size) (hs : cs.size = 16) (hc : ∀ j, j < 16 → ∃ c : Nat, c < 256 ∧ cs[j]? = some (.int .u8 (c : Int))) :
    Calls Tryz.prog 166 #[.agg cs] w fun e w' => ∃ hi lo : Int, e = .returned (addrV hi lo p6) ∧ Below w.heap.size w w' := by
  have H1 := Lib.hid (blk_alloc (blk_new w (.cells cs 206)) (.cells #[.int .u64 0, .int .u64 0, .pointer none] 168))
  have H2 := Lib.hid (blk_new2 w (.cells cs 206) (.cells #[.int .u64 0, .int .u64 0, .pointer none] 168))
  have HB := Lib.hid (((Below.refl w.heap.size w).alloc (Nat.le_refl _) (.cells cs 206)).alloc (by simp) (.cells #[.int .u64 0, .int .u64 0, .pointer none] 168))
  have hal : Tryz.prog.arrayLen 206 = 16 := by kernel_rfl
  have c6 := (h.up (HB.out.mono hN)).z6
  have HC := Lib.hid hc
  clear h hc
  go_enter Tryz.func166, Tryz.ntmps166
  go_upto_region 1 with (fail)
  generalize ((w.alloc (.cells cs 206)).alloc (.cells #[.int .u64 0, .int .u64 0, .pointer none] 168)) = W at *
  have cc : ∀ j, j < 16 → ∃ c : Nat, c < 256 ∧ W.cell? ⟨w.heap.size, j, none⟩ = some (.int .u8 (c : Int)) := fun j hj => by
    obtain ⟨c, h1, h2⟩ := HC.out j hj
    exact ⟨c, h1, by rw [blk_cell H1.out j]; exact h2⟩
  have r0 : ∀ i, W.cell? ⟨w.heap.size + 1, i, none⟩ = _ := blk_cell H2.out
  have s0 : ∀ i, W.frozen? ⟨w.heap.size + 1, i, none⟩ = false := blk_frozen H2.out
  have CC := Lib.hid cc
  clear cc H1
  have CA : ∀ (X : World) (o j : Nat), X.heap = W.heap → o + 8 ≤ 16 → j < 8 → ∃ c : Nat, c < 256 ∧ X.cell? ⟨w.heap.size, o + j, none⟩ = some (.int .u8 (c : Int)) := fun X o j hX ho hj => by
    obtain ⟨c, h1, h2⟩ := CC.out (o + j) (by omega)
    exact ⟨c, h1, by rw [← h2]; unfold World.cell?; rw [hX]⟩
  have CA := Lib.hid CA
  have H2h := Lib.hid H2.out
  clear CC H2
  go_cut [] from 3 to 9 (fun wx => ∃ hi lo : Int, Hid (wx.heap[w.heap.size + 1]? = some (.cells #[.int .u64 hi, .int .u64 lo, .pointer (some p6)] 168 (0, 0))) ∧ Hid (Below w.heap.size w wx))
  case first =>
    go_region_with (go_at_call 169; refine Calls.mono (be64_any w.heap.size _ _ _ (fun j hj => CA.out _ _ j rfl (by decide) hj) (by decide)) ?_; rintro e w1 ⟨v, n, rfl, rfl⟩)
    all_goals
      go_wp2_with (fail)
      go_meet
      case rel => exact ⟨_, _, Lib.hid (blk_set (blk_set (blk_set (w := W.drewN _) H2h.out 0 _) 1 _) 2 _), Lib.hid (Below.setCell (p := ⟨w.heap.size + 1, 2, none⟩) (Below.setCell (p := ⟨w.heap.size + 1, 1, none⟩) (Below.setCell (p := ⟨w.heap.size + 1, 0, none⟩) (bdN HB.out _) (by simp) _) (by simp) _) (by simp) _)⟩
  case rest =>
    obtain ⟨hi, lo, K1, HBx⟩ := hcut
    have hc0 : ∀ j, _ := blk_cell K1.out
    have hz0 : ∀ j, _ := blk_frozen K1.out
    go_wp2
    refine bodyPost_ret (v := addrV hi lo p6) (by simp [results, Tryz.results166, go_sem, hc0, hz0]) rfl ⟨hi, lo, rfl, HBx.out⟩
end Go.Proofs.YtfkgkkmcaaefnaaGreatDoor.Wk
