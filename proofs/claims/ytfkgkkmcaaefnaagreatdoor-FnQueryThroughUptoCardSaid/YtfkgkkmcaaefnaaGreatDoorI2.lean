/-
  THE WALKS of netip's small functions.
-/
import Derived.Test.YtfkgkkmcaaefnaaGreatDoorI1
import Derived.Laws.StructEq
import Derived.LaidEqlPtr
import Derived.BigQuiet
set_option linter.unusedSimpArgs false
set_option linter.unusedVariables false
namespace Go.Proofs.YtfkgkkmcaaefnaaGreatDoor.Wk
open Go.RowKit Go.Proofs.YtfkgkkmcaaefnaaGreatDoor.Pu

/-- netip's variables, below block N -/
structure Net (N : Nat) (w : World) (p4 p6 : Addr) : Prop where
  z4 : w.cell? ⟨3, 0, none⟩ = some (.pointer (some p4))
  z6 : w.cell? ⟨6, 0, none⟩ = some (.pointer (some p6))
  z0 : w.cell? ⟨7, 0, none⟩ = some (.pointer none)
  ne : p6 ≠ p4
  b4 : ∃ c t, w.heap[p4.block]? = some (.cells c t (0, 0))
  b6 : ∃ c t, w.heap[p6.block]? = some (.cells c t (0, 0))
  l4 : p4.block < N
  l6 : p6.block < N
  l7 : 8 ≤ N
theorem Net.up {N : Nat} {w w' : World} {p4 p6 : Addr} (h : Net N w p4 p6) (hb : Below N w w') : Net N w' p4 p6 := by
  obtain ⟨h1, h2, h3, h4, h5, h6, h7, h8, h9⟩ := h
  exact ⟨(hb.cell (p := ⟨3, 0, none⟩) (by show 3 < N; omega)).trans h1, (hb.cell (p := ⟨6, 0, none⟩) (by show 6 < N; omega)).trans h2, (hb.cell (p := ⟨7, 0, none⟩) (by show 7 < N; omega)).trans h3, h4,
    by rw [hb.block _ h7]; exact h5, by rw [hb.block _ h8]; exact h6, h7, h8, h9⟩

theorem info216 : (Tryz.prog.info? 216).map (·.size) = some 2 := by kernel_rfl
theorem eq164_nil (p : Addr) (w : World) : (Op.equalIn 9999 164 (.pointer (some p)) (.pointer none)).run Tryz.prog w = .ok false w := by
  have h0 : ∀ d : Nat, (Op.equalIn (d + 1) 164 (.pointer (some p)) (.pointer none)).run Tryz.prog w = .ok false w := fun d => by
    simp [Op.equalIn, run_underlying Tryz.underlying164]
  exact h0 9998
theorem eq164_other {N : Nat} {w : World} {p4 p6 : Addr} (h : Net N w p4 p6) : (Op.equalIn 9999 164 (.pointer (some p6)) (.pointer (some p4))).run Tryz.prog w = .ok false w := by
  obtain ⟨j, hj, hjs⟩ := Option.map_eq_some_iff.1 info216
  obtain ⟨c4, t4, h4⟩ := h.b4
  obtain ⟨c6, t6, h6⟩ := h.b6
  have h0 : ∀ d : Nat, (Op.equalIn (d + 1) 164 (.pointer (some p6)) (.pointer (some p4))).run Tryz.prog w = .ok false w := fun d => by
    simp [Op.equalIn, run_underlying Tryz.underlying164, sizeOf, typeInfo, hj, hjs, run_sameAddr_other w h.ne h6 h4]
  exact h0 9998

abbrev addrV (hi lo : Int) (p : Addr) : Value := .agg #[.int .u64 hi, .int .u64 lo, .pointer (some p)]

set_option maxHeartbeats 2000000 in
set_option maxRecDepth 100000 in
theorem is6_any {N : Nat} {p4 p6 : Addr} (hi lo : Int) (w : World) (h : Net N w p4 p6) (hN : N ≤ w.heap.size) :
    Calls Tryz.prog 167 #[addrV hi lo p6] w fun e w' => e = .returned (.bool true) ∧ Below w.heap.size w w' := by
  have hB := (Below.refl w.heap.size w).alloc (Nat.le_refl _) (.cells #[.int .u64 hi, .int .u64 lo, .pointer (some p6)] 168)
  have h' := h.up (hB.mono hN)
  have c3 := h'.z4
  have c7 := h'.z0
  have e1 := eq164_nil p6
  have e2 := eq164_other h'
  have H := Lib.hid h'
  clear h h'
  go_enter Tryz.func167, Tryz.ntmps167
  go_wp2
  go_ret
  exact ⟨rfl, hB⟩
set_option maxHeartbeats 2000000 in
set_option maxRecDepth 100000 in
theorem is4_any {N : Nat} {p4 p6 : Addr} (hi lo : Int) (w : World) (h : Net N w p4 p6) (hN : N ≤ w.heap.size) :
    Calls Tryz.prog 141 #[addrV hi lo p6] w fun e w' => e = .returned (.bool false) ∧ Below w.heap.size w w' := by
  have hB := (Below.refl w.heap.size w).alloc (Nat.le_refl _) (.cells #[.int .u64 hi, .int .u64 lo, .pointer (some p6)] 168)
  have h' := h.up (hB.mono hN)
  have c3 := h'.z4
  have e2 := eq164_other h'
  have H := Lib.hid h'
  clear h h'
  go_enter Tryz.func141, Tryz.ntmps141
  go_wp2
  go_ret
  exact ⟨rfl, hB⟩

theorem Net.free {N : Nat} {w : World} {p4 p6 : Addr} (h : Net N w p4 p6) {g : Nat} (hg : N ≤ g) (v : Value) (i : Nat) : Net N (w.setCell ⟨g, i, none⟩ v) p4 p6 := h.up ((Below.refl N w).setCell hg v)
set_option maxHeartbeats 2000000 in
set_option maxRecDepth 100000 in
theorem withZone_any {N : Nat} {p4 p6 : Addr} (hi lo : Int) (w : World) (h : Net N w p4 p6) (hN : N ≤ w.heap.size) :
    Calls Tryz.prog 165 #[addrV hi lo p6, .string ⟨#[]⟩] w fun e w' => e = .returned (addrV hi lo p6) ∧ Below w.heap.size w w' := by
  have H1 := Lib.hid (blk_new w (.cells #[.int .u64 hi, .int .u64 lo, .pointer (some p6)] 168))
  have H1 := Lib.hid (blk_alloc H1.out (.cells #[.int .u64 0, .int .u64 0, .pointer none] 168))
  have H2 := Lib.hid (blk_new2 w (.cells #[.int .u64 hi, .int .u64 lo, .pointer (some p6)] 168) (.cells #[.int .u64 0, .int .u64 0, .pointer none] 168))
  have HB := Lib.hid (((Below.refl w.heap.size w).alloc (Nat.le_refl _) (.cells #[.int .u64 hi, .int .u64 lo, .pointer (some p6)] 168)).alloc (by simp) (.cells #[.int .u64 0, .int .u64 0, .pointer none] 168))
  have HN := Lib.hid (h.up (HB.out.mono hN))
  have HZ := Lib.hid (show ((w.alloc (.cells #[.int .u64 hi, .int .u64 lo, .pointer (some p6)] 168)).alloc (.cells #[.int .u64 0, .int .u64 0, .pointer none] 168)).heap.size = w.heap.size + 2 by simp)
  clear h
  go_enter Tryz.func165, Tryz.ntmps165
  go_wp2_with (fail)
  generalize ((w.alloc (.cells #[.int .u64 hi, .int .u64 lo, .pointer (some p6)] 168)).alloc (.cells #[.int .u64 0, .int .u64 0, .pointer none] 168)) = W at *
  refine (is6_any hi lo W HN.out (by rw [HZ.out]; omega)).mono ?_
  rintro e w1 ⟨rfl, hb1⟩
  have k1 := blk_below H1.out hb1 (by rw [HZ.out]; omega)
  have k2 := blk_below H2.out hb1 (by rw [HZ.out]; omega)
  have hN1 := HN.out.up (hb1.mono (by rw [HZ.out]; omega))
  have hB1 := bt HB.out hb1
  have c6 := hN1.z6
  have a0 : w1.cell? ⟨w.heap.size, 0, none⟩ = some (.int .u64 hi) := blk_cell k1 0
  have a1 : w1.cell? ⟨w.heap.size, 1, none⟩ = some (.int .u64 lo) := blk_cell k1 1
  have a2 : w1.cell? ⟨w.heap.size, 2, none⟩ = some (.pointer (some p6)) := blk_cell k1 2
  have f2 : w1.frozen? ⟨w.heap.size, 2, none⟩ = false := blk_frozen k1 2
  have r0 : ∀ i, w1.cell? ⟨w.heap.size + 1, i, none⟩ = _ := blk_cell k2
  have s0 : ∀ i, w1.frozen? ⟨w.heap.size + 1, i, none⟩ = false := blk_frozen k2
  have K2 := Lib.hid k2
  clear H1 H2 HB HN HZ k1 k2 hb1 hN1
  go_wp2
  have q := blk_set (blk_set (blk_set (blk_far K2.out 2 (.pointer (some p6)) (g' := w.heap.size) (by omega)) 0 (.int .u64 hi)) 1 (.int .u64 lo)) 2 (.pointer (some p6))
  have hc0 : ∀ j, _ := blk_cell q
  have hz0 : ∀ j, _ := blk_frozen q
  refine bodyPost_ret (v := addrV hi lo p6) (by simp [results, Tryz.results165, go_sem, hc0, hz0]) rfl ⟨rfl, ?_⟩
  exact (((hB1.setCell (Nat.le_refl _) _).setCell (by simp) _).setCell (by simp) _).setCell (by simp) _

set_option maxHeartbeats 2000000 in
set_option maxRecDepth 100000 in
theorem unspec_any {N : Nat} {p4 p6 : Addr} (w : World) (h : Net N w p4 p6) (hN : N ≤ w.heap.size) :
    Calls Tryz.prog 164 #[] w fun e w' => e = .returned (addrV 0 0 p6) ∧ Below w.heap.size w w' := by
  have H1 := Lib.hid (blk_new w (.cells #[.int .u64 0, .int .u64 0, .pointer none] 168))
  have HB := Lib.hid ((Below.refl w.heap.size w).alloc (Nat.le_refl _) (.cells #[.int .u64 0, .int .u64 0, .pointer none] 168))
  have c6 := (h.up (HB.out.mono hN)).z6
  have r0 : ∀ i, _ = _ := blk_cell H1.out
  have s0 : ∀ i, _ = false := blk_frozen H1.out
  clear h
  go_enter Tryz.func164, Tryz.ntmps164
  go_wp2
  have q := blk_set (blk_set (blk_set H1.out 0 (.int .u64 0)) 1 (.int .u64 0)) 2 (.pointer (some p6))
  have hc0 : ∀ j, _ := blk_cell q
  have hz0 : ∀ j, _ := blk_frozen q
  refine bodyPost_ret (v := addrV 0 0 p6) (by simp [results, Tryz.results164, go_sem, hc0, hz0]) rfl ⟨rfl, ?_⟩
  exact (Below.refl w.heap.size w).alloc (Nat.le_refl _) _

set_option maxHeartbeats 4000000 in
set_option maxRecDepth 100000 in
theorem be64_any (g o cap : Nat) (w : World) (hc : ∀ j, j < 8 → ∃ c : Nat, c < 256 ∧ w.cell? ⟨g, o + j, none⟩ = some (.int .u8 (c : Int))) (hcap : 8 ≤ cap) :
    Calls Tryz.prog 169 #[.slice (some ⟨g, o, none⟩) 8 cap] w fun e w' => ∃ (v : Int) (n : Nat), e = .returned (.int .u64 v) ∧ w' = w.drewN n := by
  obtain ⟨a0, l0, h0⟩ := hc 0 (by decide)
  obtain ⟨a1, l1, h1⟩ := hc 1 (by decide)
  obtain ⟨a2, l2, h2⟩ := hc 2 (by decide)
  obtain ⟨a3, l3, h3⟩ := hc 3 (by decide)
  obtain ⟨a4, l4, h4⟩ := hc 4 (by decide)
  obtain ⟨a5, l5, h5⟩ := hc 5 (by decide)
  obtain ⟨a6, l6, h6⟩ := hc 6 (by decide)
  obtain ⟨a7, l7, h7⟩ := hc 7 (by decide)
  rw [Nat.add_zero] at h0
  clear hc
  go_enter Tryz.func169, Tryz.ntmps169
  go_wp2
  go_quiet (fail)
  go_wp2
  go_ret
  exact ⟨_, _, rfl, rfl⟩

end Go.Proofs.YtfkgkkmcaaefnaaGreatDoor.Wk
