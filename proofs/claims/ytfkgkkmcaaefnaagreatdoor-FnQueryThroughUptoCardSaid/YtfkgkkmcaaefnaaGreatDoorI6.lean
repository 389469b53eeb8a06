/-
  A PART OF AN ARRAY OF SIXTEEN BYTES, as a slice; and cleared.
-/
import Derived.Test.YtfkgkkmcaaefnaaGreatDoorI2
import Derived.Lib.SliceRun
set_option linter.unusedSimpArgs false
set_option linter.unusedVariables false
namespace Go.Proofs.YtfkgkkmcaaefnaaGreatDoor.Wk
open Go.RowKit Go.Proofs.YtfkgkkmcaaefnaaGreatDoor.Pu

theorem part16 (g i h : Nat) (w : World) (hi : i < 16) (hih : i ≤ h) (hh : h ≤ 16) : (Instr.sliceAt 206 (.pointer (some ⟨g, 0, none⟩)) (some (.int .i64 (i : Int))) (some (.int .i64 (h : Int))) none).run Tryz.prog w = .ok (.slice (some ⟨g, i, none⟩) (h - i) (16 - i)) w := by
  have hal : Tryz.prog.arrayLen 206 = 16 := by kernel_rfl
  have hel : Tryz.prog.elem 206 = 5 := by kernel_rfl
  have hu : Tryz.prog.underlying 206 = some (.array (Tryz.prog.arrayLen 206) (Tryz.prog.elem 206)) := by rw [hal, hel]; exact Tryz.underlying206
  rw [run_sliceAt_array_lh w 206 ⟨g, 0, none⟩ hu .i64 .i64 i h (by omega) (by omega) (by rw [hal]; omega), hel, Tryz.sizeOf5, hal]
  simp only [Result.andThen_ok, slicedAt, Int.toNat_natCast]
  rw [if_neg (by omega)]
  simp [Addr.add]
  intro h; omega
theorem part16' (g i : Nat) (hi : i ≤ 12) : ∀ w : World, (Instr.sliceAt 206 (.pointer (some ⟨g, 0, none⟩)) (some (.int .i64 (i : Int))) (some (.int .i64 ((i : Int) + 4))) none).run Tryz.prog w = .ok (.slice (some ⟨g, i, none⟩) 4 (16 - i)) w := fun w => by
  have := part16 g i (i + 4) w (by omega) (by omega) (by omega)
  rw [show i + 4 - i = 4 by omega] at this
  exact this
theorem rowN.setCells {g n : Nat} : ∀ (vs : List Value) (o : Nat) (w : World), (∀ v ∈ vs, v = Value.int .u8 0) → o + vs.length ≤ n → rowN w g n → rowN (w.setCells g o vs) g n ∧ (∀ B, B ≤ g → ∀ a, Below B a w → Below B a (w.setCells g o vs)) ∧ (∀ g2, g2 ≠ g → (w.setCells g o vs).heap[g2]? = w.heap[g2]?) ∧ (w.setCells g o vs).heap.size = w.heap.size
  | [], o, w, _, _, h => ⟨h, fun _ _ _ h => h, fun _ _ => rfl, rfl⟩
  | v :: vs, o, w, hv, hn, h => by
    have h1 : v = Value.int .u8 0 := hv v List.mem_cons_self
    subst h1
    simp only [List.length_cons] at hn
    have h2 : rowN (w.setCell ⟨g, o, none⟩ (.int .u8 ((0 : Nat) : Int))) g n := h.setN (by omega) 0 (by decide)
    obtain ⟨a1, a2, a3, a4⟩ := rowN.setCells vs (o + 1) _ (fun v hv' => hv v (List.mem_cons_of_mem _ hv')) (by omega) h2
    refine ⟨a1, fun B hB a hb => a2 B hB a (hb.setCell hB _), fun g2 hg => (a3 g2 hg).trans (Below.heap_setCell _ _ _ _ (by simpa using hg)), a4.trans ?_⟩
    simp [World.setCell]
theorem clear16 (ty : TypeId) (g o n : Nat) (c : Nat) (w : World) (hn : 0 < n) (hon : o + n ≤ 16) (h : rowN w g 16) :
    (Builtin.clear_ #[89] ty #[.slice (some ⟨g, o, none⟩) n c]).run Tryz.prog w = .ok (.tuple #[]) (w.setCells g o (List.replicate n (.int .u8 0))) := by
  refine Lib.run_clear_slice (P := Tryz.prog) w 89 5 ty (.int .u8 0) Tryz.underlying89 (fun w => Tryz.zeroValue5 w) rfl rfl g o n c hn (fun j hj => ?_) (fun j hj => h.free _)
  obtain ⟨c, hc⟩ := h.cell (j := o + j) (by omega)
  rw [hc]; rfl
end Go.Proofs.YtfkgkkmcaaefnaaGreatDoor.Wk
