/-
  A strings.Builder that is written: what copyCheck, WriteByte and WriteString leave.
-/
import Derived.Test.YtfkgkkmcaaefnaaGreatDoorSh
import Derived.Test.YtfkgkkmcaaefnaaGreatDoorS1
import Derived.Lib.Builder
import Derived.Lib.AppendStr
set_option linter.unusedSimpArgs false
set_option linter.unusedVariables false
namespace Go.Proofs.YtfkgkkmcaaefnaaGreatDoor.Wk
open Go.RowKit Go.Proofs.YtfkgkkmcaaefnaaGreatDoor.Pu

theorem info5 : (Tryz.prog.info? 5).map (fun i => (i.zero, i.size, i.bytes)) = some (some (.int .u8 0), 1, 1) := by kernel_rfl
theorem size91 : (Tryz.prog.info? 91).map (·.size) = some 2 := by kernel_rfl
abbrev selfP (b : Nat) : Value := .pointer (some ⟨b, 0, none⟩)

set_option maxHeartbeats 1000000 in
set_option maxRecDepth 100000 in
theorem copyCheck_used (b : Nat) (w : World) (h0 : w.cell? ⟨b, 0, none⟩ = some (selfP b)) :
    Calls Tryz.prog 95 #[selfP b] w fun e w' => e = .returned (.tuple #[]) ∧ w' = w := by
  obtain ⟨j, hj, _⟩ := Option.map_eq_some_iff.1 size91
  go_enter Tryz.func95, Tryz.ntmps95
  go_wp2
  rw [Lib.run_neq_ptr_same w _ Tryz.underlying88 hj]
  go_wp2
  go_end0
  exact ⟨rfl, rfl⟩

set_option maxHeartbeats 2000000 in
set_option maxRecDepth 100000 in
theorem wbyte (B b : Nat) (bs : List Value) (c : Int) (w : World) (h : Lib.BuilderAt 91 5 B b (selfP b) bs w) (hlen : bs.length + 1 ≤ 140737488355328) (hBw : B ≤ w.heap.size) :
    Calls Tryz.prog 63 #[selfP b, .int .u8 c] w fun e w' => e = .returned .nilIface ∧ Lib.BuilderAt 91 5 B b (selfP b) (bs ++ [.int .u8 c]) w' ∧ Below B w w' := by
  obtain ⟨i0, hi, hz0, hz1, hz2⟩ := info_parts info5
  have hcell := h.cell0
  obtain ⟨hB, v, hbk, hown, hne⟩ := h
  have c1 : w.cell? ⟨b, 1, none⟩ = some v := by rw [Lib.cell_of_heap hbk]; rfl
  have H := Lib.hid hbk
  clear hbk
  go_enter Tryz.func63, Tryz.ntmps63
  go_wp2_with (fail)
  refine (copyCheck_used b _ hcell).mono ?_
  rintro e w1 ⟨rfl, rfl⟩
  go_wp2_with (at_builtin; refine wpList_append_own _ rfl _ _ 89 rfl B 5 i0 (.int .u8 0) 1 1 Tryz.underlying89 hi hz0 hz1 hz2 rfl (by decide) _ _ _ rfl (hown.alloc _) ⟨w1.heap.size, 0, none⟩ 1 1 [.int .u8 c] rfl rfl ?c1 ?c2 ?c3 ?c4 ?c5 ?_)
  case c1 =>
    intro j u hj
    match j, hj with
    | 0, hj => simp at hj; subst hj; simp [Addr.add]
  case c2 => intro u hu; simp at hu; subst hu; rfl
  case c3 => unfold maxLen; omega
  case c4 => omega
  case c5 => simp; omega
  intro v' w2 hown' hgrow _
  have hlt : b < w1.heap.size := (Array.getElem?_eq_some_iff.1 H.out).1
  have hb2 : w2.heap[b]? = some (.cells #[selfP b, v] 91 (0, 0)) := by
    rw [hgrow.block b (by simp; omega) (fun e => hne e.symm), Lib.alloc_old w1 _ b hlt]
    exact H.out
  have d0 : w2.cell? ⟨b, 0, none⟩ = some (selfP b) := by rw [Lib.cell_of_heap hb2]; rfl
  have d1 : w2.cell? ⟨b, 1, none⟩ = some v := by rw [Lib.cell_of_heap hb2]; rfl
  have f1 : w2.frozen? ⟨b, 1, none⟩ = false := Lib.frozen_of_heap hb2 1
  obtain ⟨g, cap, rfl⟩ : ∃ g cap, v' = .slice (some ⟨g, 0, none⟩) (bs.length + 1) cap := by
    rcases hown'.2 with ⟨_, h0⟩ | ⟨g, cap, cur, hv, _⟩
    · omega
    · exact ⟨g, cap, hv⟩
  have HB2 := Lib.hid hb2
  have HG := Lib.hid hgrow
  clear hb2 hgrow H
  go_wp2
  go_ret
  refine ⟨rfl, ?_, ?_⟩
  · exact Lib.BuilderAt.put (T := 91) (e := 5) hB HB2.out (bs' := bs ++ [.int .u8 c]) (by simpa using hown') (by decide)
  · exact (((Below.refl B w1).alloc hBw _).grown HG.out (by simp; omega) (fun k hk => (hown.lt k hk).1)).setCell (p := ⟨b, 1, none⟩) hB _

set_option maxHeartbeats 2000000 in
set_option maxRecDepth 100000 in
theorem wstring (B b : Nat) (bs : List Value) (s : ByteArray) (w : World) (h : Lib.BuilderAt 91 5 B b (selfP b) bs w) (hlen : bs.length + s.size ≤ 140737488355328) (hBw : B ≤ w.heap.size) :
    Calls Tryz.prog 62 #[selfP b, .string s] w fun e w' => e = .returned (.tuple #[.int .i64 s.size, .nilIface]) ∧ Lib.BuilderAt 91 5 B b (selfP b) (bs ++ Lib.strCells s) w' ∧ Below B w w' := by
  obtain ⟨i0, hi, hz0, hz1, hz2⟩ := info_parts info5
  have hcell := h.cell0
  obtain ⟨hB, v, hbk, hown, hne⟩ := h
  have c1 : w.cell? ⟨b, 1, none⟩ = some v := by rw [Lib.cell_of_heap hbk]; rfl
  have H := Lib.hid hbk
  clear hbk
  go_enter Tryz.func62, Tryz.ntmps62
  go_wp2_with (fail)
  refine (copyCheck_used b _ hcell).mono ?_
  rintro e w1 ⟨rfl, rfl⟩
  go_wp2_with (at_builtin; refine Lib.wpList_append_own_string _ rfl _ _ 89 9 rfl B 5 i0 Tryz.underlying89 Tryz.underlying9 hi hz0 hz1 hz2 _ _ _ rfl hown s rfl ?c3 ?c4 ?c5 ?_)
  case c3 => unfold maxLen; omega
  case c4 => omega
  case c5 => omega
  intro v' w2 hown' hgrow _
  have hlt : b < w1.heap.size := (Array.getElem?_eq_some_iff.1 H.out).1
  have hb2 : w2.heap[b]? = some (.cells #[selfP b, v] 91 (0, 0)) := by
    rw [hgrow.block b hlt (fun e => hne e.symm)]
    exact H.out
  have d0 : w2.cell? ⟨b, 0, none⟩ = some (selfP b) := by rw [Lib.cell_of_heap hb2]; rfl
  have d1 : w2.cell? ⟨b, 1, none⟩ = some v := by rw [Lib.cell_of_heap hb2]; rfl
  have f1 : w2.frozen? ⟨b, 1, none⟩ = false := Lib.frozen_of_heap hb2 1
  obtain ⟨ao, n', cap, rfl⟩ : ∃ ao n' cap, v' = .slice ao n' cap := by
    rcases hown'.2 with ⟨hv, _⟩ | ⟨g, cap, cur, hv, _⟩
    · exact ⟨_, _, _, hv⟩
    · exact ⟨_, _, _, hv⟩
  have HB2 := Lib.hid hb2
  have HG := Lib.hid hgrow
  clear hb2 hgrow H
  go_wp2
  go_ret2
  refine ⟨rfl, ?_, ?_⟩
  · exact Lib.BuilderAt.put (T := 91) (e := 5) hB HB2.out (bs' := bs ++ Lib.strCells s) (by simpa [Lib.strCells_length] using hown') (by decide)
  · exact ((Below.refl B w1).grown HG.out (by omega) (fun k hk => (hown.lt k hk).1)).setCell (p := ⟨b, 1, none⟩) hB _
end Go.Proofs.YtfkgkkmcaaefnaaGreatDoor.Wk
