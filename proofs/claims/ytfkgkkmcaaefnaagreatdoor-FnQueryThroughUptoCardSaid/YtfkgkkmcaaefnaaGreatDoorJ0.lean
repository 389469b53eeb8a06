/-
  WHAT THE ROW's LIST GIVES: the package's table, and netip's variables.
-/
import Derived.Test.YtfkgkkmcaaefnaaGreatDoorRows
import Derived.Test.YtfkgkkmcaaefnaaGreatDoorI2
import Derived.ProofKit
import Derived.OpenShut
import Derived.LaidMore
import Derived.Lay
import Derived.Lib.LaidTab
namespace Go.Proofs.YtfkgkkmcaaefnaaGreatDoor.Wk
open Go.RowKit Go.Proofs.YtfkgkkmcaaefnaaGreatDoor.Pu Go.ChangeShapes Go.WideShapes Go.ChangeAt

abbrev laidL : List (String × DataW Unit) := Rows.fnResolveRow.laid
theorem gTable : Tryz.prog.globalNamed "signwriter/pub/neturl.table" = some 0 := by kernel_rfl
theorem gZ4 : Tryz.prog.globalNamed "net/netip.z4" = some 3 := by kernel_rfl
theorem gZ6 : Tryz.prog.globalNamed "net/netip.z6noz" = some 6 := by kernel_rfl
theorem gZ0 : Tryz.prog.globalNamed "net/netip.z0" = some 7 := by kernel_rfl
theorem tTable : (Tryz.prog.globals[0]?).map (·.type) = some 141 := by kernel_rfl
theorem tZ4 : (Tryz.prog.globals[3]?).map (·.type) = some 166 := by kernel_rfl
theorem tZ6 : (Tryz.prog.globals[6]?).map (·.type) = some 166 := by kernel_rfl
theorem tZ0 : (Tryz.prog.globals[7]?).map (·.type) = some 166 := by kernel_rfl
theorem cells166 : Tryz.prog.cellsOf 166 = 1 := by kernel_rfl
theorem cells164 : Tryz.prog.cellsOf 164 = 1 := by kernel_rfl
theorem cells216 : Tryz.prog.cellsOf 216 = 2 := by kernel_rfl
theorem cells141 : Tryz.prog.cellsOf 141 = 256 := by kernel_rfl
theorem cells101 : Tryz.prog.cellsOf 101 = 1 := by kernel_rfl

/-- a handle that reads as a pointer -/
theorem handle_ptr {W : World} {fuel : Nat} {cs : List Value} {d : DataW Unit} {p : List MemPlace} (h : DataW.trod (fun _ => ()) Tryz.prog W 0 (fun _ => true) false fuel 166 cs = some (.agg [.ptr d], p)) :
    ∃ a, cs = [.pointer (some a)] ∧ MemPlace.cell a.block a.off ∈ p := by
  obtain ⟨xs, n, _, ex, hl, hxl, hf⟩ := DataW.trod_struct Tryz.underlying166 h
  have h1 : DataW.trod (fun _ => ()) Tryz.prog W 0 (fun _ => true) false n 164 ((cs.drop 0).take (Tryz.prog.cellsOf 164)) = xs[0]? := hf 0 _ rfl
  rw [cells164, List.drop_zero] at h1
  have hcl : cs.length = 1 := by rw [hl, cells166]
  obtain ⟨c, rfl⟩ := List.length_eq_one_iff.1 hcl
  obtain ⟨x, rfl⟩ := List.length_eq_one_iff.1 (show xs.length = 1 from hxl)
  simp only [List.take_succ_cons, List.take_zero, List.getElem?_cons_zero] at h1
  simp only [List.map_cons, List.map_nil, List.flatMap_cons, List.flatMap_nil, List.append_nil, Prod.mk.injEq, DataW.agg.injEq, List.cons.injEq, and_true] at ex
  rcases DataW.trod_pointer Tryz.underlying164 h1 with ⟨_, e⟩ | ⟨a, cs', y, m, _, e1, e2, _, _⟩
  · rw [e] at ex; exact absurd ex.1 (by simp)
  · refine ⟨a, e1, ?_⟩
    rw [ex.2, e2]
    simp only [MemPlace.row, cells216]
    simp
theorem handle_nil {W : World} {fuel : Nat} {cs : List Value} {p : List MemPlace} (h : DataW.trod (fun _ => ()) Tryz.prog W 0 (fun _ => true) false fuel 166 cs = some (.agg [.nil], p)) : cs = [.pointer none] := by
  obtain ⟨xs, n, _, ex, hl, hxl, hf⟩ := DataW.trod_struct Tryz.underlying166 h
  have h1 : DataW.trod (fun _ => ()) Tryz.prog W 0 (fun _ => true) false n 164 ((cs.drop 0).take (Tryz.prog.cellsOf 164)) = xs[0]? := hf 0 _ rfl
  rw [cells164, List.drop_zero] at h1
  have hcl : cs.length = 1 := by rw [hl, cells166]
  obtain ⟨c, rfl⟩ := List.length_eq_one_iff.1 hcl
  obtain ⟨x, rfl⟩ := List.length_eq_one_iff.1 (show xs.length = 1 from hxl)
  simp only [List.take_succ_cons, List.take_zero, List.getElem?_cons_zero] at h1
  simp only [List.map_cons, List.map_nil, List.flatMap_cons, List.flatMap_nil, List.append_nil, Prod.mk.injEq, DataW.agg.injEq, List.cons.injEq, and_true] at ex
  rcases DataW.trod_pointer Tryz.underlying164 h1 with ⟨e, _⟩ | ⟨a, cs', y, m, _, e1, e2, _, _⟩
  · exact e
  · rw [e2] at ex; exact absurd ex.1 (by simp)
theorem tabData_eq : (Rows.laid_signwriter_pub_neturl_table : DataW Unit) = Lib.tabData .u8 (tabL.map fun n : Nat => (n : Int)) := by kernel_rfl

/-- what the walks ask of a world -/
theorem laid_gives {W : World} (h : laidMetH Tryz.prog laidL W) :
    Tab W ∧ ∃ p4 p6 : Addr, W.cell? ⟨3, 0, none⟩ = some (.pointer (some p4)) ∧ W.cell? ⟨6, 0, none⟩ = some (.pointer (some p6)) ∧ W.cell? ⟨7, 0, none⟩ = some (.pointer none) ∧ p6 ≠ p4 ∧
      (∃ c t, W.heap[p4.block]? = some (.cells c t (0, 0))) ∧ (∃ c t, W.heap[p6.block]? = some (.cells c t (0, 0))) := by
  rw [MakeChecks.laidMetH_plain _ _ _ (by kernel_rfl)] at h
  obtain ⟨ps, hv, hnd, hrow⟩ := h
  obtain ⟨_, _, cs1, _, pa, q1, _, _, _, _, hv, e1⟩ := hv
  obtain ⟨g4, t4, cs4, _, p4, q4, hg4, ht4, hc4, hd4, hv, e4⟩ := hv
  obtain ⟨g6, t6, cs6, _, p6, q6, hg6, ht6, hc6, hd6, hv, e6⟩ := hv
  obtain ⟨gt, tt, cst, _, pt, qt, hgt, htt, hct, hdt, hv, et⟩ := hv
  obtain ⟨g0, t0, cs0, _, p0, q0, hg0, ht0, hc0, hd0, hv, e0⟩ := hv
  obtain rfl := Option.some.inj (gZ4.symm.trans hg4)
  obtain rfl := Option.some.inj (tZ4.symm.trans ht4)
  obtain rfl := Option.some.inj (gZ6.symm.trans hg6)
  obtain rfl := Option.some.inj (tZ6.symm.trans ht6)
  obtain rfl := Option.some.inj (gTable.symm.trans hgt)
  obtain rfl := Option.some.inj (tTable.symm.trans htt)
  obtain rfl := Option.some.inj (gZ0.symm.trans hg0)
  obtain rfl := Option.some.inj (tZ0.symm.trans ht0)
  obtain ⟨a4, ha4, hm4⟩ := handle_ptr hd4
  obtain ⟨a6, ha6, hm6⟩ := handle_ptr hd6
  have ha0 := handle_nil hd0
  have hin4 : MemPlace.cell a4.block a4.off ∈ ps := by
    rw [e1, e4]; simp [hm4]
  have hin6 : MemPlace.cell a6.block a6.off ∈ ps := by
    rw [e1, e4, e6]; simp [hm6]
  refine ⟨fun i hi => ?_, a4, a6, ?_, ?_, ?_, ?_, (hrow _ _ hin4).1, (hrow _ _ hin6).1⟩
  · rw [World.var?_cell gTable hct i]
    rw [tabData_eq] at hdt
    have hcells := Lib.cells_of_tab Tryz.underlying141 Tryz.underlying101 cells101 cells141 hdt
    rw [← Array.getElem?_toList, hcells, List.getElem?_map, List.getElem?_map]
    have hlen : tabL.length = 256 := by decide +kernel
    unfold tab
    rw [List.getD_eq_getElem?_getD, List.getElem?_eq_getElem (by omega)]
    rfl
  · rw [World.var?_cell gZ4 hc4 0, ← Array.getElem?_toList, ha4]; rfl
  · rw [World.var?_cell gZ6 hc6 0, ← Array.getElem?_toList, ha6]; rfl
  · rw [World.var?_cell gZ0 hc0 0, ← Array.getElem?_toList, ha0]; rfl
  · rintro rfl
    rw [e1, e4, e6] at hnd
    have h1 := (List.nodup_append.1 hnd).2.1
    have h2 := (List.nodup_append.1 h1).2.2
    exact h2 (.cell a6.block a6.off) (by simp [hm4]) (.cell a6.block a6.off) (by simp [hm6]) rfl
theorem laid_net {W : World} (h : laidMetH Tryz.prog laidL W) : Tab W ∧ ∃ p4 p6 : Addr, Net W.heap.size W p4 p6 := by
  obtain ⟨hT, p4, p6, h1, h2, h3, h4, h5, h6⟩ := laid_gives h
  obtain ⟨c4, t4, e4⟩ := h5
  obtain ⟨c6, t6, e6⟩ := h6
  have h7 := World.block_lt_of_cell? _ _ h3
  exact ⟨hT, p4, p6, h1, h2, h3, h4, ⟨c4, t4, e4⟩, ⟨c6, t6, e6⟩, (Array.getElem?_eq_some_iff.1 e4).1, (Array.getElem?_eq_some_iff.1 e6).1, h7⟩

/-- the world of the witness -/
noncomputable abbrev laidW (os : Os) : World := World.laidAll Tryz.prog os laidL
theorem laidW_met (os : Os) (args : Array Value) : laidMetH Tryz.prog laidL ((laidW os).forCall (fun _ _ => 0) ⟨#[], args, []⟩).memory := by
  rw [MakeChecks.laidMetH_plain _ _ _ (by kernel_rfl)]
  exact laidMet_laidAll _ (by kernel_rfl) (by kernel_rfl)
theorem own : ownKnob Tryz.prog.godebug = none := by kernel_rfl
end Go.Proofs.YtfkgkkmcaaefnaaGreatDoor.Wk
