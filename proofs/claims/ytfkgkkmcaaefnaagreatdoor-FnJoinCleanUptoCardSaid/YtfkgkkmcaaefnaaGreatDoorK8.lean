/-
  FnJoinClean: for every string and every list of elements that are together of bulk at most 1048576 the law answers true. Conditions: the row's own (that bulk; the listed package-level variables hold what the program's text lays, which the card ties).
-/
import Derived.Test.YtfkgkkmcaaefnaaGreatDoorCards
import Derived.Test.YtfkgkkmcaaefnaaGreatDoorTie
import Derived.Test.YtfkgkkmcaaefnaaGreatDoorJ0
import Derived.Test.YtfkgkkmcaaefnaaGreatDoorK7
import Derived.SevenTiedAt
import Derived.Stop.Joined
import Derived.ChangeMaps5
import Derived.ProofKit
import Derived.SliceStrings
import Derived.Deep.DeepHandedRow
set_option linter.unusedSimpArgs false
set_option linter.unusedVariables false
namespace Go.Proofs.YtfkgkkmcaaefnaaGreatDoor.Wk
open Go.RowKit Go.Proofs.YtfkgkkmcaaefnaaGreatDoor.Pu
set_option maxHeartbeats 8000000 in
set_option maxRecDepth 100000 in
theorem FnJoinClean_nil {N : Nat} {p4 p6 : Addr} (x : ByteArray) (ao : Option Addr) (cp : Nat) (w : World) (hT : Tab w) (h : Net N w p4 p6) (hN : N ≤ w.heap.size) (hsx : x.size ≤ 1048576) :
    Calls Tryz.prog 7 #[.string x, .slice ao 0 cp] w fun e w' => e = .returned (.bool true) ∧ Below w.heap.size w w' := by
  have HT := Lib.hid hT
  have HN := Lib.hid h
  have HFI := Lib.hid (fits4_nil ao cp w)
  have hpos := hT.pos
  clear hT h
  have hx2 : ¬ (x.size : Int) > 2147483647 := by omega
  go_enter Tryz.func7, Tryz.ntmps7
  go_wp2_with (fail)
  refine Calls.mono HFI.out ?_
  rintro e w1 ⟨rfl, rfl⟩
  clear HFI
  go_wp2_with (fail)
  refine Calls.mono (split_any x w (by omega)) ?_
  rintro e w1 ⟨r, rfl, hr, hb1⟩
  have HB1 := Lib.hid (hb1.alloc hb1.size (.cells (refCells r) 25))
  have KR := Lib.hid (blk_new w1 (.cells (refCells r) 25))
  have ZR := Lib.hid (le_small hr.out hsx)
  clear hb1
  go_upto_region 4 with (fail)
  generalize w1.alloc (.cells (refCells r) 25) = W at *
  generalize w1.heap.size = gr at *
  obtain ⟨rhs, rsc, rha, rau, rpa, rhq, rqu, rhf, rfr⟩ := r
  have cr : ∀ j, W.cell? ⟨gr, j, none⟩ = (refCells ⟨rhs, rsc, rha, rau, rpa, rhq, rqu, rhf, rfr⟩)[j]? := blk_cell KR.out
  go_cut [40] from 23 to 39 (fun v40 wx => v40 = .bool true ∧ Hid (Below w.heap.size w wx))
  case first =>
    go_wp2_with (fail)
    refine Calls.mono (valid_any ⟨rhs, rsc, rha, rau, rpa, rhq, rqu, rhf, rfr⟩ _ (le_upR ZR.out (by decide))) ?_
    rintro e wx ⟨rfl, hbx⟩
    have W1 := Lib.hid (HB1.out.trans (hbx.mono HB1.out.size))
    have KR1 := Lib.hid (blk_below KR.out hbx (Array.getElem?_eq_some_iff.1 KR.out).1)
    clear hbx cr HB1 KR
    have cr : ∀ j, wx.cell? ⟨gr, j, none⟩ = (refCells ⟨rhs, rsc, rha, rau, rpa, rhq, rqu, rhf, rfr⟩)[j]? := blk_cell KR1.out
    cases hq : validF (RefB.l ⟨rhs, rsc, rha, rau, rpa, rhq, rqu, rhf, rfr⟩)
    · go_wp2
      go_meet
      case rel => exact ⟨rfl, W1⟩
    clear hq
    cases rhs
    case false =>
      go_wp2
      go_meet
      case rel => exact ⟨rfl, W1⟩
    go_wp2_with (fail)
    refine Calls.mono (hasHost_any ⟨true, rsc, rha, rau, rpa, rhq, rqu, rhf, rfr⟩ _ (le_upR ZR.out (by decide))) ?_
    rintro e wy ⟨rfl, hbx⟩
    have W2 := Lib.hid (W1.out.trans (hbx.mono W1.out.size))
    clear hbx W1 KR1 cr
    cases hq : (authF rau.data.toList).ho.isEmpty
    all_goals
      clear hq
      go_wp2
      go_meet
      case rel => exact ⟨rfl, W2⟩
  case rest =>
    obtain ⟨rfl, W3⟩ := hcut
    clear cr KR HB1
    go_wp2_with (fail)
    refine Calls.mono (parses_any _ (HT.out.up W3.out hpos) (HN.out.up (W3.out.mono hN)) (Nat.le_trans hN W3.out.size)) ?_
    rintro e wx ⟨rfl, hbx⟩
    have HF := Lib.hid (W3.out.trans (hbx.mono W3.out.size))
    clear hbx
    go_wp2
    go_ret
    exact ⟨rfl, HF.out⟩
end Go.Proofs.YtfkgkkmcaaefnaaGreatDoor.Wk
namespace Go.Proofs.YtfkgkkmcaaefnaaGreatDoor.FnJoinClean
open Go.ChangeShapes Go.WideShapes Go.ChangeAt Go.RowKit Go.ChangeMaps
open Go.Proofs.YtfkgkkmcaaefnaaGreatDoor.Wk Go.Proofs.YtfkgkkmcaaefnaaGreatDoor.Pu

theorem bulk_strs {H : Type} : ∀ xs : List ByteArray, Rows.uptoBulkAll (H := H) (strs xs) = Lib.Pa.lens (xs.map (·.data.toList)) + xs.length
  | [] => rfl
  | x :: r => by
    have ih := bulk_strs (H := H) r
    unfold strs Lib.Pa.lens at *
    rw [List.map_cons, Rows.uptoBulkAll, ih, List.map_cons, List.map_cons, List.sum_cons, List.length_cons, Rows.uptoBulk]
    omega
theorem laidOut : laidOutB Tryz.prog = true := by kernel_rfl
theorem cells39 : Tryz.prog.cellsOf 9 = 1 := by kernel_rfl
set_option maxRecDepth 100000 in
theorem contract (H : Type) (enc : TypeId × Value → H) (W : World) (base : Nat) (args : Array Value) (ds gs : List (DataW H)) (before : List MemPlace)
    (hval : ∀ (j : Nat) t v, Tryz.f7.params[j]? = some t → args[j]? = some v → Value.okWide Tryz.prog W .any base t v)
    (hW : DataW.Whole enc Tryz.prog Tryz.f7.params.toList Rows.fnJoinCleanSpec.vars false W args.toList ds gs before) (hk : Rows.uptoSmall H (ds ++ gs) = true) (hL : laidMetH Tryz.prog Rows.fnJoinCleanUptoRow.laid W) :
    Calls Tryz.prog 7 args W fun e W' => ∃ v, e = .returned v ∧ Rows.fnJoinCleanSpec.post enc Tryz.prog Tryz.f7 false true false false W args v W' := by
  have hW' := hW
  obtain ⟨p, q, hA0, hV, rfl, hfz, hnd⟩ := hW
  have hA : DataW.TrodAll enc Tryz.prog W 0 (fun _ => true) true Tryz.f7.params.toList args.toList ds p := hA0
  rw [Tryz.params7] at hA hval
  obtain ⟨v0, vs0, d0, ds0, p0, q0, hargs, rfl, rfl, h0, r0⟩ := trodAll_cons hA
  obtain ⟨v1, vs1, d1, ds1, p1, q1, rfl, rfl, rfl, h1, r1⟩ := trodAll_cons r0
  obtain ⟨rfl, rfl, rfl⟩ := trodAll_nil r1
  obtain rfl : args = #[v0, v1] := by cases args; simp_all
  obtain ⟨rfl, rfl⟩ := trodVars_none hV
  obtain ⟨x, rfl, rfl, rfl, hzx⟩ := open_string Tryz.underlying9 (hval 0 9 v0 rfl rfl) h0
  have h1' := h1
  obtain ⟨ao, len, cap, rfl⟩ := okWide_slice Tryz.underlying39 (hval 1 39 v1 rfl rfl)
  obtain ⟨fuel, hf⟩ := h1
  have hlt : ∀ x ∈ p1, x.block < W.heap.size := fun y hy => hW'.lt y (by simpa using hy)
  obtain ⟨hT, a4, a6, hN⟩ := laid_net hL
  have hbk : Rows.uptoBulkAll [DataW.lit (H := H) (.string x.data.toList), d1] ≤ 1048576 := of_decide_eq_true hk
  have fin : ∀ {e : Ending} {W' : World}, e = .returned (.bool true) ∧ Below W.heap.size W W' → ∃ v, e = .returned v ∧ Rows.fnJoinCleanSpec.post enc Tryz.prog Tryz.f7 false true false false W #[.string x, .slice ao len cap] v W' := by
    rintro e W' ⟨rfl, hB⟩
    exact ⟨_, rfl, [DataW.lit (.string x.data.toList), d1], [], _, [], _, [], hW', trodAll_mk1 (shut_bool Tryz.underlying4 _),
      trodAll_mk2 (shut_string Tryz.underlying9 hzx) (Below.trod laidOut (by kernel_rfl) (of_decide_eq_true (by kernel_rfl)) h1' hB hlt), rfl, hB.frame _, fun h => by cases h⟩
  have hnil : len = 0 → Calls Tryz.prog 7 #[.string x, .slice ao len cap] W fun e W' => ∃ v, e = .returned v ∧ Rows.fnJoinCleanSpec.post enc Tryz.prog Tryz.f7 false true false false W #[.string x, .slice ao len cap] v W' := by
    intro h0
    subst h0
    refine (FnJoinClean_nil x ao cap W hT hN (Nat.le_refl _) ?_).mono fun e W' h => fin h
    rw [Rows.uptoBulkAll, Rows.uptoBulk, size_len] at hbk
    omega
  rcases open_strings Tryz.underlying39 Tryz.underlying9 cells39 hf with ⟨h, _⟩ | ⟨a, len', cap', ss, h, _, hlc, hcm, hsl, hx, hcell, hsz⟩
  · simp only [Value.cells, List.cons.injEq, Value.slice.injEq, and_true] at h
    exact hnil h.2.1
  · simp only [Value.cells, List.cons.injEq, Value.slice.injEq, and_true] at h
    obtain ⟨rfl, rfl, rfl⟩ := h
    by_cases h0 : len = 0
    · exact hnil h0
    · have hl : len ≤ ss.length := by rw [hsl, if_pos rfl]; exact hlc
      have hxl : (ss.take len).length = len := by rw [List.length_take]; omega
      obtain ⟨bk, o, sp⟩ := a
      obtain rfl : sp = none := by
        have := World.cell?_spot (hcell 0 (by omega))
        rwa [show (⟨bk, o, sp⟩ : Addr).add 0 = ⟨bk, o, sp⟩ from rfl] at this
      have hd : d1 = DataW.slice (strs (ss.take len)) (strs (ss.drop len)) := (Prod.mk.inj hx).1
      have hb : x.size ≤ 1048576 ∧ Lib.Pa.lens ((ss.take len).map (·.data.toList)) ≤ 1048576 ∧ len ≤ 1048576 := by
        rw [hd, Rows.uptoBulkAll, Rows.uptoBulk, Rows.uptoBulkAll, Rows.uptoBulk, Rows.uptoBulkAll, bulk_strs, bulk_strs, size_len, hxl] at hbk
        omega
      have hcs : ∀ (j : Nat) y, (ss.take len)[j]? = some y → W.cell? ⟨bk, o + j, none⟩ = some (.string y) := by
        intro j y hj
        rw [List.getElem?_take] at hj
        split at hj
        · rename_i hjl
          have := hcell j (by omega)
          rw [addr_add, List.getD_eq_getElem?_getD, hj] at this
          exact this
        · cases hj
      have hbk2 : bk < W.heap.size := by
        have := World.block_lt_of_cell? _ _ (hcell 0 (by omega))
        exact this
      have hfin := FnJoinClean_any x bk o cap (ss.take len) W hT hN (Nat.le_refl _) hb.1 hcs hbk2 (by intro e; rw [e] at hxl; simp at hxl; omega) (by rw [hxl]; exact hb.2.2) hb.2.1
      rw [hxl] at hfin
      exact hfin.mono fun e W' h => fin h

set_option maxRecDepth 100000 in
theorem lifted (os : Os) (started : os.Started) (H : Type) (enc : TypeId × Value → H) (F : Stop.Interp) :
    ReturnsInHanded {} Tryz.checked os 7 .any ((Rows.OpenSpec.upto Rows.fnJoinCleanSpec).preRow enc Tryz.prog Tryz.f7 Rows.fnJoinCleanUptoRow.domain false Rows.fnJoinCleanUptoRow.laid) (((Rows.OpenSpec.upto Rows.fnJoinCleanSpec).at F).post enc Tryz.prog Tryz.f7 false true false false) := by
  have hx : ∃ places, DataW.whole enc Tryz.prog ((laidW os).forCall (fun _ _ => 0) ⟨#[], #[.string ⟨#[]⟩, .slice none 0 0], []⟩).memory Tryz.f7.params.toList Rows.fnJoinCleanSpec.vars false #[Value.string ⟨#[]⟩, Value.slice none 0 0].toList 8 = some ([.lit (.string []), .nil], [], places) := ⟨[], by kernel_rfl⟩
  obtain ⟨places, hx⟩ := hx
  refine returnsInHanded_of_row (C := Tryz.checked) (s := Rows.OpenSpec.upto Rows.fnJoinCleanSpec) own started (by kernel_rfl) Tryz.func7
    ⟨laidW os, fun _ _ => 0, ⟨#[], #[.string ⟨#[]⟩, .slice none 0 0], []⟩, World.laidAll_os _ _ _, World.shaped_of_ZipB (by kernel_rfl) (by kernel_rfl), rfl, (Input.okWide_of_okWideB (by kernel_rfl)).2,
      OpenSpec.preRow_of_cond 8 hx (by kernel_rfl) (fun k hk => by cases hk; kernel_rfl) (by kernel_rfl) (laidW_met os _), by
        simp only [Assume.holds]
        exact ⟨by simp, by simp, by simp, by simp, by simp⟩⟩ ?_
  intro W base args ds gs before hval hW _ hcond _ hL _ _
  exact contract H enc W base args ds gs before hval hW (hcond _ rfl) hL

theorem said : Rows.FnJoinCleanUptoSaid :=
  OpenClaim.holds_of_cond 7 Tryz.f7 rfl rfl rfl rfl rfl rfl rfl ⟨rfl, rfl, rfl, rfl, rfl⟩ rfl rfl rfl rfl rfl (by kernel_rfl) Tryz.func7 (by kernel_rfl)
    (of_decide_eq_true (by kernel_rfl)) (by unfold Func.isWrapper; first | (rw [if_pos (by decide +kernel)]; kernel_rfl) | (rw [if_neg (by decide +kernel)]; exact ⟨rfl, rfl⟩))
    (fun os started H enc _ F => by rw [OpenClaim.pre_eq_preRow]; exact lifted os started H enc F)

theorem plain (f : FuncId) (fn : Func) (hf : Tryz.pinned.checked.prog.funcNamed "signwriter/laws.FnJoinClean" = some f) (hfn : Tryz.pinned.checked.prog.funcs[f]? = some fn) :
    false = Tryz.pinned.checked.prog.looks [] ∧ ∀ (j : Nat) t, fn.params[j]? = some t → Tryz.pinned.checked.prog.wantsStandIn t = false := by
  obtain rfl : f = 7 := Option.some.inj ((show Tryz.prog.funcNamed "signwriter/laws.FnJoinClean" = some 7 by kernel_rfl).symm.trans hf) |>.symm
  obtain rfl : fn = Tryz.f7 := (Option.some.inj (Tryz.func7.symm.trans hfn)).symm
  refine ⟨by kernel_rfl, fun j t ht => ?_⟩
  rw [Tryz.params7] at ht
  have hm : t ∈ [9, 39] := by simpa using Array.mem_of_getElem? ht
  have hall : ([9, 39].all fun u => !Tryz.prog.wantsStandIn u) = true := by kernel_rfl
  exact (show Tryz.prog.wantsStandIn t = false by simpa using List.all_eq_true.1 hall t hm)

/-- the card -/
theorem card : Rows.FnJoinCleanUptoCardSaid :=
  Claim7.holds_tied_plain_at .later [] _ _ _ _ said (fun _ h => by cases h) (by kernel_rfl) (fun _ h => by cases h) fnJoinCleanUpto_row_tie rfl ⟨rfl, rfl⟩ (by kernel_rfl) rfl plain (by kernel_rfl)
#print axioms card
end Go.Proofs.YtfkgkkmcaaefnaaGreatDoor.FnJoinClean
