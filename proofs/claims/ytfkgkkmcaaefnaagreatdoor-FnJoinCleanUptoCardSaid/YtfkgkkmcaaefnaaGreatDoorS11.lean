/-
  THE WALK of the reference's Join.
-/
import Derived.Test.YtfkgkkmcaaefnaaGreatDoorS7
set_option linter.unusedSimpArgs false
set_option linter.unusedVariables false
namespace Go.Proofs.YtfkgkkmcaaefnaaGreatDoor.Wk
open Go.RowKit Go.Proofs.YtfkgkkmcaaefnaaGreatDoor.Pu

theorem app_toList (a b : ByteArray) : (a ++ b).data.toList = a.data.toList ++ b.data.toList := by
  rw [ByteArray.data_append, Array.toList_append]

set_option maxHeartbeats 4000000 in
set_option maxRecDepth 100000 in
theorem join_any (r : RefB) (w : World) (hz : r.le 1000000000000) : Calls Tryz.prog 17 #[refV r] w fun e w' => ∃ t : ByteArray, e = .returned (.string t) ∧ Hid (t.data.toList = joinF r.l) ∧ Below w.heap.size w w' := by
  obtain ⟨z1, z2, z3, z4, z5⟩ := hz
  obtain ⟨hs, sc, ha, au, pa, hq, qu, hf, fr⟩ := r
  have z1 : sc.size ≤ 1000000000000 := z1
  have z2 : au.size ≤ 1000000000000 := z2
  have z3 : pa.size ≤ 1000000000000 := z3
  have z4 : qu.size ≤ 1000000000000 := z4
  have z5 : fr.size ≤ 1000000000000 := z5
  have hB := ((Below.refl w.heap.size w).alloc (Nat.le_refl _) (.cells (refCells ⟨hs, sc, ha, au, pa, hq, qu, hf, fr⟩) 25))
  by_cases he : fr.toList = []
  · have he2 : fr.data.toList = [] := by rw [← toList_data]; exact he
    have he3 : fr.toList.isEmpty = true := by rw [he]; rfl
    have HE := Lib.hid he2
    clear he2
    cases hs <;> cases ha <;> cases hq <;> cases hf
    all_goals
      go_enter Tryz.func17, Tryz.ntmps17
      go_wp2
      go_ret
      exact ⟨_, rfl, Lib.hid (by simp [joinF, RefB.l, app_toList, HE.out]), hB⟩
  · have he2 : ¬ fr.data.toList = [] := by rw [← toList_data]; exact he
    have he3 : fr.toList.isEmpty = false := by rw [Bool.eq_false_iff]; simpa using he
    have HE := Lib.hid he2
    clear he2
    cases hs <;> cases ha <;> cases hq <;> cases hf
    all_goals
      go_enter Tryz.func17, Tryz.ntmps17
      go_wp2
      go_ret
      exact ⟨_, rfl, Lib.hid (by simp [joinF, RefB.l, app_toList, HE.out]), hB⟩
end Go.Proofs.YtfkgkkmcaaefnaaGreatDoor.Wk
