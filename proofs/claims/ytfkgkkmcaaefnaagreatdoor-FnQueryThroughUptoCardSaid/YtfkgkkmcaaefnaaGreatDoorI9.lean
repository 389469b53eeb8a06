/-
  THE WALKS of the user information's functions; zzCount.
-/
import Derived.Test.YtfkgkkmcaaefnaaGreatDoorU1
import Derived.Test.YtfkgkkmcaaefnaaGreatDoorQ9
import Derived.BigQuiet
set_option linter.unusedSimpArgs false
set_option linter.unusedVariables false
namespace Go.Proofs.YtfkgkkmcaaefnaaGreatDoor.Wk
open Go.RowKit Go.Proofs.YtfkgkkmcaaefnaaGreatDoor.Pu

abbrev userObj (un pw : ByteArray) (ps : Bool) : Obj := .cells #[.string un, .string pw, .bool ps] 118 (0, 0)
theorem user_new (un : ByteArray) (w : World) : Calls Tryz.prog 84 #[.string un] w fun e w' => e = .returned (ptr w.heap.size) ∧ w.alloc (userObj un ⟨#[]⟩ false) = w' := by
  go_enter Tryz.func84, Tryz.ntmps84
  go_wp2
  go_ret
  exact ⟨rfl, rfl⟩
theorem userPw_new (un pw : ByteArray) (w : World) : Calls Tryz.prog 83 #[.string un, .string pw] w fun e w' => e = .returned (ptr w.heap.size) ∧ w.alloc (userObj un pw true) = w' := by
  go_enter Tryz.func83, Tryz.ntmps83
  go_wp2
  go_ret
  exact ⟨rfl, rfl⟩
theorem username_nil (w : World) : Calls Tryz.prog 59 #[.pointer none] w fun e w' => e = .returned (.string ⟨#[]⟩) ∧ w = w' := by
  go_enter Tryz.func59, Tryz.ntmps59
  go_wp2
  go_ret
  exact ⟨rfl, rfl⟩
theorem username_any (g : Nat) (un pw : ByteArray) (ps : Bool) (w : World) (h : w.heap[g]? = some (userObj un pw ps)) : Calls Tryz.prog 59 #[ptr g] w fun e w' => e = .returned (.string un) ∧ w = w' := by
  have c0 : w.cell? ⟨g, 0, none⟩ = some (.string un) := blk_cell h 0
  clear h
  go_enter Tryz.func59, Tryz.ntmps59
  go_wp2
  go_ret
  exact ⟨rfl, rfl⟩
theorem password_nil (w : World) : Calls Tryz.prog 60 #[.pointer none] w fun e w' => e = .returned (.tuple #[.string ⟨#[]⟩, .bool false]) ∧ w = w' := by
  go_enter Tryz.func60, Tryz.ntmps60
  go_wp2
  go_ret2
  exact ⟨rfl, rfl⟩
theorem password_any (g : Nat) (un pw : ByteArray) (ps : Bool) (w : World) (h : w.heap[g]? = some (userObj un pw ps)) : Calls Tryz.prog 60 #[ptr g] w fun e w' => ∃ n, e = .returned (.tuple #[.string pw, .bool ps]) ∧ w.drewN n = w' := by
  have c1 : w.cell? ⟨g, 1, none⟩ = some (.string pw) := blk_cell h 1
  have c2 : w.cell? ⟨g, 2, none⟩ = some (.bool ps) := blk_cell h 2
  clear h
  go_enter Tryz.func60, Tryz.ntmps60
  go_wp2
  go_quiet (fail)
  go_wp2
  go_ret2
  exact ⟨_, rfl, rfl⟩
theorem esc_size {m : Nat} {t s : ByteArray} (h : t.data.toList = escF m s.data.toList) : t.size ≤ 3 * s.size := by
  have h1 := escF_len m s.data.toList
  have h2 : hxN m s.data.toList ≤ s.data.toList.length := cnt_le _ _
  rw [← h, size_len, size_len] at h1
  rw [size_len] at h2
  omega
set_option maxHeartbeats 1000000 in
set_option maxRecDepth 100000 in
theorem ustr_any (g : Nat) (un pw : ByteArray) (ps : Bool) (w : World) (hT : Tab w) (h : w.heap[g]? = some (userObj un pw ps)) (h1 : un.size ≤ 40000000000000) (h2 : pw.size ≤ 40000000000000) :
    Calls Tryz.prog 64 #[ptr g] w fun e w' => ∃ t : ByteArray, e = .returned (.string t) ∧ Hid (t.data.toList = escF 16 un.data.toList ++ (if ps = true then 58 :: escF 16 pw.data.toList else [])) ∧ Below w.heap.size w w' := by
  have hlt : g < w.heap.size := (Array.getElem?_eq_some_iff.1 h).1
  have hp := hT.pos
  have c0 : w.cell? ⟨g, 0, none⟩ = some (.string un) := blk_cell h 0
  have H := Lib.hid h
  have HT := Lib.hid hT
  clear h hT
  go_enter Tryz.func64, Tryz.ntmps64
  go_wp2_with (fail)
  refine Calls.mono (escape_any un 16 _ HT.out (by decide) h1) ?_
  rintro e w1 ⟨t, rfl, ht, hb1⟩
  have k1 := blk_below H.out hb1 hlt
  have c1 : w1.cell? ⟨g, 1, none⟩ = some (.string pw) := blk_cell k1 1
  have c2 : w1.cell? ⟨g, 2, none⟩ = some (.bool ps) := blk_cell k1 2
  have HB1 := Lib.hid hb1
  have HT1 := Lib.hid (HT.out.up hb1 hp)
  clear k1 hb1 c0
  cases ps
  · go_wp2
    go_ret
    exact ⟨t, rfl, Lib.hid (by simp [ht.out]), HB1.out⟩
  · go_wp2_with (fail)
    refine Calls.mono (escape_any pw 16 _ HT1.out (by decide) h2) ?_
    rintro e w2 ⟨q, rfl, hq, hb2⟩
    have hB2 := bt HB1.out hb2
    have hz1 := esc_size ht.out
    have hz2 := esc_size hq.out
    have hz3 : ((⟨#[58]⟩ : ByteArray) ++ q).size ≤ 1 + 3 * pw.size := by rw [ByteArray.size_append]; show 1 + q.size ≤ _; omega
    clear c1 c2 hb2
    go_wp2
    go_ret
    refine ⟨_, rfl, Lib.hid ?_, hB2⟩
    simp only [ByteArray.data_append, Array.toList_append, ht.out, hq.out]
    simp

/-- what validUserinfo lets through -/
theorem user_num : ∀ n, n < 256 → (n = 37 ∨ okN [58] n = true) → (65 ≤ n ∧ n ≤ 90) ∨ (97 ≤ n ∧ n ≤ 122) ∨ (48 ≤ n ∧ n ≤ 57) ∨ n = 45 ∨ n = 46 ∨ n = 95 ∨ n = 58 ∨ n = 126 ∨ n = 33 ∨ n = 36 ∨ n = 38 ∨ n = 39 ∨ n = 40 ∨ n = 41 ∨ n = 42 ∨ n = 43 ∨ n = 44 ∨ n = 59 ∨ n = 61 ∨ n = 37 := by
  intro n _ h
  unfold okN unresN alphaN digitN hasN subd at h
  simp only [List.any_cons, List.any_nil, Bool.or_false, Bool.or_eq_true, decide_eq_true_eq, beq_iff_eq, UInt8.reduceToNat] at h
  omega
set_option maxHeartbeats 4000000 in
set_option maxRecDepth 100000 in
theorem vuser_any (s : ByteArray) (w : World) (hs : s.size ≤ 9223372036854770000) (h : charsB [58] true s.data.toList = true) :
    Calls Tryz.prog 111 #[.string s] w fun e w' => e = .returned (.bool true) ∧ Below w.heap.size w w' := by
  have hb0 := Lib.hid (Below.refl w.heap.size w)
  have hall : ∀ k (hk : k < s.size), _ := fun k hk => user_num s[k].toNat s[k].toNat_lt (ch_bytes _ h s[k] (List.mem_of_getElem? (get_opt s k hk)))
  have HA := Lib.hid hall
  clear hall h
  go_enter Tryz.func111, Tryz.ntmps111
  go_upto_region 2 with (fail)
  go_loopg [4] s.size (fun g x4 wr => ∃ k : Nat, k ≤ s.size ∧ g = s.size - k ∧ w.iter s k = wr)
  case atStart => exact ⟨0, by omega, by omega, rfl⟩
  case round =>
    obtain ⟨k, hk, rfl, rfl⟩ := hrel
    by_cases hlt : k < s.size
    · have HR := Lib.hid (HA.out k hlt)
      have hnx := fun ty => run_next_ascii (P := Tryz.prog) w s k ty hlt (by have := HR.out; omega)
      go_wp2
      all_goals first
        | (go_roundg (s.size - (k + 1))
           case measure => omega
           case rel => exact ⟨k + 1, by omega, rfl, rfl⟩)
        | (exfalso
           have h2 := HR.out
           simp only [beq_iff_eq, beq_eq_false_iff_ne, ne_eq] at *
           omega)
    · have hnx := fun ty => run_next_end (P := Tryz.prog) w s k ty hlt
      go_wp2
      go_ret
      exact ⟨rfl, hb0.out.alloc (Nat.le_refl _) _⟩

set_option maxHeartbeats 1000000 in
set_option maxRecDepth 100000 in
theorem count_any (s : ByteArray) (c : UInt8) (w : World) (hs : s.size ≤ 9223372036854770000) :
    Calls Tryz.prog 92 #[.string s, .string ⟨#[c]⟩] w fun e w' => e = .returned (.int .i64 (s.data.toList.count c : Nat)) ∧ w = w' := by
  have hcle : ∀ k, (s.data.toList.take k).count c ≤ k := fun k => Nat.le_trans List.count_le_length (by rw [List.length_take]; omega)
  have HC := Lib.hid hcle
  obtain ⟨cnt, hcnt⟩ : ∃ cnt, cnt = s.data.toList.count c := ⟨_, rfl⟩
  rw [← hcnt]
  have HCN := Lib.hid hcnt
  clear hcle hcnt
  go_enter Tryz.func92, Tryz.ntmps92
  go_wp2
  go_loop [5, 6] (fun n i => ∃ k q : Nat, k ≤ s.size ∧ i = .int .i64 k ∧ n = .int .i64 q ∧ Hid (q = (s.data.toList.take k).count c)) (fun _ i => s.size - (intOf i).toNat)
  case atStart => exact ⟨0, 0, by omega, rfl, rfl, Lib.hid rfl⟩
  case round =>
    obtain ⟨k, q, hk, rfl, rfl, hq⟩ := hrel
    by_cases hlt : k < s.size
    · have hx := get_opt s k hlt
      have hsub : (s.extract k (k + 1)).data.toList = [s[k]] := by
        rw [ext_toList]
        have := List.drop_eq_getElem_cons (l := s.data.toList.take (k + 1)) (i := k) (by rw [List.length_take, size_len]; omega)
        rw [this, List.drop_eq_nil_of_le (by rw [List.length_take]; omega)]
        simp
        rfl
      have hstep : (s.data.toList.take (k + 1)).count c = (s.data.toList.take k).count c + (if s[k] = c then 1 else 0) := by
        rw [List.take_succ_eq_append_getElem (show k < s.data.toList.length from hlt), List.count_append, List.count_singleton]
        congr 1
        simp only [beq_iff_eq]
        rfl
      have hqk := HC.out k
      rw [← hq.out] at hqk hstep
      have hw1 : ((k : Int) + 1).toNat = k + 1 := by omega
      by_cases hc : s[k] = c
      · have e1 : ((s.extract k (k + 1)).toList == [c]) = true := by rw [toList_data, hsub, hc]; simp
        rw [if_pos hc] at hstep
        have HS := Lib.hid hstep
        clear hstep hsub hx hc
        go_wp2
        exact ⟨⟨k + 1, q + 1, by omega, by go_num, by go_num, Lib.hid HS.out.symm⟩, by simp [intOf]; omega⟩
      · have e1 : ((s.extract k (k + 1)).toList == [c]) = false := by rw [toList_data, hsub, Bool.eq_false_iff]; simpa using hc
        rw [if_neg hc] at hstep
        have HS := Lib.hid hstep
        clear hstep hsub hx hc
        go_wp2
        exact ⟨⟨k + 1, q, by omega, by go_num, rfl, Lib.hid HS.out.symm⟩, by simp [intOf]; omega⟩
    · have hke : k = s.size := by omega
      have hq2 := hq.out
      rw [hke, ← size_len, List.take_length, ← HCN.out] at hq2
      subst hq2
      clear hq
      go_wp2
      go_ret
      exact ⟨rfl, rfl⟩
end Go.Proofs.YtfkgkkmcaaefnaaGreatDoor.Wk
