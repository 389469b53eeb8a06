/-
  THE WALKS of the reference's lower, Lower, Join.
-/
import Derived.Test.YtfkgkkmcaaefnaaGreatDoorS7
set_option linter.unusedSimpArgs false
set_option linter.unusedVariables false
namespace Go.Proofs.YtfkgkkmcaaefnaaGreatDoor.Wk
open Go.RowKit Go.Proofs.YtfkgkkmcaaefnaaGreatDoor.Pu

/-- a block whose first cells are these bytes -/
def holdsB (w : World) (g m : Nat) (l : L) : Prop := ∃ C : Array Value, w.heap[g]? = some (.cells C 5 (m, m + 1)) ∧ C.size = m ∧ l.length ≤ m ∧ ∀ (j : Nat) (c : UInt8), l[j]? = some c → C[j]? = some (Value.int .u8 (c.toNat : Int))
theorem holdsB.cell {w : World} {g m : Nat} {l : L} (h : holdsB w g m l) {j : Nat} {c : UInt8} (hj : l[j]? = some c) : w.cell? ⟨g, j, none⟩ = some (.int .u8 (c.toNat : Int)) := by
  obtain ⟨C, h1, h2, h3, h4⟩ := h
  rw [blk_cell h1, h4 j c hj]
theorem holdsB.free {w : World} {g m : Nat} {l : L} (h : holdsB w g m l) {j : Nat} (hj : j < l.length) : w.frozen? ⟨g, j, none⟩ = false := by
  obtain ⟨C, h1, h2, h3, h4⟩ := h
  simp [World.frozen?, h1]; omega
theorem holdsB.set {w : World} {g m : Nat} {l : L} (h : holdsB w g m l) {j : Nat} (hj : j < l.length) (c : UInt8) : holdsB (w.setCell ⟨g, j, none⟩ (.int .u8 (c.toNat : Int))) g m (l.set j c) := by
  obtain ⟨C, h1, h2, h3, h4⟩ := h
  refine ⟨_, blk_set h1 j _, by simpa using h2, by simpa using h3, ?_⟩
  intro i d hi
  by_cases e : j = i
  · subst e
    have : d = c := by rw [List.getElem?_set_self hj] at hi; exact (Option.some.inj hi).symm
    subst this
    rw [Array.getElem?_setIfInBounds_self_of_lt (by omega)]
  · rw [List.getElem?_set_ne e] at hi
    rw [Array.getElem?_setIfInBounds_ne e]
    exact h4 i d hi
theorem holdsB.far {w : World} {g m : Nat} {l : L} (h : holdsB w g m l) {B : Nat} {w' : World} (hb : Below B w w') (hg : g < B) : holdsB w' g m l := by
  obtain ⟨C, h1, h2, h3, h4⟩ := h
  exact ⟨C, blk_below h1 hb hg, h2, h3, h4⟩
/-- what '[]byte(s)' lays -/
theorem holdsB_new (w : World) (s : ByteArray) (cap : Nat) : holdsB (w.alloc (.cells (bytesRow s cap) 5 ((bytesRow s cap).size, (bytesRow s cap).size + 1))) w.heap.size (bytesRow s cap).size s.data.toList := by
  refine ⟨_, blk_new _ _, rfl, ?_, ?_⟩
  · unfold bytesRow
    rw [Array.size_append, Array.size_map]
    exact Nat.le_add_right _ _
  · intro j c hj
    unfold bytesRow
    have hlt : j < s.data.size := (List.getElem?_eq_some_iff.1 hj).1
    rw [Array.getElem?_append_left (by simpa using hlt), Array.getElem?_map]
    rw [Array.getElem?_toList] at hj
    rw [hj]; rfl

theorem low_set (l : L) (k : Nat) (c : UInt8) (hk : l[k]? = some c) : (lowerL (l.take k) ++ l.drop k).set k (lowerC c) = lowerL (l.take (k + 1)) ++ l.drop (k + 1) := by
  have hlt := (List.getElem?_eq_some_iff.1 hk).1
  have e : l[k] = c := (List.getElem?_eq_some_iff.1 hk).2
  rw [List.drop_eq_getElem_cons hlt, List.take_succ_eq_append_getElem hlt, e]
  unfold lowerL
  rw [List.map_append]
  have hl : ((l.take k).map lowerC).length = k := by rw [List.length_map, List.length_take]; omega
  rw [List.set_append_right _ _ (by omega), hl, Nat.sub_self, List.set_cons_zero, List.map_cons, List.map_nil, List.append_assoc]
  rfl
theorem low_get (l : L) (k : Nat) (c : UInt8) (hk : l[k]? = some c) : (lowerL (l.take k) ++ l.drop k)[k]? = some c := by
  have hlt := (List.getElem?_eq_some_iff.1 hk).1
  have hl : (lowerL (l.take k)).length = k := by unfold lowerL; rw [List.length_map, List.length_take]; omega
  rw [List.getElem?_append_right (by omega), hl, Nat.sub_self, List.getElem?_drop, Nat.add_zero]; exact hk
theorem low_up {c : UInt8} (h1 : 65 ≤ c.toNat) (h2 : c.toNat ≤ 90) : ((lowerC c).toNat : Int) = (c.toNat : Int) + 97 - 65 := by
  unfold lowerC
  rw [if_pos ⟨h1, h2⟩, UInt8.toNat_add]
  show (((c.toNat + 32) % 256 : Nat) : Int) = _
  omega
theorem low_keep {c : UInt8} (h : ¬ (65 ≤ c.toNat ∧ c.toNat ≤ 90)) : lowerC c = c := by unfold lowerC; rw [if_neg h]
theorem low_same {l : L} {k : Nat} {c : UInt8} (hk : l[k]? = some c) (h : lowerC c = c) : lowerL (l.take k) ++ l.drop k = lowerL (l.take (k + 1)) ++ l.drop (k + 1) := by
  have h1 := low_set l k c hk
  rw [h] at h1
  have h2 := low_get l k c hk
  obtain ⟨hlt, e⟩ := List.getElem?_eq_some_iff.1 h2
  rw [← h1]
  conv => rhs; rw [← e]
  rw [List.set_getElem_self]
theorem low_len (l : L) (k : Nat) : (lowerL (l.take k) ++ l.drop k).length = l.length := by
  unfold lowerL; rw [List.length_append, List.length_map, List.length_take, List.length_drop]; omega

set_option maxHeartbeats 2000000 in
set_option maxRecDepth 100000 in
theorem lower_any (s : ByteArray) (w : World) (hs : s.size ≤ 9223372036854770000) :
    Calls Tryz.prog 45 #[.string s] w fun e w' => ∃ t : ByteArray, e = .returned (.string t) ∧ Hid (t.data.toList = lowerL s.data.toList) ∧ Below w.heap.size w w' := by
  obtain ⟨cap, hcap⟩ : ∃ cap, cap = grownCap w s.size 0 5 := ⟨_, rfl⟩
  have hconv := run_bytes_of_string (P := Tryz.prog) w 9 89 5 s Tryz.underlying9 Tryz.underlying89 Tryz.underlying5
  rw [← hcap] at hconv
  have hnew := holdsB_new w.drew s cap
  have hB : Below w.heap.size w (w.drew.alloc (.cells (bytesRow s cap) 5 ((bytesRow s cap).size, (bytesRow s cap).size + 1))) := ((Below.refl _ _).drew).alloc (Nat.le_refl _) _
  generalize bytesRow s cap = C at *
  have HN := Lib.hid hnew
  clear hcap hnew
  go_enter Tryz.func45, Tryz.ntmps45
  go_wp2
  go_loopw [10] (fun i wr => ∃ k : Nat, i = .int .i64 k ∧ k ≤ s.size ∧ Hid (holdsB wr w.heap.size C.size (lowerL (s.data.toList.take k) ++ s.data.toList.drop k)) ∧ Below w.heap.size w wr) (fun i _ => s.size - (intOf i).toNat)
  case atStart => exact ⟨0, rfl, by omega, HN, hB⟩
  case round =>
    clear HN hB
    obtain ⟨k, rfl, hk, hold, hB⟩ := hrel
    by_cases hlt : k < s.size
    · have hx := get_opt s k hlt
      have hc1 : wr.cell? ⟨w.heap.size, k, none⟩ = some (.int .u8 (s[k].toNat : Int)) := hold.out.cell (low_get _ _ _ hx)
      have hf1 : wr.frozen? ⟨w.heap.size, k, none⟩ = false := hold.out.free (by rw [low_len, size_len]; exact hlt)
      have HX := Lib.hid hx
      clear hx
      have hn : s[k].toNat < 256 := s[k].toNat_lt
      by_cases h1 : 65 ≤ s[k].toNat
      · by_cases h2 : s[k].toNat ≤ 90
        · go_wp2
          go_roundw
          case rel =>
            refine ⟨k + 1, by go_num, by omega, Lib.hid ?_, hB.setCell (Nat.le_refl _) _⟩
            have h3 := hold.out.set (j := k) (by rw [low_len, size_len]; exact hlt) (lowerC s[k])
            rw [low_set _ _ _ HX.out, low_up h1 h2] at h3
            exact h3
          case measure => simp [intOf]; omega
        · go_wp2
          go_roundw
          case rel => exact ⟨k + 1, by go_num, by omega, Lib.hid (by rw [← low_same HX.out (low_keep (by omega))]; exact hold.out), hB⟩
          case measure => simp [intOf]; omega
      · go_wp2
        go_roundw
        case rel => exact ⟨k + 1, by go_num, by omega, Lib.hid (by rw [← low_same HX.out (low_keep (by omega))]; exact hold.out), hB⟩
        case measure => simp [intOf]; omega
    · have hk2 : k = s.size := by omega
      have h5 : holdsB wr w.heap.size C.size (lowerL s.data.toList) := by
        have := hold.out
        rw [hk2, ← size_len, List.take_length, List.drop_length, List.append_nil] at this
        exact this
      have hlen : (lowerL s.data.toList).length = s.size := by unfold lowerL; rw [List.length_map, size_len]
      have hback := run_convert_bytes_back (P := Tryz.prog) wr 89 9 5 ⟨w.heap.size, 0, none⟩ cap (lowerL s.data.toList) Tryz.underlying89 Tryz.underlying5 Tryz.underlying9
        (fun j hj => by
          rw [show (⟨w.heap.size, 0, none⟩ : Addr).add j = ⟨w.heap.size, j, none⟩ by unfold Addr.add; split <;> simp_all]
          exact h5.cell (List.getElem?_eq_getElem hj))
      rw [hlen] at hback
      obtain ⟨t, ht⟩ : ∃ t : ByteArray, t = ⟨(lowerL s.data.toList).toArray⟩ := ⟨_, rfl⟩
      rw [← ht] at hback
      have HT := Lib.hid ht
      clear ht hlen h5 hold hk2
      go_wp2
      go_ret
      exact ⟨t, rfl, Lib.hid (by rw [HT.out]), hB⟩

def lowerR (r : Ref) : Ref := { r with sc := lowerL r.sc }
set_option maxHeartbeats 2000000 in
set_option maxRecDepth 100000 in
theorem lowerR_any (r : RefB) (w : World) (hz : r.le 9223372036854770000) : Calls Tryz.prog 18 #[refV r] w fun e w' => ∃ t : ByteArray, e = .returned (refV { r with sc := t }) ∧ Hid (t.data.toList = lowerL r.sc.data.toList) ∧ Below w.heap.size w w' := by
  obtain ⟨z1, z2, z3, z4, z5⟩ := hz
  obtain ⟨hs, sc, ha, au, pa, hq, qu, hf, fr⟩ := r
  have z1 : sc.size ≤ 9223372036854770000 := z1
  have hB := ((Below.refl w.heap.size w).alloc (Nat.le_refl _) (.cells (refCells ⟨hs, sc, ha, au, pa, hq, qu, hf, fr⟩) 25)).alloc (by simp) (.cells (refCells ref0) 25)
  have H1 := Lib.hid (blk_alloc (blk_new w (.cells (refCells ⟨hs, sc, ha, au, pa, hq, qu, hf, fr⟩) 25)) (.cells (refCells ref0) 25))
  have h2 := blk_new (w.alloc (.cells (refCells ⟨hs, sc, ha, au, pa, hq, qu, hf, fr⟩) 25)) (.cells (refCells ref0) 25)
  have hz2 : (w.alloc (.cells (refCells ⟨hs, sc, ha, au, pa, hq, qu, hf, fr⟩) 25)).heap.size = w.heap.size + 1 := by simp
  rw [hz2] at h2
  have H2 := Lib.hid h2
  clear h2 hz2
  go_enter Tryz.func18, Tryz.ntmps18
  go_wp2_with (fail)
  refine (lower_any _ _ (by omega)).mono ?_
  rintro e w1 ⟨t, rfl, ht, hb1⟩
  have hB1 := bt hB hb1
  have h1 := blk_below H1.out hb1 (Array.getElem?_eq_some_iff.1 H1.out).1
  have h2 := blk_below H2.out hb1 (Array.getElem?_eq_some_iff.1 H2.out).1
  have c0 : w1.cell? ⟨w.heap.size, 0, none⟩ = some (.bool hs) := blk_cell h1 0
  have c1 : w1.cell? ⟨w.heap.size, 1, none⟩ = some (.string sc) := blk_cell h1 1
  have c2 : w1.cell? ⟨w.heap.size, 2, none⟩ = some (.bool ha) := blk_cell h1 2
  have c3 : w1.cell? ⟨w.heap.size, 3, none⟩ = some (.string au) := blk_cell h1 3
  have c4 : w1.cell? ⟨w.heap.size, 4, none⟩ = some (.string pa) := blk_cell h1 4
  have c5 : w1.cell? ⟨w.heap.size, 5, none⟩ = some (.bool hq) := blk_cell h1 5
  have c6 : w1.cell? ⟨w.heap.size, 6, none⟩ = some (.string qu) := blk_cell h1 6
  have c7 : w1.cell? ⟨w.heap.size, 7, none⟩ = some (.bool hf) := blk_cell h1 7
  have c8 : w1.cell? ⟨w.heap.size, 8, none⟩ = some (.string fr) := blk_cell h1 8
  have f1 : w1.frozen? ⟨w.heap.size, 1, none⟩ = false := blk_frozen h1 1
  have hc0 : ∀ j, w1.cell? ⟨w.heap.size + 1, j, none⟩ = (refCells ref0)[j]? := blk_cell h2
  have z0 : ∀ j, w1.frozen? ⟨w.heap.size + 1, j, none⟩ = false := blk_frozen h2
  clear h1 h2 H1 H2 hb1 hB
  go_wp2
  refine bodyPost_ret (v := refV ⟨hs, t, ha, au, pa, hq, qu, hf, fr⟩) (by simp [results, Tryz.results18, go_sem, hc0, refCells, ref0]) rfl ⟨t, rfl, ht, ?_⟩
  go_grown
end Go.Proofs.YtfkgkkmcaaefnaaGreatDoor.Wk
