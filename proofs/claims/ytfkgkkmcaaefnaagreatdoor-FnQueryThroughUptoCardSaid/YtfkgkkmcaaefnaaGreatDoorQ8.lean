/-
  THE WALK of escape.
-/
import Derived.Test.YtfkgkkmcaaefnaaGreatDoorQ7
import Derived.Test.YtfkgkkmcaaefnaaGreatDoorBu
import Derived.Laws.MakeOwn
import Derived.Lib.BufferWrite
import Derived.Laws.CopyOwn
set_option linter.unusedSimpArgs false
set_option linter.unusedVariables false
namespace Go.Proofs.YtfkgkkmcaaefnaaGreatDoor.Wk
open Go.RowKit Go.Proofs.YtfkgkkmcaaefnaaGreatDoor.Pu

/-- a row of cells whose first ones are these bytes, free to be written -/
def rowB (w : World) (g : Nat) (l : L) : Prop := ∃ (C : Array Value) (ty : TypeId), w.heap[g]? = some (.cells C ty (0, 0)) ∧ ∀ (j : Nat) (c : UInt8), l[j]? = some c → C[j]? = some (Value.int .u8 (c.toNat : Int))
theorem rowB.cell {w : World} {g : Nat} {l : L} (h : rowB w g l) {j : Nat} {c : UInt8} (hj : l[j]? = some c) : w.cell? ⟨g, j, none⟩ = some (.int .u8 (c.toNat : Int)) := by
  obtain ⟨C, ty, h1, h2⟩ := h
  rw [blk_cell h1, h2 j c hj]
theorem rowB.free {w : World} {g : Nat} {l : L} (h : rowB w g l) (j : Nat) : w.frozen? ⟨g, j, none⟩ = false := by
  obtain ⟨C, ty, h1, h2⟩ := h
  exact blk_frozen h1 j
theorem rowB.set {w : World} {g : Nat} {l : L} (h : rowB w g l) {j : Nat} (hj : j < l.length) (c : UInt8) : rowB (w.setCell ⟨g, j, none⟩ (.int .u8 (c.toNat : Int))) g (l.set j c) := by
  obtain ⟨C, ty, h1, h2⟩ := h
  refine ⟨_, ty, blk_set h1 j _, ?_⟩
  have hlt : j < C.size := by
    have := h2 j l[j] (List.getElem?_eq_getElem hj)
    exact (Array.getElem?_eq_some_iff.1 this).1
  intro i d hi
  by_cases e : j = i
  · subst e
    have : d = c := by rw [List.getElem?_set_self hj] at hi; exact (Option.some.inj hi).symm
    subst this
    rw [Array.getElem?_setIfInBounds_self_of_lt hlt]
  · rw [List.getElem?_set_ne e] at hi
    rw [Array.getElem?_setIfInBounds_ne e]
    exact h2 i d hi
theorem rowB.far {w : World} {g : Nat} {l : L} (h : rowB w g l) {B : Nat} {w' : World} (hb : Below B w w') (hg : g < B) : rowB w' g l := by
  obtain ⟨C, ty, h1, h2⟩ := h
  exact ⟨C, ty, blk_below h1 hb hg, h2⟩

theorem blk_new2 (w : World) (o o2 : Obj) : ((w.alloc o).alloc o2).heap[w.heap.size + 1]? = some o2 := by
  have h := blk_new (w.alloc o) o2
  rw [show (w.alloc o).heap.size = w.heap.size + 1 by simp] at h
  exact h
theorem esc_room (m : Nat) (s : ByteArray) (k : Nat) (h : k < s.size) : (escF m (s.data.toList.take k)).length + (esc1 m s[k]).length ≤ (escF m s.data.toList).length := by
  conv => rhs; rw [← List.take_append_drop k s.data.toList, drop_cons s k h, escF_app, escF_cons]
  simp only [List.length_append]
  omega
theorem holdsB.keepSet {w : World} {g m : Nat} {l : L} (h : holdsB w g m l) {g2 i : Nat} {v : Value} (hne : g2 ≠ g) : holdsB (w.setCell ⟨g2, i, none⟩ v) g m l := by
  obtain ⟨C, h1, h2, h3, h4⟩ := h
  exact ⟨C, blk_far h1 i v hne, h2, h3, h4⟩
theorem set3 (x y z a b c : UInt8) (r : L) : ∀ out : L, (((out ++ x :: y :: z :: r).set out.length a).set (out.length + 1) b).set (out.length + 2) c = out ++ a :: b :: c :: r
  | [] => rfl
  | o :: out => congrArg (o :: ·) (set3 x y z a b c r out)
theorem upx_idx (n : Nat) (h : n < 16) : ((⟨#[48, 49, 50, 51, 52, 53, 54, 55, 56, 57, 65, 66, 67, 68, 69, 70]⟩ : ByteArray)[n]'h).toNat = (upx n).toNat := by
  have h16 : ∀ n : Fin 16, ((⟨#[48, 49, 50, 51, 52, 53, 54, 55, 56, 57, 65, 66, 67, 68, 69, 70]⟩ : ByteArray)[n.1]'n.2).toNat = (upx n.1).toNat := by decide
  exact h16 ⟨n, h⟩
theorem pl_set (l : L) (k : Nat) (c : UInt8) (hk : l[k]? = some c) : ((l.take k).map plusC ++ l.drop k).set k (plusC c) = (l.take (k + 1)).map plusC ++ l.drop (k + 1) := by
  have hlt := (List.getElem?_eq_some_iff.1 hk).1
  have e : l[k] = c := (List.getElem?_eq_some_iff.1 hk).2
  rw [List.drop_eq_getElem_cons hlt, List.take_succ_eq_append_getElem hlt, e]
  rw [List.map_append]
  have hl : ((l.take k).map plusC).length = k := by rw [List.length_map, List.length_take]; omega
  rw [List.set_append_right _ _ (by omega), hl, Nat.sub_self, List.set_cons_zero, List.map_cons, List.map_nil, List.append_assoc]
  rfl
theorem pl_get (l : L) (k : Nat) (c : UInt8) (hk : l[k]? = some c) : ((l.take k).map plusC ++ l.drop k)[k]? = some c := by
  have hlt := (List.getElem?_eq_some_iff.1 hk).1
  have hl : ((l.take k).map plusC).length = k := by rw [List.length_map, List.length_take]; omega
  rw [List.getElem?_append_right (by omega), hl, Nat.sub_self, List.getElem?_drop, Nat.add_zero]; exact hk
theorem pl_same {l : L} {k : Nat} {c : UInt8} (hk : l[k]? = some c) (h : plusC c = c) : (l.take k).map plusC ++ l.drop k = (l.take (k + 1)).map plusC ++ l.drop (k + 1) := by
  have h1 := pl_set l k c hk
  rw [h] at h1
  have h2 := pl_get l k c hk
  obtain ⟨hlt, e⟩ := List.getElem?_eq_some_iff.1 h2
  rw [← h1]
  conv => rhs; rw [← e]
  rw [List.set_getElem_self]
theorem zeros64 : ∀ j, j < 64 → (Array.replicate 64 (Value.int .u8 0))[j]? = some (Value.int .u8 0) := fun j hj => by
  rw [Array.getElem?_replicate, if_pos hj]
theorem made_zero (n : Nat) : madeCells #[Value.int .u8 0] n = Array.replicate n (Value.int .u8 0) := by
  apply Array.ext
  · simp [madeCells]
  · intro i h1 h2
    simp [madeCells, Nat.mod_one]
theorem make_bytes (n : Nat) (h : n ≤ 281474976710656) (W : World) : (Instr.makeSlice 89 (.int .i64 (n : Int)) (.int .i64 (n : Int))).run Tryz.prog W = .ok (.slice (some ⟨W.heap.size, 0, none⟩) n n) (W.alloc (.cells (Array.replicate n (Value.int .u8 0)) 5)) := by
  obtain ⟨i0, hi, hz0, hz1, hz2⟩ := info_parts info5
  rw [run_make W 89 5 i0 _ Tryz.underlying89 hi hz0 .i64 .i64 n n (by omega) (Int.le_refl _) (by rw [hz2]; omega) (by omega), hz1]
  simp only [Value.cells, Nat.mul_one, Int.toNat_natCast]
  rw [← made_zero]

theorem sp_t {m : Nat} {c : UInt8} (h2 : (c.toNat : Int) = 32) (h3 : ((m : Int) == 32) = true) : spB m c = true := by
  unfold spB
  rw [Bool.and_eq_true, decide_eq_true_iff, decide_eq_true_iff]
  have := beq_iff_eq.1 h3
  omega
theorem sp_f1 {m : Nat} {c : UInt8} (h3 : ((m : Int) == 32) = false) : spB m c = false := by
  unfold spB
  rw [Bool.and_eq_false_iff, decide_eq_false_iff_not, decide_eq_false_iff_not]
  have := beq_eq_false_iff_ne.1 h3
  omega
theorem sp_f2 {m : Nat} {c : UInt8} (h2 : ¬ (c.toNat : Int) = 32) : spB m c = false := by
  unfold spB
  rw [Bool.and_eq_false_iff, decide_eq_false_iff_not, decide_eq_false_iff_not]
  omega
theorem sp_esc' {m : Nat} {c : UInt8} (h : escN m c.toNat = false) : spB m c = false := by
  cases e : spB m c with
  | false => rfl
  | true => rw [sp_esc m c e] at h; exact absurd h (by decide)
theorem hx_of {m : Nat} {c : UInt8} {x y : Bool} (h1 : escN m c.toNat = x) (h2 : spB m c = y) : hxB m c = (x && !y) := by unfold hxB; rw [h1, h2]

set_option maxHeartbeats 4000000 in
set_option maxRecDepth 100000 in
theorem escape_any (s : ByteArray) (m : Nat) (w : World) (hT : Tab w) (hm : m < 256) (hs : s.size ≤ 40000000000000) :
    Calls Tryz.prog 65 #[.string s, .int .u8 m] w fun e w' => ∃ t : ByteArray, e = .returned (.string t) ∧ Hid (t.data.toList = escF m s.data.toList) ∧ Below w.heap.size w w' := by
  have hpos := hT.pos
  obtain ⟨cap, hcap⟩ : ∃ cap, cap = grownCap w s.size 0 5 := ⟨_, rfl⟩
  have hconv := run_bytes_of_string (P := Tryz.prog) w 9 89 5 s Tryz.underlying9 Tryz.underlying89 Tryz.underlying5
  rw [← hcap] at hconv
  have hnew := holdsB_new w.drew s cap
  have hB : Below w.heap.size w (w.drew.alloc (.cells (bytesRow s cap) 5 ((bytesRow s cap).size, (bytesRow s cap).size + 1))) := ((Below.refl _ _).drew).alloc (Nat.le_refl _) _
  generalize bytesRow s cap = C at *
  have HN := Lib.hid hnew
  have HT := Lib.hid hT
  clear hcap hnew hT
  go_enter Tryz.func65, Tryz.ntmps65
  go_wp2
  go_loopw [5, 6, 19] (fun x y i wr => ∃ k a b : Nat, x = .int .i64 a ∧ y = .int .i64 b ∧ i = .int .i64 k ∧ k ≤ s.size ∧ a ≤ k ∧ b ≤ k ∧ Hid (a = spN m (s.data.toList.take k)) ∧ Hid (b = hxN m (s.data.toList.take k)) ∧ Hid (holdsB wr w.heap.size C.size s.data.toList) ∧ Below w.heap.size w wr) (fun _ _ i _ => s.size - (intOf i).toNat)
  case atStart => exact ⟨0, 0, 0, rfl, rfl, rfl, by omega, by omega, by omega, Lib.hid rfl, Lib.hid rfl, HN, hB⟩
  case round =>
    clear HN hB
    obtain ⟨k, a, b, rfl, rfl, rfl, hk, hak, hbk, ha, hb, hold, hB⟩ := hrel
    by_cases hlt : k < s.size
    · have hx := get_opt s k hlt
      have hc1 : wr.cell? ⟨w.heap.size, k, none⟩ = some (.int .u8 (s[k].toNat : Int)) := hold.out.cell hx
      have hn : s[k].toNat < 256 := s[k].toNat_lt
      have HTr : Hid (Tab wr) := Lib.hid (HT.out.below hB hpos)
      have hA := cnt_take (spB m) s k hlt
      have hBb := cnt_take (hxB m) s k hlt
      have HA := Lib.hid hA
      have HBb := Lib.hid hBb
      clear hA hBb hx
      go_wp2_with (go_at_call 97; refine (shouldEscape_any _ _ _ HTr.out hn hm).mono ?_; rintro e w1 ⟨rfl, rfl⟩)
      · have e1 := sp_t (c := s[k]) ‹_› ‹_›
        have e2 := hx_of ‹escN m s[k].toNat = _› e1
        go_roundw
        case rel => exact ⟨k + 1, a + 1, b, by go_num, rfl, by go_num, by omega, by omega, by omega, Lib.hid (by unfold spN; rw [HA.out, e1, ha.out]; rfl), Lib.hid (by unfold hxN; rw [HBb.out, e2, hb.out]; rfl), hold, hB⟩
        case measure => simp [intOf]; omega
      · have e1 := sp_f1 (c := s[k]) ‹((m : Int) == 32) = false›
        have e2 := hx_of ‹escN m s[k].toNat = _› e1
        go_roundw
        case rel => exact ⟨k + 1, a, b + 1, rfl, by go_num, by go_num, by omega, by omega, by omega, Lib.hid (by unfold spN; rw [HA.out, e1, ha.out]; rfl), Lib.hid (by unfold hxN; rw [HBb.out, e2, hb.out]; rfl), hold, hB⟩
        case measure => simp [intOf]; omega
      · have e1 := sp_f2 (m := m) (c := s[k]) ‹_›
        have e2 := hx_of ‹escN m s[k].toNat = _› e1
        go_roundw
        case rel => exact ⟨k + 1, a, b + 1, rfl, by go_num, by go_num, by omega, by omega, by omega, Lib.hid (by unfold spN; rw [HA.out, e1, ha.out]; rfl), Lib.hid (by unfold hxN; rw [HBb.out, e2, hb.out]; rfl), hold, hB⟩
        case measure => simp [intOf]; omega
      · have e1 := sp_esc' (m := m) (c := s[k]) ‹_›
        have e2 := hx_of ‹escN m s[k].toNat = _› e1
        go_roundw
        case rel => exact ⟨k + 1, a, b, rfl, rfl, by go_num, by omega, by omega, by omega, Lib.hid (by unfold spN; rw [HA.out, e1, ha.out]; rfl), Lib.hid (by unfold hxN; rw [HBb.out, e2, hb.out]; rfl), hold, hB⟩
        case measure => simp [intOf]; omega
    · have hks : k = s.size := by omega
      subst hks
      have ha2 := ha.out
      have hb2 := hb.out
      rw [← size_len, List.take_length] at ha2 hb2
      have HA := Lib.hid ha2
      have HBx := Lib.hid hb2
      clear ha hb ha2 hb2
      have HTr : Hid (Tab wr) := Lib.hid (HT.out.below hB hpos)
      by_cases hz : b = 0 ∧ a = 0
      · obtain ⟨rfl, rfl⟩ := hz
        go_wp2
        go_ret
        exact ⟨s, rfl, Lib.hid (escF_id m _ HA.out.symm HBx.out.symm).symm, hB⟩
      · have hcut0 : ∃ ca cb : Bool, ((a : Int) == 0) = ca ∧ ((b : Int) == 0) = cb ∧ (cb = true → ca = false) := ⟨_, _, rfl, rfl, fun h => by
          rw [beq_eq_false_iff_ne]; have := beq_iff_eq.1 h; intro h2; exact hz ⟨by omega, by omega⟩⟩
        obtain ⟨ca, cb, hca, hcb, hcc⟩ := hcut0
        have HM : Hid (b = 0 → m = 32) := Lib.hid (fun h => sp_pos m s.data.toList (by rw [← HA.out]; omega))
        clear hz hold
        go_upto_region 10 with (fail)
        go_cut [42] (fun v wc => v = .bool false ∧ wc = wr)
        case first =>
          cases ca <;> cases cb
          all_goals first
            | exact absurd (hcc rfl) (by decide)
            | (clear hcc
               go_wp2
               go_meet
               case rel => exact ⟨rfl, rfl⟩)
        case rest =>
          obtain ⟨rfl, rfl⟩ := hcut
          clear hca
          have hmk := make_bytes (s.size + 2 * b) (by omega)
          have hnn : ((s.size + 2 * b : Nat) : Int) = (s.size : Int) + 2 * (b : Int) := by omega
          rw [hnn] at hmk
          go_upto_if 50 with (fail)
          go_cut [10] (fun v wx => ∃ g cap2 : Nat, v = .slice (some ⟨g, 0, none⟩) (s.size + 2 * b) cap2 ∧ w.heap.size ≤ g ∧ Hid (rowB wx g (List.replicate (s.size + 2 * b) 0)) ∧ Below w.heap.size w wx)
          case first =>
            by_cases h64 : (s.size : Int) + 2 * b ≤ 64
            · have hal : Tryz.prog.arrayLen 120 = 64 := by kernel_rfl
              have h65 : (s.size : Int) + 2 * b ≤ (Tryz.prog.arrayLen 120 : Int) := by rw [hal]; exact h64
              have h66 : 0 ≤ (s.size : Int) + 2 * b := by omega
              go_wp2
              go_meet
              case rel =>
                refine ⟨wc.heap.size, 64, rfl, hB.size, Lib.hid ⟨_, 120, blk_new _ _, fun j c hj => ?_⟩, hB.alloc hB.size _⟩
                obtain ⟨hj1, hj2⟩ := List.getElem?_eq_some_iff.1 hj
                rw [List.getElem_replicate] at hj2
                subst hj2
                rw [List.length_replicate] at hj1
                exact zeros64 j (by omega)
            · clear hcc
              go_wp2
              go_meet
              case rel =>
                refine ⟨_, _, rfl, ?_, Lib.hid ⟨_, 5, blk_new2 _ _ _, fun j c hj => ?_⟩, (hB.alloc hB.size _).alloc (by have := hB.size; simp; omega) _⟩
                · have := hB.size; simp; omega
                · obtain ⟨hj1, hj2⟩ := List.getElem?_eq_some_iff.1 hj
                  rw [List.getElem_replicate] at hj2
                  subst hj2
                  rw [List.length_replicate] at hj1
                  rw [Array.getElem?_replicate, if_pos hj1]; rfl
          case rest =>
            obtain ⟨g, cap2, rfl, hg, HR, hB2⟩ := hcut
            clear hmk HTr hB
            have hn := hnn
            cases cb
            · -- some bytes are escaped
              obtain ⟨cap3, hcap3⟩ : ∃ cap, cap = grownCap wc s.size 0 5 := ⟨_, rfl⟩
              have hconv3 := run_bytes_of_string (P := Tryz.prog) wc 9 89 5 s Tryz.underlying9 Tryz.underlying89 Tryz.underlying5
              rw [← hcap3] at hconv3
              have hnew3 := holdsB_new wc.drew s cap3
              have hB3 := (hB2.drew).alloc (by exact hB2.size) (.cells (bytesRow s cap3) 5 ((bytesRow s cap3).size, (bytesRow s cap3).size + 1))
              have hgl : g < wc.heap.size := by
                obtain ⟨C, ty, h1, _⟩ := HR.out
                exact (Array.getElem?_eq_some_iff.1 h1).1
              have HR3 : Hid (rowB (wc.drew.alloc (.cells (bytesRow s cap3) 5 ((bytesRow s cap3).size, (bytesRow s cap3).size + 1))) g (List.replicate (s.size + 2 * b) 0)) := Lib.hid (HR.out.far (((Below.refl wc.heap.size wc).drew).alloc (Nat.le_refl _) _) hgl)
              generalize bytesRow s cap3 = C3 at *
              have HN3 := Lib.hid hnew3
              clear hcap3 hnew3 HR hB2 hcc
              go_wp2
              go_loopw [13, 78] (fun x i wr => ∃ (k : Nat) (out rest : L), x = .int .i64 out.length ∧ i = .int .i64 k ∧ k ≤ s.size ∧ Hid (out = escF m (s.data.toList.take k)) ∧ out.length + rest.length = s.size + 2 * b ∧ Hid (rowB wr g (out ++ rest)) ∧ Hid (holdsB wr wc.heap.size C3.size s.data.toList) ∧ Below w.heap.size w wr) (fun _ i _ => s.size - (intOf i).toNat)
              case atStart => exact ⟨0, [], List.replicate (s.size + 2 * b) 0, rfl, rfl, by omega, Lib.hid rfl, by simp, HR3, HN3, hB3⟩
              case round =>
                clear HR3 HN3 hB3
                obtain ⟨k, out, rest, rfl, rfl, hk, hout, hlen, HRw, HHw, hB⟩ := hrel
                by_cases hlt : k < s.size
                · have hx := get_opt s k hlt
                  have hc1 : wr.cell? ⟨wc.heap.size, k, none⟩ = some (.int .u8 (s[k].toNat : Int)) := HHw.out.cell hx
                  have hn8 : s[k].toNat < 256 := s[k].toNat_lt
                  have HTr : Hid (Tab wr) := Lib.hid (HT.out.below hB hpos)
                  have hroom : out.length + (esc1 m s[k]).length ≤ s.size + 2 * b := by
                    have h1 := escF_len m s.data.toList
                    rw [← HBx.out, size_len] at h1
                    rw [← h1, hout.out]
                    exact esc_room m s k hlt
                  have hnext : out ++ esc1 m s[k] = escF m (s.data.toList.take (k + 1)) := by
                    rw [hout.out, List.take_succ_eq_append_getElem (show k < s.data.toList.length from hlt), escF_app, escF_cons, escF_nil, List.append_nil]; rfl
                  have HNX := Lib.hid hnext
                  clear hnext hx hout
                  cases hsp : spB m s[k]
                  · have hne : (((s[k].toNat : Int) == 32) = false) ∨ (((s[k].toNat : Int) == 32) = true ∧ ((m : Int) == 32) = false) := by
                      unfold spB at hsp
                      simp only [Bool.and_eq_false_iff, decide_eq_false_iff_not] at hsp
                      by_cases h5 : s[k].toNat = 32
                      · right
                        exact ⟨by rw [beq_iff_eq]; omega, by rw [beq_eq_false_iff_ne]; have := hsp.resolve_left (fun h => h h5); omega⟩
                      · left
                        rw [beq_eq_false_iff_ne]; omega
                    cases hes : escN m s[k].toNat
                    · have he : esc1 m s[k] = [s[k]] := by unfold esc1; rw [hsp, hes]; rfl
                      rw [he] at hroom
                      have HE := Lib.hid he
                      obtain ⟨x, rest, rfl⟩ : ∃ x r, rest = x :: r := by
                        cases rest with
                        | nil => simp at hroom hlen; omega
                        | cons x r => exact ⟨x, r, rfl⟩
                      have hc2 : wr.cell? ⟨g, out.length, none⟩ = some (.int .u8 (x.toNat : Int)) := HRw.out.cell (by simp)
                      have hf2 : wr.frozen? ⟨g, out.length, none⟩ = false := HRw.out.free _
                      have hset := HRw.out.set (j := out.length) (by simp) s[k]
                      rw [List.set_append_right _ _ (Nat.le_refl _), Nat.sub_self, List.set_cons_zero] at hset
                      have hol : out.length < s.size + 2 * b := by simp at hlen; omega
                      have HS := Lib.hid hset
                      clear hset he hsp
                      rcases hne with hh1 | ⟨hh1, hh2⟩
                      all_goals
                        go_wp2_with (go_at_call 97; refine (shouldEscape_any _ _ _ HTr.out hn8 hm).mono ?_; rintro e w1 ⟨rfl, rfl⟩)
                        go_roundw
                        case rel =>
                          refine ⟨k + 1, out ++ [s[k]], rest, by rw [List.length_append]; go_num, by go_num, by omega, Lib.hid (by rw [← HNX.out, HE.out]), by simp at hlen ⊢; omega, Lib.hid (by rw [List.append_assoc]; exact HS.out), Lib.hid (HHw.out.keepSet (by omega)), hB.setCell (by omega) _⟩
                        case measure => simp [intOf]; omega
                    · have he : esc1 m s[k] = [37, upx (s[k].toNat / 16), upx (s[k].toNat % 16)] := by unfold esc1; rw [hsp, hes]; rfl
                      rw [he] at hroom
                      have HE := Lib.hid he
                      obtain ⟨x, y, z, rest, rfl⟩ : ∃ x y z r, rest = x :: y :: z :: r := by
                        match rest with
                        | [] => simp at hroom hlen; omega
                        | [_] => simp at hroom hlen; omega
                        | [_, _] => simp at hroom hlen; omega
                        | x :: y :: z :: r => exact ⟨x, y, z, r, rfl⟩
                      have hol : out.length + 2 < s.size + 2 * b := by simp at hlen; omega
                      have hol1 : out.length + 1 < s.size + 2 * b := by omega
                      have hol0 : out.length < s.size + 2 * b := by omega
                      have hc2 : wr.cell? ⟨g, out.length, none⟩ = some (.int .u8 (x.toNat : Int)) := HRw.out.cell (by simp)
                      have hc3 : wr.cell? ⟨g, out.length + 1, none⟩ = some (.int .u8 (y.toNat : Int)) := HRw.out.cell (by simp)
                      have hc4 : wr.cell? ⟨g, out.length + 2, none⟩ = some (.int .u8 (z.toNat : Int)) := HRw.out.cell (by simp)
                      have hf2 : wr.frozen? ⟨g, out.length, none⟩ = false := HRw.out.free _
                      have hf3 : wr.frozen? ⟨g, out.length + 1, none⟩ = false := HRw.out.free _
                      have hf4 : wr.frozen? ⟨g, out.length + 2, none⟩ = false := HRw.out.free _
                      have hand := u8_and15 (x := (s[k].toNat : Int)) (by omega) (by omega)
                      have hi1 : s[k].toNat / 16 < 16 := by omega
                      have hi2 : s[k].toNat % 16 < 16 := by omega
                      clear he hsp
                      have hset := ((HRw.out.set (j := out.length) (by simp) 37).set (j := out.length + 1) (by simp) (upx (s[k].toNat / 16))).set (j := out.length + 2) (by simp) (upx (s[k].toNat % 16))
                      rw [set3] at hset
                      have HS := Lib.hid hset
                      clear hset
                      rcases hne with hh1 | ⟨hh1, hh2⟩
                      all_goals
                        go_wp2_with (go_at_call 97; refine (shouldEscape_any _ _ _ HTr.out hn8 hm).mono ?_; rintro e w1 ⟨rfl, rfl⟩)
                        go_roundw
                        case rel =>
                          simp only [upx_idx]
                          refine ⟨k + 1, out ++ [37, upx (s[k].toNat / 16), upx (s[k].toNat % 16)], rest, by rw [List.length_append]; go_num, by go_num, by omega, Lib.hid (by rw [← HNX.out, HE.out]), by simp at hlen ⊢; omega, Lib.hid (by rw [List.append_assoc]; exact HS.out), Lib.hid (((HHw.out.keepSet (by omega)).keepSet (by omega)).keepSet (by omega)), ((hB.setCell (by omega) _).setCell (by omega) _).setCell (by omega) _⟩
                        case measure => simp [intOf]; omega
                  · have he : esc1 m s[k] = [43] := by unfold esc1; rw [hsp]; rfl
                    rw [he] at hroom
                    have HE := Lib.hid he
                    obtain ⟨x, rest, rfl⟩ : ∃ x r, rest = x :: r := by
                      cases rest with
                      | nil => simp at hroom hlen; omega
                      | cons x r => exact ⟨x, r, rfl⟩
                    have hc2 : wr.cell? ⟨g, out.length, none⟩ = some (.int .u8 (x.toNat : Int)) := HRw.out.cell (by simp)
                    have hf2 : wr.frozen? ⟨g, out.length, none⟩ = false := HRw.out.free _
                    have hset := HRw.out.set (j := out.length) (by simp) 43
                    rw [List.set_append_right _ _ (Nat.le_refl _), Nat.sub_self, List.set_cons_zero] at hset
                    have hh : ((s[k].toNat : Int) == 32) = true ∧ ((m : Int) == 32) = true := by
                      unfold spB at hsp
                      simp only [Bool.and_eq_true, decide_eq_true_eq] at hsp
                      exact ⟨by rw [beq_iff_eq]; omega, by rw [beq_iff_eq]; omega⟩
                    obtain ⟨hh1, hh2⟩ := hh
                    have hol : out.length < s.size + 2 * b := by simp at hlen; omega
                    have HS := Lib.hid hset
                    clear hset he hsp
                    go_wp2
                    go_roundw
                    case rel =>
                      refine ⟨k + 1, out ++ [43], rest, by rw [List.length_append]; go_num, by go_num, by omega, Lib.hid (by rw [← HNX.out, HE.out]), by simp at hlen ⊢; omega, Lib.hid (by rw [List.append_assoc]; exact HS.out), Lib.hid (HHw.out.keepSet (by omega)), hB.setCell (by omega) _⟩
                    case measure => simp [intOf]; omega
                · have hks : k = s.size := by omega
                  subst hks
                  have ho := hout.out
                  rw [← size_len, List.take_length] at ho
                  have hl2 := escF_len m s.data.toList
                  rw [← HBx.out, size_len, ← ho] at hl2
                  have hr0 : rest = [] := List.length_eq_zero_iff.1 (by omega)
                  subst hr0
                  have hback := run_convert_bytes_back (P := Tryz.prog) wr 89 9 5 ⟨g, 0, none⟩ cap2 out Tryz.underlying89 Tryz.underlying5 Tryz.underlying9
                    (fun j hj => by
                      rw [show (⟨g, 0, none⟩ : Addr).add j = ⟨g, j, none⟩ by unfold Addr.add; split <;> simp_all]
                      have h9 := HRw.out
                      rw [List.append_nil] at h9
                      exact h9.cell (List.getElem?_eq_getElem hj))
                  rw [hl2] at hback
                  obtain ⟨t, ht⟩ : ∃ t : ByteArray, t = ⟨out.toArray⟩ := ⟨_, rfl⟩
                  rw [← ht] at hback
                  have HT5 := Lib.hid ht
                  have HO := Lib.hid ho
                  clear ht ho hl2 hlen hout
                  go_wp2
                  go_ret
                  exact ⟨t, rfl, Lib.hid (by rw [HT5.out, ← HO.out]), hB⟩
            · -- blanks alone: copied, and then written over
              have hb00 : b = 0 := by have := beq_iff_eq.1 hcb; omega
              obtain ⟨C5, ty5, hC1, hC2⟩ := HR.out
              have hC3 : s.size ≤ C5.size := by
                rcases Nat.eq_zero_or_pos s.size with h | h
                · omega
                · have := hC2 (s.size - 1) 0 (by rw [List.getElem?_replicate, if_pos (by omega)])
                  have := (Array.getElem?_eq_some_iff.1 this).1
                  omega
              have hcopy := Lib.run_copy_row_string (P := Tryz.prog) wc 89 9 3 5 g 0 s.size cap2 s C5 ty5 Tryz.underlying89 (by kernel_rfl) hC1 (by omega) (by omega)
              have hrow : rowB (wc.setRow g (C5.toList.take 0 ++ Lib.byteCells s.data.toList ++ C5.toList.drop (0 + s.size)).toArray) g s.data.toList := by
                refine ⟨_, ty5, setRow_heap _ _ _ _ _ _ hC1, fun j c hj => ?_⟩
                have hjl := (List.getElem?_eq_some_iff.1 hj).1
                rw [List.getElem?_toArray, List.take_zero, List.nil_append, List.getElem?_append_left (by rw [Lib.byteCells_length]; exact hjl)]
                unfold Lib.byteCells
                rw [List.getElem?_map, hj]; rfl
              have hBs := below_setRow hB2 hg (C5.toList.take 0 ++ Lib.byteCells s.data.toList ++ C5.toList.drop (0 + s.size)).toArray
              generalize wc.setRow g (C5.toList.take 0 ++ Lib.byteCells s.data.toList ++ C5.toList.drop (0 + s.size)).toArray = W2 at *
              have HRW := Lib.hid hrow
              clear hrow hC1 hC2 hC3 HR hB2
              go_wp2
              clear hcopy hcc
              go_loopw [12] (fun i wr => ∃ k : Nat, i = .int .i64 k ∧ k ≤ s.size ∧ Hid (rowB wr g ((s.data.toList.take k).map plusC ++ s.data.toList.drop k)) ∧ Below w.heap.size w wr) (fun i _ => s.size - (intOf i).toNat)
              case atStart => exact ⟨0, rfl, by omega, HRW, hBs⟩
              case round =>
                clear HRW hBs
                obtain ⟨k, rfl, hk, HRW, hB⟩ := hrel
                by_cases hlt : k < s.size
                · have hx := get_opt s k hlt
                  have hlr : ((s.data.toList.take k).map plusC ++ s.data.toList.drop k).length = s.size := by rw [List.length_append, List.length_map, List.length_take, List.length_drop, size_len]; omega
                  have hc2 : wr.cell? ⟨g, k, none⟩ = some (.int .u8 (s[k].toNat : Int)) := HRW.out.cell (pl_get _ _ _ hx)
                  have hf2 : wr.frozen? ⟨g, k, none⟩ = false := HRW.out.free _
                  have HX := Lib.hid hx
                  clear hx
                  by_cases h32 : s[k].toNat = 32
                  · have hb32 : ((s[k].toNat : Int) == 32) = true := by rw [beq_iff_eq]; omega
                    have hset := HRW.out.set (j := k) (by rw [hlr]; exact hlt) 43
                    rw [show (43 : UInt8) = plusC s[k] by unfold plusC; rw [if_pos h32], pl_set _ _ _ HX.out] at hset
                    rw [show plusC s[k] = 43 by unfold plusC; rw [if_pos h32]] at hset
                    have HS := Lib.hid hset
                    clear hset h32 hlr
                    go_wp2
                    go_roundw
                    case rel => exact ⟨k + 1, by go_num, by omega, HS, hB.setCell (by omega) _⟩
                    case measure => simp [intOf]; omega
                  · have hb32 : ((s[k].toNat : Int) == 32) = false := by rw [beq_eq_false_iff_ne]; omega
                    have H32 := Lib.hid h32
                    clear h32 hlr
                    go_wp2
                    go_roundw
                    case rel => exact ⟨k + 1, by go_num, by omega, Lib.hid (by rw [← pl_same HX.out (by unfold plusC; rw [if_neg H32.out])]; exact HRW.out), hB⟩
                    case measure => simp [intOf]; omega
                · have hks : k = s.size := by omega
                  subst hks
                  have h9 := HRW.out
                  rw [← size_len, List.take_length, List.drop_length, List.append_nil, ← escF_plus m (HM.out hb00) _ (by rw [← HBx.out]; exact hb00)] at h9
                  have hl2 := escF_len m s.data.toList
                  rw [← HBx.out, size_len, hb00, Nat.mul_zero, Nat.add_zero] at hl2
                  have hback := run_convert_bytes_back (P := Tryz.prog) wr 89 9 5 ⟨g, 0, none⟩ cap2 (escF m s.data.toList) Tryz.underlying89 Tryz.underlying5 Tryz.underlying9
                    (fun j hj => by
                      rw [show (⟨g, 0, none⟩ : Addr).add j = ⟨g, j, none⟩ by unfold Addr.add; split <;> simp_all]
                      exact h9.cell (List.getElem?_eq_getElem hj))
                  rw [hl2] at hback
                  obtain ⟨t, ht⟩ : ∃ t : ByteArray, t = ⟨(escF m s.data.toList).toArray⟩ := ⟨_, rfl⟩
                  rw [← ht] at hback
                  have HT5 := Lib.hid ht
                  clear ht hl2 h9
                  go_wp2
                  go_ret
                  exact ⟨t, rfl, Lib.hid (by rw [HT5.out]), hB⟩
end Go.Proofs.YtfkgkkmcaaefnaaGreatDoor.Wk
