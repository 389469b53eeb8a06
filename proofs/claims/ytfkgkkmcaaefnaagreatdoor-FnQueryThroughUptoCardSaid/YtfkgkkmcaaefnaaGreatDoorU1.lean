/-
  THE URL's BLOCK; setPath, setFragment, EscapedPath, EscapedFragment.
-/
import Derived.Test.YtfkgkkmcaaefnaaGreatDoorQ5
import Derived.Test.YtfkgkkmcaaefnaaGreatDoorQ8
set_option linter.unusedSimpArgs false
set_option linter.unusedVariables false
namespace Go.Proofs.YtfkgkkmcaaefnaaGreatDoor.Wk
open Go.RowKit Go.Proofs.YtfkgkkmcaaefnaaGreatDoor.Pu

structure UrlB where
  sc : ByteArray
  op : ByteArray
  us : Value
  ho : ByteArray
  pa : ByteArray
  fr : ByteArray
  rq : ByteArray
  rp : ByteArray
  rf : ByteArray
  fq : Bool
  oh : Bool
abbrev urlCells (u : UrlB) : Array Value := #[.string u.sc, .string u.op, u.us, .string u.ho, .string u.pa, .string u.fr, .string u.rq, .string u.rp, .string u.rf, .bool u.fq, .bool u.oh]
abbrev urlObj (u : UrlB) : Obj := .cells (urlCells u) 94 (0, 0)
abbrev ptr (g : Nat) : Value := .pointer (some ⟨g, 0, none⟩)

/-- of what was there, block g alone may have turned -/
structure Upd (g : Nat) (w w' : World) : Prop where
  below : Below g w w'
  keep : ∀ i, i < w.heap.size → i ≠ g → w'.heap[i]? = w.heap[i]?
theorem Tab.up {B : Nat} {w w' : World} (h : Tab w) (hb : Below B w w') (hs : 0 < B) : Tab w' := fun i hi => (hb.cell (p := ⟨0, i, none⟩) hs).trans (h i hi)
theorem Upd.refl (g : Nat) (w : World) : Upd g w w := ⟨Below.refl g w, fun _ _ _ => rfl⟩
theorem Upd.of {g : Nat} {w w' : World} (h : Below w.heap.size w w') (hg : g ≤ w.heap.size) : Upd g w w' := ⟨h.mono hg, fun i hi _ => h.block i hi⟩
theorem Upd.trans {g : Nat} {a b c : World} (h : Upd g a b) (k : Upd g b c) : Upd g a c := ⟨h.below.trans k.below, fun i hi hn => (k.keep i (Nat.lt_of_lt_of_le hi h.below.size) hn).trans (h.keep i hi hn)⟩
theorem Upd.set {g : Nat} {a b : World} (h : Upd g a b) (i : Nat) (v : Value) : Upd g a (b.setCell ⟨g, i, none⟩ v) :=
  ⟨h.below.setCell (Nat.le_refl _) v, fun j hj hn => (Below.heap_setCell _ _ _ _ (by simpa using hn)).trans (h.keep j hj hn)⟩
theorem Upd.drew {g : Nat} {a b : World} (h : Upd g a b) : Upd g a b.drew := ⟨h.below.drew, h.keep⟩

theorem dec_size {p t : ByteArray} {pl : Bool} (h : t.data.toList = decB pl p.data.toList) : t.size ≤ p.size := by
  have := de_len pl p.data.toList
  rw [← h] at this
  simpa [size_len] using this
theorem ba_ext {a b : ByteArray} (h : a.data.toList = b.data.toList) : a = b := by
  cases a; cases b; congr; exact Array.toList_inj.1 h

/-- what setPath (m 1) and setFragment (m 64) leave of p -/
def PathOf (m : Nat) (p pa rp : ByteArray) : Prop := pa.data.toList = decB false p.data.toList ∧ ((rp = ⟨#[]⟩ ∧ escF m pa.data.toList = p.data.toList) ∨ (rp = p ∧ escF m pa.data.toList ≠ p.data.toList))

set_option maxHeartbeats 2000000 in
set_option maxRecDepth 100000 in
theorem setPath_any (g : Nat) (u : UrlB) (p : ByteArray) (w : World) (hT : Tab w) (hg0 : 0 < g) (hg : w.heap[g]? = some (urlObj u)) (hp : pctOk p.data.toList = true) (hz : p.size ≤ 40000000000000) :
    Calls Tryz.prog 77 #[ptr g, .string p] w fun e w' => e = .returned .nilIface ∧ ∃ pa rp, Hid (PathOf 1 p pa rp) ∧ w'.heap[g]? = some (urlObj { u with pa := pa, rp := rp }) ∧ Upd g w w' := by
  have hlt : g < w.heap.size := (Array.getElem?_eq_some_iff.1 hg).1
  have HG := Lib.hid hg
  have HT := Lib.hid hT
  have HP := Lib.hid hp
  clear hg hT hp
  go_enter Tryz.func77, Tryz.ntmps77
  go_wp2_with (fail)
  refine (unescape_any p 1 w HT.out (by decide) (by decide) (by decide) (by omega) HP.out).mono ?_
  rintro e w1 ⟨t, rfl, ht, hb1⟩
  have k1 := blk_below HG.out hb1 hlt
  have hts := dec_size ht.out
  have HU1 := Lib.hid (Upd.of hb1 (Nat.le_of_lt hlt))
  have HT1 := Lib.hid (HT.out.up hb1 (by omega))
  have K1 := Lib.hid k1
  have c4 : w1.cell? ⟨g, 4, none⟩ = some (.string u.pa) := blk_cell k1 4
  have c7 : w1.cell? ⟨g, 7, none⟩ = some (.string u.rp) := blk_cell k1 7
  have f4 : w1.frozen? ⟨g, 4, none⟩ = false := blk_frozen k1 4
  have f7 : w1.frozen? ⟨g, 7, none⟩ = false := blk_frozen k1 7
  clear k1 hb1 HG HT
  go_wp2_with (fail)
  have hU2 : Upd g w (w1.setCell ⟨g, 4, none⟩ (.string t)) := HU1.out.set 4 _
  have k2 : (w1.setCell ⟨g, 4, none⟩ (.string t)).heap[g]? = some (urlObj { u with pa := t }) := blk_set K1.out 4 _
  have hT2 : Tab (w1.setCell ⟨g, 4, none⟩ (.string t)) := HT1.out.up ((Below.refl g w1).setCell (Nat.le_refl _) _) hg0
  clear K1 HU1 HT1 c4 c7 f4 f7
  generalize w1.setCell ⟨g, 4, none⟩ (.string t) = W at *
  have hlt2 : g < W.heap.size := (Array.getElem?_eq_some_iff.1 k2).1
  refine (escape_any t 1 W hT2 (by decide) (by omega)).mono ?_
  rintro e w3 ⟨q, rfl, hq, hb3⟩
  have k3 := blk_below k2 hb3 hlt2
  have hU3 := hU2.trans (Upd.of hb3 (Nat.le_of_lt hlt2))
  have c7 : w3.cell? ⟨g, 7, none⟩ = some (.string u.rp) := blk_cell k3 7
  have f7 : w3.frozen? ⟨g, 7, none⟩ = false := blk_frozen k3 7
  have K3 := Lib.hid k3
  have HU3 := Lib.hid hU3
  clear k2 k3 hU2 hU3 hT2 hb3
  cases hcmp : (p.toList == q.toList)
  · have HC := Lib.hid hcmp
    go_wp2
    go_ret
    refine ⟨rfl, t, p, ⟨ht.out, Or.inr ⟨rfl, ?_⟩⟩, blk_set K3.out 7 _, HU3.out.set 7 _⟩
    intro h
    rw [← hq.out] at h
    have := HC.out
    rw [toList_data, toList_data, h] at this
    simp at this
  · have HC := Lib.hid hcmp
    go_wp2
    go_ret
    refine ⟨rfl, t, ⟨#[]⟩, ⟨ht.out, Or.inl ⟨rfl, ?_⟩⟩, blk_set K3.out 7 _, HU3.out.set 7 _⟩
    rw [← hq.out]
    have := HC.out
    rw [toList_data, toList_data] at this
    exact (eq_of_beq this).symm
set_option maxHeartbeats 2000000 in
set_option maxRecDepth 100000 in
theorem setFragment_any (g : Nat) (u : UrlB) (p : ByteArray) (w : World) (hT : Tab w) (hg0 : 0 < g) (hg : w.heap[g]? = some (urlObj u)) (hp : pctOk p.data.toList = true) (hz : p.size ≤ 40000000000000) :
    Calls Tryz.prog 58 #[ptr g, .string p] w fun e w' => e = .returned .nilIface ∧ ∃ pa rp, Hid (PathOf 64 p pa rp) ∧ w'.heap[g]? = some (urlObj { u with fr := pa, rf := rp }) ∧ Upd g w w' := by
  have hlt : g < w.heap.size := (Array.getElem?_eq_some_iff.1 hg).1
  have HG := Lib.hid hg
  have HT := Lib.hid hT
  have HP := Lib.hid hp
  clear hg hT hp
  go_enter Tryz.func58, Tryz.ntmps58
  go_wp2_with (fail)
  refine (unescape_any p 64 w HT.out (by decide) (by decide) (by decide) (by omega) HP.out).mono ?_
  rintro e w1 ⟨t, rfl, ht, hb1⟩
  have k1 := blk_below HG.out hb1 hlt
  have hts := dec_size ht.out
  have HU1 := Lib.hid (Upd.of hb1 (Nat.le_of_lt hlt))
  have HT1 := Lib.hid (HT.out.up hb1 (by omega))
  have K1 := Lib.hid k1
  have c4 : w1.cell? ⟨g, 5, none⟩ = some (.string u.fr) := blk_cell k1 5
  have c7 : w1.cell? ⟨g, 8, none⟩ = some (.string u.rf) := blk_cell k1 8
  have f4 : w1.frozen? ⟨g, 5, none⟩ = false := blk_frozen k1 5
  have f7 : w1.frozen? ⟨g, 8, none⟩ = false := blk_frozen k1 8
  clear k1 hb1 HG HT
  go_wp2_with (fail)
  have hU2 : Upd g w (w1.setCell ⟨g, 5, none⟩ (.string t)) := HU1.out.set 5 _
  have k2 : (w1.setCell ⟨g, 5, none⟩ (.string t)).heap[g]? = some (urlObj { u with fr := t }) := blk_set K1.out 5 _
  have hT2 : Tab (w1.setCell ⟨g, 5, none⟩ (.string t)) := HT1.out.up ((Below.refl g w1).setCell (Nat.le_refl _) _) hg0
  clear K1 HU1 HT1 c4 c7 f4 f7
  generalize w1.setCell ⟨g, 5, none⟩ (.string t) = W at *
  have hlt2 : g < W.heap.size := (Array.getElem?_eq_some_iff.1 k2).1
  refine (escape_any t 64 W hT2 (by decide) (by omega)).mono ?_
  rintro e w3 ⟨q, rfl, hq, hb3⟩
  have k3 := blk_below k2 hb3 hlt2
  have hU3 := hU2.trans (Upd.of hb3 (Nat.le_of_lt hlt2))
  have c7 : w3.cell? ⟨g, 8, none⟩ = some (.string u.rf) := blk_cell k3 8
  have f7 : w3.frozen? ⟨g, 8, none⟩ = false := blk_frozen k3 8
  have K3 := Lib.hid k3
  have HU3 := Lib.hid hU3
  clear k2 k3 hU2 hU3 hT2 hb3
  cases hcmp : (p.toList == q.toList)
  · have HC := Lib.hid hcmp
    go_wp2
    go_ret
    refine ⟨rfl, t, p, ⟨ht.out, Or.inr ⟨rfl, ?_⟩⟩, blk_set K3.out 8 _, HU3.out.set 8 _⟩
    intro h
    rw [← hq.out] at h
    have := HC.out
    rw [toList_data, toList_data, h] at this
    simp at this
  · have HC := Lib.hid hcmp
    go_wp2
    go_ret
    refine ⟨rfl, t, ⟨#[]⟩, ⟨ht.out, Or.inl ⟨rfl, ?_⟩⟩, blk_set K3.out 8 _, HU3.out.set 8 _⟩
    rw [← hq.out]
    have := HC.out
    rw [toList_data, toList_data] at this
    exact (eq_of_beq this).symm

/-- charsB's bytes -/
theorem ch_bytes {more : L} : ∀ (l : L), charsB more true l = true → ∀ c ∈ l, c.toNat = 37 ∨ okN more c.toNat = true
  | [], _, c, hc => by simp at hc
  | x :: r, h, c, hc => by
    by_cases h37 : x.toNat = 37
    · match r with
      | [] => rw [ch_short _ _ _ [] h37 (by simp)] at h; exact absurd h (by decide)
      | [_] => rw [ch_short _ _ _ [_] h37 (by simp)] at h; exact absurd h (by decide)
      | a :: b :: r' =>
        rw [ch_pct _ _ _ _ _ _ h37] at h
        simp only [Bool.true_and, Bool.and_eq_true] at h
        have hx : ∀ y : UInt8, isHex y = true → okN more y.toNat = true := by
          intro y hy
          apply ok1
          have h1 : 0 ≤ hexN y.toNat := isHex_le hy
          have h2 : alphaN y.toNat = true ∨ digitN y.toNat = true := by
            unfold hexN at h1
            unfold alphaN digitN
            rw [decide_eq_true_iff, decide_eq_true_iff]
            split at h1
            · omega
            · split at h1
              · omega
              · split at h1 <;> omega
          unfold unresN
          rcases h2 with h2 | h2 <;> rw [h2] <;> simp
        simp only [List.mem_cons] at hc
        rcases hc with rfl | rfl | rfl | hc
        · exact Or.inl h37
        · exact Or.inr (hx _ h.1.1)
        · exact Or.inr (hx _ h.1.2)
        · exact ch_bytes r' h.2 c hc
    · rw [ch_else _ _ _ _ h37, Bool.and_eq_true] at h
      rw [List.mem_cons] at hc
      rcases hc with rfl | hc
      · exact Or.inr h.1
      · exact ch_bytes r h.2 c hc
termination_by l => l.length
theorem ve_path : ∀ n, n < 256 → (n = 37 ∨ okN [58, 64, 47] n = true) → veN 1 n = true := by decide +kernel
theorem ve_frag : ∀ n, n < 256 → (n = 37 ∨ okN [58, 64, 47, 63] n = true) → veN 64 n = true := by decide +kernel
theorem veL_path {l : L} (h : charsB [58, 64, 47] true l = true) : veL 1 l = true := List.all_eq_true.2 fun c hc => ve_path _ c.toNat_lt (ch_bytes l h c hc)
theorem veL_frag {l : L} (h : charsB [58, 64, 47, 63] true l = true) : veL 64 l = true := List.all_eq_true.2 fun c hc => ve_frag _ c.toNat_lt (ch_bytes l h c hc)

/-- the path that EscapedPath hands back -/
def PathQ (p pa rp : ByteArray) : Prop := (PathOf 1 p pa rp ∧ p.data.toList ≠ [37, 50, 65]) ∨ (p = ⟨#[42]⟩ ∧ pa = ⟨#[42]⟩ ∧ rp = ⟨#[]⟩)
theorem ba_nil {a : ByteArray} (h : a.data.toList = []) : a = ⟨#[]⟩ := ba_ext h

set_option maxHeartbeats 2000000 in
set_option maxRecDepth 100000 in
theorem escPath_any (g : Nat) (u : UrlB) (p : ByteArray) (w : World) (hT : Tab w) (hg : w.heap[g]? = some (urlObj u)) (hp : charsB [58, 64, 47] true p.data.toList = true) (hz : p.size ≤ 40000000000000) (hq : PathQ p u.pa u.rp) :
    Calls Tryz.prog 66 #[ptr g] w fun e w' => ∃ q : ByteArray, e = .returned (.string q) ∧ q = p ∧ Below w.heap.size w w' := by
  have hlt : g < w.heap.size := (Array.getElem?_eq_some_iff.1 hg).1
  have c4 : w.cell? ⟨g, 4, none⟩ = some (.string u.pa) := blk_cell hg 4
  have c7 : w.cell? ⟨g, 7, none⟩ = some (.string u.rp) := blk_cell hg 7
  have HG := Lib.hid hg
  have HT := Lib.hid hT
  have HV := Lib.hid (veL_path hp)
  have HP := Lib.hid (po_ch _ hp)
  have hb0 := Below.refl w.heap.size w
  have d42 : decB false [42] = [42] := by decide
  clear hg hT hp
  generalize u.pa = pa at *
  generalize u.rp = rp at *
  rcases hq with ⟨⟨hd, h | h⟩, h2A⟩ | ⟨rfl, rfl, rfl⟩
  · obtain ⟨rfl, he⟩ := h
    have hps : pa.size ≤ p.size := dec_size hd
    have hst : (pa.toList == [42]) = false := by
      rw [toList_data, Bool.eq_false_iff]
      intro h
      rw [eq_of_beq h] at he
      exact h2A (by rw [← he]; decide +kernel)
    have HE := Lib.hid he
    clear he hd h2A
    go_enter Tryz.func66, Tryz.ntmps66
    go_wp2_with (fail)
    refine (escape_any pa 1 w HT.out (by decide) (by omega)).mono ?_
    rintro e w1 ⟨q, rfl, hq, hb1⟩
    have HQ := Lib.hid (ba_ext (hq.out.trans HE.out))
    clear hq
    go_wp2
    go_ret
    exact ⟨q, rfl, HQ.out, hb1⟩
  · obtain ⟨rfl, he⟩ := h
    have hne : rp.data.toList ≠ [] := by
      intro h0
      rw [h0] at hd he
      have : pa.data.toList = [] := hd
      rw [this] at he
      exact he rfl
    have hn1 : (rp.toList == []) = false := by rw [toList_data, Bool.eq_false_iff]; intro h; exact hne (eq_of_beq h)
    have hn2 : rp.toList.isEmpty = false := by rw [toList_data, Bool.eq_false_iff]; intro h; exact hne (List.isEmpty_iff.1 h)
    have HD := Lib.hid hd
    clear he hd hne h2A
    go_enter Tryz.func66, Tryz.ntmps66
    go_wp2_with (go_at_call 98; refine (validEnc_any rp 1 w HT.out (by decide) (by omega) HV.out).mono ?_; rintro e w1 ⟨rfl, rfl⟩)
    refine (unescape_any rp 1 w HT.out (by decide) (by decide) (by decide) (by omega) HP.out).mono ?_
    rintro e w1 ⟨t, rfl, ht, hb1⟩
    have ht2 : t = pa := ba_ext (ht.out.trans HD.out.symm)
    have e4 : w1.cell? ⟨g, 4, none⟩ = some (.string pa) := (hb1.cell (p := ⟨g, 4, none⟩) hlt).trans c4
    have e7 : w1.cell? ⟨g, 7, none⟩ = some (.string rp) := (hb1.cell (p := ⟨g, 7, none⟩) hlt).trans c7
    subst ht2
    clear c4 c7 ht
    go_wp2
    go_ret
    exact ⟨_, rfl, rfl, hb1⟩
  · have hst : (((⟨#[42]⟩ : ByteArray).toList) == [42]) = true := by decide +kernel
    go_enter Tryz.func66, Tryz.ntmps66
    go_wp2
    go_ret
    exact ⟨_, rfl, rfl, hb0⟩
end Go.Proofs.YtfkgkkmcaaefnaaGreatDoor.Wk
