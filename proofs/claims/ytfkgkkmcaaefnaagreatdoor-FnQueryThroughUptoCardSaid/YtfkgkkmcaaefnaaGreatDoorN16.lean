/-
  FnQueryThrough: for all scheme and host numbers, every URL and every list of pairs that are together of bulk at most 1048576 the law answers true. Conditions: the row's own (that bulk; the listed package-level variables hold what the program's text lays, which the card ties).
-/
import Derived.Test.YtfkgkkmcaaefnaaGreatDoorCards
import Derived.Test.YtfkgkkmcaaefnaaGreatDoorTie
import Derived.Test.YtfkgkkmcaaefnaaGreatDoorJ0
import Derived.Test.YtfkgkkmcaaefnaaGreatDoorN15
import Derived.SevenTiedAt
import Derived.Stop.Joined
import Derived.ChangeMaps5
import Derived.ProofKit
import Derived.SliceStrings
import Derived.ChangeSame
import Derived.Deep.DeepHandedRow
set_option linter.unusedSimpArgs false
set_option linter.unusedVariables false
namespace Go.Proofs.YtfkgkkmcaaefnaaGreatDoor.FnQueryThrough
open Go.ChangeShapes Go.WideShapes Go.ChangeAt Go.RowKit Go.ChangeMaps
open Go.Proofs.YtfkgkkmcaaefnaaGreatDoor.Wk Go.Proofs.YtfkgkkmcaaefnaaGreatDoor.Pu

theorem laidOut : laidOutB Tryz.prog = true := by kernel_rfl
theorem cells39 : Tryz.prog.cellsOf 9 = 1 := by kernel_rfl
theorem cells4 : Tryz.prog.cellsOf 4 = 1 := by kernel_rfl
theorem cellsSl : Tryz.prog.cellsOf 39 = 1 := by kernel_rfl
theorem cells73 : Tryz.prog.cellsOf 73 = 2 := by kernel_rfl
theorem cells28 : Tryz.prog.cellsOf 28 = 16 := by kernel_rfl

section
variable {H : Type} {enc : TypeId × Value → H} {W : World} {base : Nat} {spare : Nat → Bool} {held : Bool}

theorem bulk_mem {d : DataW H} {ds : List (DataW H)} (h : d ∈ ds) : Rows.uptoBulk d ≤ Rows.uptoBulkAll ds := by
  induction ds with
  | nil => cases h
  | cons x r ih =>
    rw [Rows.uptoBulkAll]
    rcases List.mem_cons.1 h with rfl | h
    · omega
    · have := ih h; omega
theorem bulk_pos (d : DataW H) : 1 ≤ Rows.uptoBulk d := by
  cases d with
  | lit x => cases x <;> simp [Rows.uptoBulk]
  | _ => simp [Rows.uptoBulk]
theorem bulk_len (ds : List (DataW H)) : ds.length ≤ Rows.uptoBulkAll ds := by
  induction ds with
  | nil => exact Nat.zero_le _
  | cons x r ih =>
    have := bulk_pos x
    rw [Rows.uptoBulkAll, List.length_cons]
    omega
theorem exists_list {α : Type} (P : Nat → α → Prop) : ∀ n : Nat, (∀ i, i < n → ∃ a, P i a) → ∃ l : List α, l.length = n ∧ ∀ i a, l[i]? = some a → P i a
  | 0, _ => ⟨[], rfl, fun i a h => by cases h⟩
  | n + 1, h => by
    obtain ⟨l, h1, h2⟩ := exists_list P n (fun i hi => h i (by omega))
    obtain ⟨a, ha⟩ := h n (by omega)
    refine ⟨l ++ [a], by simp [h1], fun i x hx => ?_⟩
    rw [List.getElem?_append] at hx
    split at hx
    · exact h2 i x hx
    · rename_i hi
      have h0 : i - l.length = 0 := by
        have := (List.getElem?_eq_some_iff.1 hx).1
        simp at this
        omega
      rw [h0] at hx
      cases hx
      have : i = n := by omega
      rw [this]; exact ha

theorem addr_add2 (a : Addr) (i j : Nat) : (a.add i).add j = a.add (i + j) := by
  unfold Addr.add
  by_cases hi : i = 0
  · simp [hi]
  · by_cases hj : j = 0
    · simp [hj]
    · rw [if_neg hj, if_neg hi, if_neg (by omega), Nat.add_assoc]
/-- a slice of strings that is read -/
theorem open_strSl {fuel : Nat} {c : Value} {y : DataW H × List MemPlace} (h : DataW.trod enc Tryz.prog W base spare held fuel 39 [c] = some y) (hb : Rows.uptoBulk y.1 ≤ 1048576) :
    ∃ (ys : List ByteArray) (ao : Option Addr) (cp : Nat), c = .slice ao ys.length cp ∧ StrSl W c ys ∧ ys.length ≤ 1048576 ∧ ∀ s ∈ ys, s.size ≤ 1048576 := by
  rcases open_strings Tryz.underlying39 Tryz.underlying9 cells39 h with ⟨h, _⟩ | ⟨a, len, cap, ss, h, _, hlc, hcm, hsl, hx, hcell, hsz⟩
  · cases h
    exact ⟨[], none, 0, rfl, Or.inl ⟨rfl, none, 0, rfl⟩, Nat.zero_le _, fun s hs => by cases hs⟩
  · cases h
    have hl : len ≤ ss.length := by rw [hsl]; split <;> omega
    have hxl : (ss.take len).length = len := by rw [List.length_take]; omega
    have hd : y.1 = DataW.slice (strs (ss.take len)) (strs (ss.drop len)) := (congrArg Prod.fst hx)
    rw [hd, Rows.uptoBulk] at hb
    refine ⟨ss.take len, some a, cap, by rw [hxl], ?_, ?_, ?_⟩
    · by_cases h0 : len = 0
      · subst h0
        exact Or.inl ⟨by simp, some a, cap, rfl⟩
      · obtain ⟨bk, o, sp⟩ := a
        obtain rfl : sp = none := by
          have := World.cell?_spot (hcell 0 (by omega))
          rwa [show (⟨bk, o, sp⟩ : Addr).add 0 = ⟨bk, o, sp⟩ from rfl] at this
        refine Or.inr ⟨bk, o, cap, by rw [hxl], World.block_lt_of_cell? _ _ (hcell 0 (by omega)), fun j x hj => ?_⟩
        rw [List.getElem?_take] at hj
        split at hj
        · rename_i hjl
          have := hcell j (by omega)
          rw [addr_add, List.getD_eq_getElem?_getD, hj] at this
          exact this
        · cases hj
    · have := bulk_len (H := H) (strs (ss.take len))
      unfold strs at this
      rw [List.length_map] at this
      unfold strs at hb
      omega
    · intro s hs
      have h1 : (DataW.lit (H := H) (.string s.data.toList)) ∈ strs (ss.take len) := List.mem_map.2 ⟨s, hs, rfl⟩
      have h2 := bulk_mem h1
      rw [Rows.uptoBulk, size_len] at h2
      omega

/-- a pair that is read -/
theorem open_pair {fuel : Nat} {c0 c1 : Value} {y : DataW H × List MemPlace} (h : DataW.trod enc Tryz.prog W base spare held fuel 73 [c0, c1] = some y) (hb : Rows.uptoBulk y.1 ≤ 1048576) :
    ∃ (p : PairB) (ao : Option Addr) (cp : Nat), c0 = .string p.1 ∧ c1 = .slice ao p.2.length cp ∧ StrSl W c1 p.2 ∧ p.1.size ≤ 1048576 ∧ p.2.length ≤ 1048576 ∧ ∀ s ∈ p.2, s.size ≤ 1048576 := by
  obtain ⟨y0, y1, n, rfl, hl, h0, h1⟩ := trod_struct2 Tryz.underlying73 h
  have h0' : DataW.trod enc Tryz.prog W base spare held n 9 (([c0, c1].drop 0).take (Tryz.prog.cellsOf 9)) = some y0 := h0
  have h1' : DataW.trod enc Tryz.prog W base spare held n 39 (([c0, c1].drop 1).take (Tryz.prog.cellsOf 39)) = some y1 := h1
  rw [cells39] at h0'
  rw [cellsSl] at h1'
  rw [Rows.uptoBulk, Rows.uptoBulkAll, Rows.uptoBulkAll, Rows.uptoBulkAll] at hb
  obtain ⟨s, e0, rfl, _⟩ := DataW.trod_string Tryz.underlying9 h0'
  cases e0
  obtain ⟨ys, ao, cp, e1, e2, e3, e4⟩ := open_strSl h1' (by omega)
  refine ⟨(s, ys), ao, cp, rfl, e1, e2, ?_, e3, e4⟩
  simp only [Rows.uptoBulk] at hb
  rw [size_len] at hb
  show s.size ≤ _
  omega

/-- the list of pairs that is read -/
theorem open_pairs {fuel : Nat} {ao : Option Addr} {len cap : Nat} {x : DataW H × List MemPlace} (h : DataW.trod enc Tryz.prog W base spare held fuel 44 [.slice ao len cap] = some x) (hb : Rows.uptoBulk x.1 ≤ 1048576) :
    ∃ l : List PairB, PArg W (.slice ao len cap) l ∧ l.length ≤ 1048576 ∧ ∀ p ∈ l, p.1.size ≤ 1048576 ∧ p.2.length ≤ 1048576 ∧ ∀ y ∈ p.2, y.size ≤ 1048576 := by
  have hnil : len = 0 → ∃ l : List PairB, PArg W (.slice ao len cap) l ∧ l.length ≤ 1048576 ∧ ∀ p ∈ l, p.1.size ≤ 1048576 ∧ p.2.length ≤ 1048576 ∧ ∀ y ∈ p.2, y.size ≤ 1048576 := by
    intro h0
    subst h0
    exact ⟨[], Or.inl ⟨rfl, ao, cap, rfl⟩, Nat.zero_le _, fun p hp => by cases hp⟩
  rcases DataW.trod_slice Tryz.underlying44 h with ⟨h, _⟩ | ⟨a, len', cap', elems, rest, n, _, h, hx, hbs, hlc, hcm, hel, hat, _, _⟩
  · simp only [List.cons.injEq, Value.slice.injEq, and_true] at h
    exact hnil h.2.1
  · simp only [List.cons.injEq, Value.slice.injEq, and_true] at h
    obtain ⟨rfl, rfl, rfl⟩ := h
    by_cases h0 : len = 0
    · exact hnil h0
    · rw [hx, Rows.uptoBulk] at hb
      have hlen : len ≤ 1048576 := by
        have := bulk_len (elems.map (·.1))
        rw [List.length_map, hel] at this
        omega
      have each : ∀ i, i < len → ∃ p : PairB, (W.cell? (a.add (i * 2)) = some (.string p.1) ∧ ∃ (ao : Option Addr) (cp : Nat), W.cell? (a.add (i * 2 + 1)) = some (.slice ao p.2.length cp) ∧ StrSl W (.slice ao p.2.length cp) p.2) ∧ p.1.size ≤ 1048576 ∧ p.2.length ≤ 1048576 ∧ ∀ s ∈ p.2, s.size ≤ 1048576 := by
        intro i hi
        have h1 := hat i hi
        have hie : i < elems.length := by omega
        rw [cells73, List.getElem?_eq_getElem hie] at h1
        obtain ⟨cs, hcs, h2⟩ := Option.bind_eq_some_iff.1 h1
        obtain ⟨_, hlcs, hcc⟩ := World.cells?_some hcs
        match cs, hlcs with
        | [c0, c1], _ =>
          have hby : Rows.uptoBulk (elems[i]).1 ≤ 1048576 := by
            have := bulk_mem (List.mem_map.2 ⟨elems[i], List.getElem_mem hie, rfl⟩ : (elems[i]).1 ∈ elems.map (·.1))
            omega
          obtain ⟨p, ao, cp, e1, e2, e3, e4⟩ := open_pair h2 hby
          have k0 := hcc 0 (by omega)
          have k1 := hcc 1 (by omega)
          rw [addr_add2, Nat.add_zero] at k0
          rw [addr_add2] at k1
          exact ⟨p, ⟨k0.trans (congrArg some e1), ao, cp, k1.trans (congrArg some e2), by rw [← e2]; exact e3⟩, e4⟩
      obtain ⟨l, hl1, hl2⟩ := exists_list _ len each
      obtain ⟨bk, o, sp⟩ := a
      obtain rfl : sp = none := by
        obtain ⟨p, ⟨k0, _⟩, _⟩ := each 0 (by omega)
        have := World.cell?_spot k0
        rwa [show (⟨bk, o, sp⟩ : Addr).add (0 * 2) = ⟨bk, o, sp⟩ from rfl] at this
      refine ⟨l, Or.inr ⟨bk, o, cap - len, by rw [hl1, Nat.add_sub_cancel' hlc], ?_, fun j p hj => ?_⟩, by omega, fun p hp => ?_⟩
      · obtain ⟨p, ⟨k0, _⟩, _⟩ := each 0 (by omega)
        exact World.block_lt_of_cell? _ _ k0
      · obtain ⟨⟨k0, ao, cp, k1, k2⟩, _⟩ := hl2 j p hj
        rw [addr_add] at k0 k1
        exact ⟨k0, ao, cp, k1, k2⟩
      · obtain ⟨j, hj⟩ := List.getElem?_of_mem hp
        exact (hl2 j p hj).2
theorem list16 {α : Type} : ∀ {l : List α}, l.length = 16 → ∃ c0 c1 c2 c3 c4 c5 c6 c7 c8 c9 c10 c11 c12 c13 c14 c15, l = [c0, c1, c2, c3, c4, c5, c6, c7, c8, c9, c10, c11, c12, c13, c14, c15]
  | [c0, c1, c2, c3, c4, c5, c6, c7, c8, c9, c10, c11, c12, c13, c14, c15], _ => ⟨c0, c1, c2, c3, c4, c5, c6, c7, c8, c9, c10, c11, c12, c13, c14, c15, rfl⟩
/-- the URL that is read -/
theorem open_url {fuel : Nat} {v : Value} {x : DataW H × List MemPlace} (h : DataW.trod enc Tryz.prog W base spare held fuel 28 v.cells.toList = some x) (hb : Rows.uptoBulk x.1 ≤ 1048576) :
    ∃ (u : UrlB) (hu : Bool) (un : ByteArray) (ps : Bool) (pw ep ef : ByteArray), v = .agg (toldCells u hu un ps pw ep ef) ∧ u.sc.size ≤ 1048576 ∧ u.op.size ≤ 1048576 ∧ un.size ≤ 1048576 ∧ pw.size ≤ 1048576 ∧ u.ho.size ≤ 1048576 ∧ u.pa.size ≤ 1048576 ∧ u.rp.size ≤ 1048576 ∧ u.rq.size ≤ 1048576 ∧ u.fr.size ≤ 1048576 ∧ u.rf.size ≤ 1048576 ∧ ep.size ≤ 1048576 ∧ ef.size ≤ 1048576 := by
  obtain ⟨xs, n, _, rfl, hl, hxl, hf⟩ := DataW.trod_struct Tryz.underlying28 h
  rw [cells28] at hl
  have hxl' : xs.length = 16 := hxl
  rw [Rows.uptoBulk] at hb
  have fs : ∀ (i : Nat), i < 16 → DataW.trod enc Tryz.prog W base spare held n 9 ((v.cells.toList.drop i).take 1) = xs[i]? → ∃ s : ByteArray, v.cells.toList[i]? = some (.string s) ∧ s.size ≤ 1048576 := by
    intro i hi h1
    rw [List.getElem?_eq_getElem (by omega : i < xs.length)] at h1
    obtain ⟨s, e1, e2, _⟩ := DataW.trod_string Tryz.underlying9 h1
    have h2 := bulk_mem (List.mem_map.2 ⟨xs[i], List.getElem_mem (by omega), rfl⟩ : (xs[i]).1 ∈ xs.map (·.1))
    rw [e2, Rows.uptoBulk, size_len] at h2
    refine ⟨s, ?_, by omega⟩
    have h3 := congrArg (fun l : List Value => l[0]?) e1
    simp only [List.getElem?_take_of_lt (Nat.zero_lt_one), List.getElem?_drop, Nat.add_zero] at h3
    exact h3
  have fb : ∀ (i : Nat), i < 16 → DataW.trod enc Tryz.prog W base spare held n 4 ((v.cells.toList.drop i).take 1) = xs[i]? → ∃ s : Bool, v.cells.toList[i]? = some (.bool s) := by
    intro i hi h1
    rw [List.getElem?_eq_getElem (by omega : i < xs.length)] at h1
    obtain ⟨s, e1, e2⟩ := DataW.trod_bool Tryz.underlying4 h1
    have h3 := congrArg (fun l : List Value => l[0]?) e1
    simp only [List.getElem?_take_of_lt (Nat.zero_lt_one), List.getElem?_drop, Nat.add_zero] at h3
    exact ⟨s, h3⟩
  obtain ⟨s0, e0, z0⟩ := fs 0 (by decide) (by have k0 : DataW.trod enc Tryz.prog W base spare held n 9 ((v.cells.toList.drop 0).take (Tryz.prog.cellsOf 9)) = xs[0]? := hf 0 _ rfl; rwa [cells39] at k0)
  obtain ⟨s1, e1, z1⟩ := fs 1 (by decide) (by have k0 : DataW.trod enc Tryz.prog W base spare held n 9 ((v.cells.toList.drop 1).take (Tryz.prog.cellsOf 9)) = xs[1]? := hf 1 _ rfl; rwa [cells39] at k0)
  obtain ⟨s2, e2⟩ := fb 2 (by decide) (by have k0 : DataW.trod enc Tryz.prog W base spare held n 4 ((v.cells.toList.drop 2).take (Tryz.prog.cellsOf 4)) = xs[2]? := hf 2 _ rfl; rwa [cells4] at k0)
  obtain ⟨s3, e3, z3⟩ := fs 3 (by decide) (by have k0 : DataW.trod enc Tryz.prog W base spare held n 9 ((v.cells.toList.drop 3).take (Tryz.prog.cellsOf 9)) = xs[3]? := hf 3 _ rfl; rwa [cells39] at k0)
  obtain ⟨s4, e4⟩ := fb 4 (by decide) (by have k0 : DataW.trod enc Tryz.prog W base spare held n 4 ((v.cells.toList.drop 4).take (Tryz.prog.cellsOf 4)) = xs[4]? := hf 4 _ rfl; rwa [cells4] at k0)
  obtain ⟨s5, e5, z5⟩ := fs 5 (by decide) (by have k0 : DataW.trod enc Tryz.prog W base spare held n 9 ((v.cells.toList.drop 5).take (Tryz.prog.cellsOf 9)) = xs[5]? := hf 5 _ rfl; rwa [cells39] at k0)
  obtain ⟨s6, e6, z6⟩ := fs 6 (by decide) (by have k0 : DataW.trod enc Tryz.prog W base spare held n 9 ((v.cells.toList.drop 6).take (Tryz.prog.cellsOf 9)) = xs[6]? := hf 6 _ rfl; rwa [cells39] at k0)
  obtain ⟨s7, e7, z7⟩ := fs 7 (by decide) (by have k0 : DataW.trod enc Tryz.prog W base spare held n 9 ((v.cells.toList.drop 7).take (Tryz.prog.cellsOf 9)) = xs[7]? := hf 7 _ rfl; rwa [cells39] at k0)
  obtain ⟨s8, e8, z8⟩ := fs 8 (by decide) (by have k0 : DataW.trod enc Tryz.prog W base spare held n 9 ((v.cells.toList.drop 8).take (Tryz.prog.cellsOf 9)) = xs[8]? := hf 8 _ rfl; rwa [cells39] at k0)
  obtain ⟨s9, e9⟩ := fb 9 (by decide) (by have k0 : DataW.trod enc Tryz.prog W base spare held n 4 ((v.cells.toList.drop 9).take (Tryz.prog.cellsOf 4)) = xs[9]? := hf 9 _ rfl; rwa [cells4] at k0)
  obtain ⟨s10, e10, z10⟩ := fs 10 (by decide) (by have k0 : DataW.trod enc Tryz.prog W base spare held n 9 ((v.cells.toList.drop 10).take (Tryz.prog.cellsOf 9)) = xs[10]? := hf 10 _ rfl; rwa [cells39] at k0)
  obtain ⟨s11, e11, z11⟩ := fs 11 (by decide) (by have k0 : DataW.trod enc Tryz.prog W base spare held n 9 ((v.cells.toList.drop 11).take (Tryz.prog.cellsOf 9)) = xs[11]? := hf 11 _ rfl; rwa [cells39] at k0)
  obtain ⟨s12, e12, z12⟩ := fs 12 (by decide) (by have k0 : DataW.trod enc Tryz.prog W base spare held n 9 ((v.cells.toList.drop 12).take (Tryz.prog.cellsOf 9)) = xs[12]? := hf 12 _ rfl; rwa [cells39] at k0)
  obtain ⟨s13, e13⟩ := fb 13 (by decide) (by have k0 : DataW.trod enc Tryz.prog W base spare held n 4 ((v.cells.toList.drop 13).take (Tryz.prog.cellsOf 4)) = xs[13]? := hf 13 _ rfl; rwa [cells4] at k0)
  obtain ⟨s14, e14, z14⟩ := fs 14 (by decide) (by have k0 : DataW.trod enc Tryz.prog W base spare held n 9 ((v.cells.toList.drop 14).take (Tryz.prog.cellsOf 9)) = xs[14]? := hf 14 _ rfl; rwa [cells39] at k0)
  obtain ⟨s15, e15, z15⟩ := fs 15 (by decide) (by have k0 : DataW.trod enc Tryz.prog W base spare held n 9 ((v.cells.toList.drop 15).take (Tryz.prog.cellsOf 9)) = xs[15]? := hf 15 _ rfl; rwa [cells39] at k0)
  cases v with
  | agg cs =>
    obtain ⟨c0, c1, c2, c3, c4, c5, c6, c7, c8, c9, c10, c11, c12, c13, c14, c15, hcs⟩ := list16 (show cs.toList.length = 16 from hl)
    rw [show (Value.agg cs).cells.toList = cs.toList from rfl, hcs] at e0
    obtain rfl := Option.some.inj e0
    rw [show (Value.agg cs).cells.toList = cs.toList from rfl, hcs] at e1
    obtain rfl := Option.some.inj e1
    rw [show (Value.agg cs).cells.toList = cs.toList from rfl, hcs] at e2
    obtain rfl := Option.some.inj e2
    rw [show (Value.agg cs).cells.toList = cs.toList from rfl, hcs] at e3
    obtain rfl := Option.some.inj e3
    rw [show (Value.agg cs).cells.toList = cs.toList from rfl, hcs] at e4
    obtain rfl := Option.some.inj e4
    rw [show (Value.agg cs).cells.toList = cs.toList from rfl, hcs] at e5
    obtain rfl := Option.some.inj e5
    rw [show (Value.agg cs).cells.toList = cs.toList from rfl, hcs] at e6
    obtain rfl := Option.some.inj e6
    rw [show (Value.agg cs).cells.toList = cs.toList from rfl, hcs] at e7
    obtain rfl := Option.some.inj e7
    rw [show (Value.agg cs).cells.toList = cs.toList from rfl, hcs] at e8
    obtain rfl := Option.some.inj e8
    rw [show (Value.agg cs).cells.toList = cs.toList from rfl, hcs] at e9
    obtain rfl := Option.some.inj e9
    rw [show (Value.agg cs).cells.toList = cs.toList from rfl, hcs] at e10
    obtain rfl := Option.some.inj e10
    rw [show (Value.agg cs).cells.toList = cs.toList from rfl, hcs] at e11
    obtain rfl := Option.some.inj e11
    rw [show (Value.agg cs).cells.toList = cs.toList from rfl, hcs] at e12
    obtain rfl := Option.some.inj e12
    rw [show (Value.agg cs).cells.toList = cs.toList from rfl, hcs] at e13
    obtain rfl := Option.some.inj e13
    rw [show (Value.agg cs).cells.toList = cs.toList from rfl, hcs] at e14
    obtain rfl := Option.some.inj e14
    rw [show (Value.agg cs).cells.toList = cs.toList from rfl, hcs] at e15
    obtain rfl := Option.some.inj e15
    refine ⟨⟨s0, s1, .pointer none, s6, s7, s11, s10, s8, s12, s9, s13⟩, s2, s3, s4, s5, s14, s15, ?_, z0, z1, z3, z5, z6, z7, z8, z10, z11, z12, z14, z15⟩
    rw [show cs = toldCells ⟨s0, s1, .pointer none, s6, s7, s11, s10, s8, s12, s9, s13⟩ s2 s3 s4 s5 s14 s15 from Array.toList_inj.1 hcs]
  | _ => exact absurd hl (by simp [Value.cells])
end
set_option maxRecDepth 100000 in
theorem contract (H : Type) (enc : TypeId × Value → H) (W : World) (base : Nat) (args : Array Value) (ds gs : List (DataW H)) (before : List MemPlace)
    (hval : ∀ (j : Nat) t v, Tryz.f8.params[j]? = some t → args[j]? = some v → Value.okWide Tryz.prog W .any base t v)
    (hW : DataW.Whole enc Tryz.prog Tryz.f8.params.toList Rows.fnQueryThroughSpec.vars false W args.toList ds gs before) (hk : Rows.uptoSmall H (ds ++ gs) = true) (hL : laidMetH Tryz.prog Rows.fnQueryThroughUptoRow.laid W) :
    Calls Tryz.prog 8 args W fun e W' => ∃ v, e = .returned v ∧ Rows.fnQueryThroughSpec.post enc Tryz.prog Tryz.f8 false true false false W args v W' := by
  have hW' := hW
  obtain ⟨p, q, hA0, hV, rfl, hfz, hnd⟩ := hW
  have hA : DataW.TrodAll enc Tryz.prog W 0 (fun _ => true) true Tryz.f8.params.toList args.toList ds p := hA0
  rw [Tryz.params8] at hA hval
  obtain ⟨v0, vs0, d0, ds0, p0, q0, hargs, rfl, rfl, h0, r0⟩ := trodAll_cons hA
  obtain ⟨v1, vs1, d1, ds1, p1, q1, rfl, rfl, rfl, h1, r1⟩ := trodAll_cons r0
  obtain ⟨v2, vs2, d2, ds2, p2, q2, rfl, rfl, rfl, h2, r2⟩ := trodAll_cons r1
  obtain ⟨v3, vs3, d3, ds3, p3, q3, rfl, rfl, rfl, h3, r3⟩ := trodAll_cons r2
  obtain ⟨rfl, rfl, rfl⟩ := trodAll_nil r3
  obtain rfl : args = #[v0, v1, v2, v3] := by cases args; simp_all
  obtain ⟨rfl, rfl⟩ := trodVars_none hV
  obtain ⟨a, rfl, rfl, rfl, hza⟩ := open_int Tryz.underlying3 (hval 0 3 v0 rfl rfl) h0
  obtain ⟨b, rfl, rfl, rfl, hzb⟩ := open_int Tryz.underlying3 (hval 1 3 v1 rfl rfl) h1
  obtain ⟨ao, len, cap, rfl⟩ := okWide_slice Tryz.underlying44 (hval 3 44 v3 rfl rfl)
  have h2' := h2
  have h3' := h3
  obtain ⟨fuel2, hf2⟩ := h2
  obtain ⟨fuel3, hf3⟩ := h3
  have hbk : Rows.uptoBulkAll [DataW.lit (H := H) (.int .i64 a), DataW.lit (H := H) (.int .i64 b), d2, d3] ≤ 1048576 := by
    have := of_decide_eq_true hk
    simpa using this
  rw [Rows.uptoBulkAll, Rows.uptoBulkAll, Rows.uptoBulkAll, Rows.uptoBulkAll, Rows.uptoBulkAll] at hbk
  obtain ⟨u, hu, un, ps, pw, ep, ef, rfl, z1, z2, z3, z4, z5, z6, z7, z8, z9, z10, z11, z12⟩ := open_url hf2 (show Rows.uptoBulk d2 ≤ 1048576 by omega)
  obtain ⟨l, hl, hll, hlz⟩ := open_pairs hf3 (show Rows.uptoBulk d3 ≤ 1048576 by omega)
  have hlt2 : ∀ x ∈ p2, x.block < W.heap.size := fun y hy => hW'.lt y (by simp [hy])
  have hlt3 : ∀ x ∈ p3, x.block < W.heap.size := fun y hy => hW'.lt y (by simp [hy])
  obtain ⟨hT, a4, a6, hN⟩ := laid_net hL
  refine (FnQueryThrough_any a b u hu un ps pw ep ef (.slice ao len cap) l W hT hN (Nat.le_refl _) hl z1 z2 z3 z4 z5 z6 z7 z8 z9 z10 z11 z12 hll hlz).mono ?_
  rintro e W' ⟨rfl, hB⟩
  exact ⟨_, rfl, [DataW.lit (.int .i64 a), DataW.lit (.int .i64 b), d2, d3], [], _, [], _, [], hW', trodAll_mk1 (shut_bool Tryz.underlying4 _),
    trodAll_mk4 (shut_int Tryz.underlying3 hza) (shut_int Tryz.underlying3 hzb) (Below.trod laidOut (by kernel_rfl) (of_decide_eq_true (by kernel_rfl)) h2' hB hlt2) (Below.trod laidOut (by kernel_rfl) (of_decide_eq_true (by kernel_rfl)) h3' hB hlt3), rfl, hB.frame _, fun h => by cases h⟩

set_option maxRecDepth 100000 in
theorem lifted (os : Os) (started : os.Started) (H : Type) (enc : TypeId × Value → H) (F : Stop.Interp) :
    ReturnsInHanded {} Tryz.checked os 8 .any ((Rows.OpenSpec.upto Rows.fnQueryThroughSpec).preRow enc Tryz.prog Tryz.f8 Rows.fnQueryThroughUptoRow.domain false Rows.fnQueryThroughUptoRow.laid) (((Rows.OpenSpec.upto Rows.fnQueryThroughSpec).at F).post enc Tryz.prog Tryz.f8 false true false false) := by
  have hx : ∃ places, DataW.whole enc Tryz.prog ((laidW os).forCall (fun _ _ => 0) ⟨#[], #[.int .i64 0, .int .i64 0, .agg #[.string ⟨#[]⟩, .string ⟨#[]⟩, .bool false, .string ⟨#[]⟩, .bool false, .string ⟨#[]⟩, .string ⟨#[]⟩, .string ⟨#[]⟩, .string ⟨#[]⟩, .bool false, .string ⟨#[]⟩, .string ⟨#[]⟩, .string ⟨#[]⟩, .bool false, .string ⟨#[]⟩, .string ⟨#[]⟩], .slice none 0 0], []⟩).memory Tryz.f8.params.toList Rows.fnQueryThroughSpec.vars false #[Value.int .i64 0, Value.int .i64 0, Value.agg #[.string ⟨#[]⟩, .string ⟨#[]⟩, .bool false, .string ⟨#[]⟩, .bool false, .string ⟨#[]⟩, .string ⟨#[]⟩, .string ⟨#[]⟩, .string ⟨#[]⟩, .bool false, .string ⟨#[]⟩, .string ⟨#[]⟩, .string ⟨#[]⟩, .bool false, .string ⟨#[]⟩, .string ⟨#[]⟩], Value.slice none 0 0].toList 8 = some ([.lit (.int .i64 0), .lit (.int .i64 0), .agg [.lit (.string []), .lit (.string []), .lit (.bool false), .lit (.string []), .lit (.bool false), .lit (.string []), .lit (.string []), .lit (.string []), .lit (.string []), .lit (.bool false), .lit (.string []), .lit (.string []), .lit (.string []), .lit (.bool false), .lit (.string []), .lit (.string [])], .nil], [], places) := ⟨[], by kernel_rfl⟩
  obtain ⟨places, hx⟩ := hx
  refine returnsInHanded_of_row (C := Tryz.checked) (s := Rows.OpenSpec.upto Rows.fnQueryThroughSpec) own started (by kernel_rfl) Tryz.func8
    ⟨laidW os, fun _ _ => 0, ⟨#[], #[.int .i64 0, .int .i64 0, .agg #[.string ⟨#[]⟩, .string ⟨#[]⟩, .bool false, .string ⟨#[]⟩, .bool false, .string ⟨#[]⟩, .string ⟨#[]⟩, .string ⟨#[]⟩, .string ⟨#[]⟩, .bool false, .string ⟨#[]⟩, .string ⟨#[]⟩, .string ⟨#[]⟩, .bool false, .string ⟨#[]⟩, .string ⟨#[]⟩], .slice none 0 0], []⟩, World.laidAll_os _ _ _, World.shaped_of_ZipB (by kernel_rfl) (by kernel_rfl), rfl, (Input.okWide_of_okWideB (by kernel_rfl)).2,
      OpenSpec.preRow_of_cond 8 hx (by kernel_rfl) (fun k hk => by cases hk; kernel_rfl) (by kernel_rfl) (laidW_met os _), by
        simp only [Assume.holds]
        exact ⟨by simp, by simp, by simp, by simp, by simp⟩⟩ ?_
  intro W base args ds gs before hval hW _ hcond _ hL _ _
  exact contract H enc W base args ds gs before hval hW (hcond _ rfl) hL

theorem said : Rows.FnQueryThroughUptoSaid :=
  OpenClaim.holds_of_cond 8 Tryz.f8 rfl rfl rfl rfl rfl rfl rfl ⟨rfl, rfl, rfl, rfl, rfl⟩ rfl rfl rfl rfl rfl (by kernel_rfl) Tryz.func8 (by kernel_rfl)
    (of_decide_eq_true (by kernel_rfl)) (by unfold Func.isWrapper; first | (rw [if_pos (by decide +kernel)]; kernel_rfl) | (rw [if_neg (by decide +kernel)]; exact ⟨rfl, rfl⟩))
    (fun os started H enc _ F => by rw [OpenClaim.pre_eq_preRow]; exact lifted os started H enc F)

theorem plain (f : FuncId) (fn : Func) (hf : Tryz.pinned.checked.prog.funcNamed "signwriter/laws.FnQueryThrough" = some f) (hfn : Tryz.pinned.checked.prog.funcs[f]? = some fn) :
    false = Tryz.pinned.checked.prog.looks [] ∧ ∀ (j : Nat) t, fn.params[j]? = some t → Tryz.pinned.checked.prog.wantsStandIn t = false := by
  obtain rfl : f = 8 := Option.some.inj ((show Tryz.prog.funcNamed "signwriter/laws.FnQueryThrough" = some 8 by kernel_rfl).symm.trans hf) |>.symm
  obtain rfl : fn = Tryz.f8 := (Option.some.inj (Tryz.func8.symm.trans hfn)).symm
  refine ⟨by kernel_rfl, fun j t ht => ?_⟩
  rw [Tryz.params8] at ht
  have hm : t ∈ [3, 3, 28, 44] := by simpa using Array.mem_of_getElem? ht
  have hall : ([3, 3, 28, 44].all fun u => !Tryz.prog.wantsStandIn u) = true := by kernel_rfl
  exact (show Tryz.prog.wantsStandIn t = false by simpa using List.all_eq_true.1 hall t hm)

/-- the card -/
theorem card : Rows.FnQueryThroughUptoCardSaid :=
  Claim7.holds_tied_plain_at .later [] _ _ _ _ said (fun _ h => by cases h) (by kernel_rfl) (fun _ h => by cases h) fnQueryThroughUpto_row_tie rfl ⟨rfl, rfl⟩ (by kernel_rfl) rfl plain (by kernel_rfl)
#print axioms card
end Go.Proofs.YtfkgkkmcaaefnaaGreatDoor.FnQueryThrough
