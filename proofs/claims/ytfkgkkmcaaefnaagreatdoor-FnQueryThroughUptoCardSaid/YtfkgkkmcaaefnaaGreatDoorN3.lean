/-
  THE WALKS of zzFits1, zzFits2, zzFits3, SamePairs; lists of keys with values in memory.
  THE WALKS of put and Pairs: an own list of keys with own lists of values.
  THE WALK of Pairs.
-/
import Derived.Test.YtfkgkkmcaaefnaaGreatDoorK7
import Derived.Maps.AppendAt
import Derived.ArgAppend
import Derived.Deep.RegionHeld3
import Derived.Deep.AppendLies
import Derived.Sort.Walk0
set_option linter.unusedSimpArgs false
set_option linter.unusedVariables false
namespace Go.Proofs.YtfkgkkmcaaefnaaGreatDoor.Wk
open Go.RowKit Go.Proofs.YtfkgkkmcaaefnaaGreatDoor.Pu

/-- a slice of strings, as it is read -/
def StrSl (w : World) (v : Value) (ys : List ByteArray) : Prop :=
  (ys = [] ∧ ∃ (ao : Option Addr) (c : Nat), v = .slice ao 0 c) ∨
  ∃ b o c : Nat, v = .slice (some ⟨b, o, none⟩) ys.length c ∧ b < w.heap.size ∧ ∀ (j : Nat) y, ys[j]? = some y → w.cell? ⟨b, o + j, none⟩ = some (.string y)
abbrev PairB := ByteArray × List ByteArray
/-- a slice of keys with their values, as it is read -/
def PairSl (w : World) (v : Value) (ps : List PairB) : Prop :=
  (ps = [] ∧ ∃ (ao : Option Addr) (c : Nat), v = .slice ao 0 c) ∨
  ∃ b o c : Nat, v = .slice (some ⟨b, o, none⟩) ps.length c ∧ b < w.heap.size ∧
    ∀ (j : Nat) p, ps[j]? = some p → w.cell? ⟨b, o + j * 2, none⟩ = some (.string p.1) ∧ ∃ vv, w.cell? ⟨b, o + j * 2 + 1, none⟩ = some vv ∧ StrSl w vv p.2
theorem StrSl.below {w w' : World} {v : Value} {ys : List ByteArray} (h : StrSl w v ys) (hb : Below w.heap.size w w') : StrSl w' v ys := by
  rcases h with h | ⟨b, o, c, h1, h2, h3⟩
  · exact Or.inl h
  · exact Or.inr ⟨b, o, c, h1, Nat.lt_of_lt_of_le h2 hb.size, fun j y hj => (hb.cell (p := ⟨b, o + j, none⟩) h2).trans (h3 j y hj)⟩
theorem PairSl.below {w w' : World} {v : Value} {ps : List PairB} (h : PairSl w v ps) (hb : Below w.heap.size w w') : PairSl w' v ps := by
  rcases h with h | ⟨b, o, c, h1, h2, h3⟩
  · exact Or.inl h
  · refine Or.inr ⟨b, o, c, h1, Nat.lt_of_lt_of_le h2 hb.size, fun j p hj => ?_⟩
    obtain ⟨e1, vv, e2, e3⟩ := h3 j p hj
    exact ⟨(hb.cell (p := ⟨b, o + j * 2, none⟩) h2).trans e1, vv, (hb.cell (p := ⟨b, o + j * 2 + 1, none⟩) h2).trans e2, e3.below hb⟩
theorem StrSl.shape {w : World} {v : Value} {ys : List ByteArray} (h : StrSl w v ys) : ∃ (ao : Option Addr) (c : Nat), v = .slice ao ys.length c := by
  rcases h with ⟨rfl, ao, c, h⟩ | ⟨b, o, c, h1, h2, h3⟩
  · exact ⟨ao, c, h⟩
  · exact ⟨_, c, h1⟩
theorem PairSl.shape {w : World} {v : Value} {ps : List PairB} (h : PairSl w v ps) : ∃ (ao : Option Addr) (c : Nat), v = .slice ao ps.length c := by
  rcases h with ⟨rfl, ao, c, h⟩ | ⟨b, o, c, h1, h2, h3⟩
  · exact ⟨ao, c, h⟩
  · exact ⟨_, c, h1⟩
theorem PairSl.at {w : World} {a : Option Addr} {n c : Nat} {ps : List PairB} (h : PairSl w (.slice a n c) ps) {k : Nat} {p : PairB} (hk : ps[k]? = some p) :
    ∃ b o : Nat, a = some ⟨b, o, none⟩ ∧ b < w.heap.size ∧ (w.cell? ⟨b, o + k * 2, none⟩ = some (.string p.1) ∧ ∃ (ao : Option Addr) (cp : Nat), w.cell? ⟨b, o + k * 2 + 1, none⟩ = some (.slice ao p.2.length cp)) ∧
      ∀ (ao : Option Addr) (cp : Nat), w.cell? ⟨b, o + k * 2 + 1, none⟩ = some (.slice ao p.2.length cp) → StrSl w (.slice ao p.2.length cp) p.2 := by
  rcases h with ⟨rfl, ao, c, h⟩ | ⟨b, o, c, h1, h2, h3⟩
  · cases hk
  · cases h1
    obtain ⟨e1, vv, e2, e3⟩ := h3 k p hk
    refine ⟨b, o, rfl, h2, ⟨e1, ?_⟩, fun ao cp h => ?_⟩
    · obtain ⟨ao, cp, rfl⟩ := e3.shape
      exact ⟨ao, cp, e2⟩
    · rw [e2] at h; cases h; exact e3
theorem StrSl.at {w : World} {a : Option Addr} {n c : Nat} {ys : List ByteArray} (h : StrSl w (.slice a n c) ys) {k : Nat} {y : ByteArray} (hk : ys[k]? = some y) :
    ∃ b o : Nat, a = some ⟨b, o, none⟩ ∧ b < w.heap.size ∧ w.cell? ⟨b, o + k, none⟩ = some (.string y) := by
  rcases h with ⟨rfl, ao, c, h⟩ | ⟨b, o, c, h1, h2, h3⟩
  · cases hk
  · cases h1
    exact ⟨b, o, rfl, h2, h3 k y hk⟩
theorem fits4_sl {v : Value} {ys : List ByteArray} (w : World) (h : StrSl w v ys) (hn : ys.length ≤ 2147483647) (hz : ∀ y ∈ ys, y.size ≤ 2147483647) :
    Calls Tryz.prog 22 #[v] w fun e w' => e = .returned (.bool true) ∧ w = w' := by
  rcases h with ⟨rfl, ao, c, rfl⟩ | ⟨b, o, c, rfl, h2, h3⟩
  · exact fits4_nil ao c w
  · exact fits4_any b o c ys w hn h3 hz

set_option maxHeartbeats 2000000 in
set_option maxRecDepth 100000 in
theorem fits3_any (key : ByteArray) (v : Value) (ys : List ByteArray) (w : World) (h : StrSl w v ys) (hk : key.size ≤ 2147483647) (hn : ys.length ≤ 2147483647) (hz : ∀ y ∈ ys, y.size ≤ 2147483647) :
    Calls Tryz.prog 50 #[.agg #[.string key, v]] w fun e w' => e = .returned (.bool true) ∧ Below w.heap.size w w' := by
  have H := Lib.hid h
  have HZ := Lib.hid hz
  have hk2 : ¬ (key.size : Int) > 2147483647 := by omega
  obtain ⟨ao, c, rfl⟩ := h.shape
  have HB := Lib.hid ((Below.refl w.heap.size w).alloc (Nat.le_refl _) (.cells #[.string key, .slice ao ys.length c] 73))
  clear h hz
  go_enter Tryz.func50, Tryz.ntmps50
  go_wp2_with (fail)
  refine Calls.mono (fits4_sl _ (H.out.below ((Below.refl w.heap.size w).alloc (Nat.le_refl _) _)) hn HZ.out) ?_
  rintro e w1 ⟨rfl, rfl⟩
  go_wp2
  go_ret
  exact ⟨rfl, HB.out⟩

set_option maxHeartbeats 2000000 in
set_option maxRecDepth 100000 in
theorem fits2_any (v : Value) (ps : List PairB) (w : World) (h : PairSl w v ps) (hn : ps.length ≤ 2147483647) (hz : ∀ p ∈ ps, p.1.size ≤ 2147483647 ∧ p.2.length ≤ 2147483647 ∧ ∀ y ∈ p.2, y.size ≤ 2147483647) :
    Calls Tryz.prog 29 #[v] w fun e w' => e = .returned (.bool true) ∧ Below w.heap.size w w' := by
  have HZ := Lib.hid hz
  rcases h with ⟨rfl, ao, c, rfl⟩ | ⟨b, o, c, rfl, h2, h3⟩
  · go_enter Tryz.func29, Tryz.ntmps29
    go_wp2
    refine wp_loop_rounds 1 ?_; rw [rounds_succ]; go_wp2
    go_ret
    exact ⟨rfl, Below.refl _ _⟩
  · have H3 := Lib.hid h3
    clear h3 hz
    generalize hN : ps.length = n at *
    have HN := Lib.hid hN
    clear hN
    have hb0 := Lib.hid (Below.refl w.heap.size w)
    go_enter Tryz.func29, Tryz.ntmps29
    go_wp2
    go_loopw [10] (fun i wr => ∃ k : Nat, i = .int .i64 k ∧ k ≤ n ∧ Hid (Below w.heap.size w wr)) (fun i _ => n - (intOf i).toNat)
    case atStart => exact ⟨0, rfl, by omega, hb0⟩
    case round =>
      obtain ⟨k, rfl, hk, hb⟩ := hrel
      by_cases hlt : k < n
      · obtain ⟨⟨key, ys⟩, hx⟩ : ∃ x, ps[k]? = some x := ⟨_, List.getElem?_eq_getElem (by rw [HN.out]; exact hlt)⟩
        obtain ⟨e1, vv, e2, e3⟩ := H3.out k _ hx
        obtain ⟨z1, z2, z3⟩ := HZ.out _ (List.mem_of_getElem? hx)
        obtain ⟨ao, cp, rfl⟩ := e3.shape
        have c1 := ((hb.out.cell (p := ⟨b, o + k * 2, none⟩) h2).trans e1)
        have c2 := ((hb.out.cell (p := ⟨b, o + k * 2 + 1, none⟩) h2).trans e2)
        have ZZ := Lib.hid (And.intro z1 (And.intro z2 z3))
        have E3 := Lib.hid (e3.below (hb.out.alloc hb.out.size (.cells #[.string key, .slice ao ys.length cp] 73)))
        have HB1 := Lib.hid (hb.out.alloc hb.out.size (.cells #[.string key, .slice ao ys.length cp] 73))
        dsimp only at c1 c2
        clear hx e1 e2 e3 z1 z2 z3
        go_wp2_with (fail)
        refine Calls.mono (fits3_any key _ ys _ E3.out ZZ.out.1 ZZ.out.2.1 ZZ.out.2.2) ?_
        rintro e wx ⟨rfl, hbx⟩
        have HB2 := Lib.hid (HB1.out.trans (hbx.mono HB1.out.size))
        clear hbx HB1 hb
        go_wp2
        exact ⟨⟨k + 1, by go_num, by omega, HB2⟩, by simp [intOf]; omega⟩
      · go_wp2
        go_ret
        exact ⟨rfl, hb.out⟩


set_option maxHeartbeats 2000000 in
set_option maxRecDepth 100000 in
theorem fits1_any (u : UrlB) (hu : Bool) (un pw : ByteArray) (ps : Bool) (ep ef : ByteArray) (w : World) (h1 : u.sc.size ≤ 2147483647) (h2 : u.op.size ≤ 2147483647) (h3 : un.size ≤ 2147483647) (h4 : pw.size ≤ 2147483647) (h5 : u.ho.size ≤ 2147483647)
    (h6 : u.pa.size ≤ 2147483647) (h7 : u.rp.size ≤ 2147483647) (h8 : u.rq.size ≤ 2147483647) (h9 : u.fr.size ≤ 2147483647) (h10 : u.rf.size ≤ 2147483647) (h11 : ep.size ≤ 2147483647) (h12 : ef.size ≤ 2147483647) :
    Calls Tryz.prog 28 #[.agg (toldCells u hu un ps pw ep ef)] w fun e w' => e = .returned (.bool true) ∧ Below w.heap.size w w' := by
  have HB := Lib.hid ((Below.refl w.heap.size w).alloc (Nat.le_refl _) (.cells (toldCells u hu un ps pw ep ef) 28))
  have g1 : ¬ (u.sc.size : Int) > 2147483647 := by omega
  have g2 : ¬ (u.op.size : Int) > 2147483647 := by omega
  have g3 : ¬ (un.size : Int) > 2147483647 := by omega
  have g4 : ¬ (pw.size : Int) > 2147483647 := by omega
  have g5 : ¬ (u.ho.size : Int) > 2147483647 := by omega
  have g6 : ¬ (u.pa.size : Int) > 2147483647 := by omega
  have g7 : ¬ (u.rp.size : Int) > 2147483647 := by omega
  have g8 : ¬ (u.rq.size : Int) > 2147483647 := by omega
  have g9 : ¬ (u.fr.size : Int) > 2147483647 := by omega
  have g10 : ¬ (u.rf.size : Int) > 2147483647 := by omega
  have g11 : ¬ (ep.size : Int) > 2147483647 := by omega
  have g12 : ¬ (ef.size : Int) > 2147483647 := by omega
  clear h1 h2 h3 h4 h5 h6 h7 h8 h9 h10 h11 h12
  go_enter Tryz.func28, Tryz.ntmps28
  go_wp2
  go_ret
  exact ⟨rfl, HB.out⟩

set_option maxHeartbeats 2000000 in
set_option maxRecDepth 100000 in
theorem same_any (v1 v2 : Value) (ps : List PairB) (w : World) (h : PairSl w v1 ps) (h2 : PairSl w v2 ps) (hn : ps.length ≤ 2147483647) (hz : ∀ p ∈ ps, p.2.length ≤ 2147483647) :
    Calls Tryz.prog 34 #[v1, v2] w fun e w' => e = .returned (.bool true) ∧ Below w.heap.size w w' := by
  have HZ := Lib.hid hz
  have H1 := Lib.hid h
  have H2 := Lib.hid h2
  obtain ⟨ao1, c1, rfl⟩ := h.shape
  obtain ⟨ao2, c2, rfl⟩ := h2.shape
  generalize hN : ps.length = n at *
  have HN := Lib.hid hN
  clear hN h h2 hz
  have hb0 := Lib.hid (Below.refl w.heap.size w)
  go_enter Tryz.func34, Tryz.ntmps34
  go_wp2
  go_loopw [16] (fun i wr => ∃ k : Nat, i = .int .i64 k ∧ k ≤ n ∧ Hid (Below w.heap.size w wr)) (fun i _ => n - (intOf i).toNat)
  case atStart => exact ⟨0, rfl, by omega, hb0⟩
  case round =>
    obtain ⟨k, rfl, hk, hb⟩ := hrel
    by_cases hlt : k < n
    · obtain ⟨⟨key, ys⟩, hx⟩ : ∃ x, ps[k]? = some x := ⟨_, List.getElem?_eq_getElem (by rw [HN.out]; exact hlt)⟩
      obtain ⟨b1, o1, rfl, g1, hs1, s1⟩ := H1.out.at hx
      obtain ⟨b2, o2, rfl, g2, hs2, s2⟩ := H2.out.at hx
      have zz := HZ.out _ (List.mem_of_getElem? hx)
      obtain ⟨e1, ai, ci, e2⟩ := hs1
      obtain ⟨f1, aj, cj, f2⟩ := hs2
      have c1 := ((hb.out.cell (p := ⟨b1, o1 + k * 2, none⟩) g1).trans e1)
      have c2 := ((hb.out.cell (p := ⟨b1, o1 + k * 2 + 1, none⟩) g1).trans e2)
      have d1 := ((hb.out.cell (p := ⟨b2, o2 + k * 2, none⟩) g2).trans f1)
      have d2 := ((hb.out.cell (p := ⟨b2, o2 + k * 2 + 1, none⟩) g2).trans f2)
      have S1 := Lib.hid (s1 ai ci e2)
      have S2 := Lib.hid (s2 aj cj f2)
      clear s1 s2
      have HB1 := Lib.hid (hb.out.alloc hb.out.size (.cells #[.string key, .slice ai ys.length ci] 73))
      dsimp only at c1 c2 d1 d2 zz
      have hl2 : b2 < wr.heap.size := Nat.lt_of_lt_of_le g2 hb.out.size
      clear hx e1 e2 f1 f2
      go_wp2
      go_quiet (fail)
      go_wp2
      have cc : ∀ b j, b < w.heap.size → (wr.alloc (.cells #[.string key, .slice ai ys.length ci] 73)).cell? ⟨b, j, none⟩ = w.cell? ⟨b, j, none⟩ := fun b j h => HB1.out.cell (p := ⟨b, j, none⟩) h
      have d3 : (wr.alloc (.cells #[.string key, .slice ai ys.length ci] 73)).cell? ⟨b2, o2 + k * 2 + 1, none⟩ = some (.slice aj ys.length cj) := (cc b2 _ g2).trans ((hb.out.cell (p := ⟨b2, o2 + k * 2 + 1, none⟩) g2).symm.trans d2)
      generalize wr.alloc (.cells #[.string key, .slice ai ys.length ci] 73) = W at *
      have CC := Lib.hid cc
      clear cc c1 c2 d1 d2 hl2
      go_loop [44] (fun i => ∃ m : Nat, i = .int .i64 m ∧ m ≤ ys.length) (fun i => ys.length - (intOf i).toNat)
      case atStart => exact ⟨0, rfl, by omega⟩
      case round =>
        obtain ⟨m, rfl, hm⟩ := hrel
        by_cases hlt2 : m < ys.length
        · obtain ⟨y, hy⟩ : ∃ y, ys[m]? = some y := ⟨_, List.getElem?_eq_getElem hlt2⟩
          obtain ⟨p1, q1, rfl, r1, t1⟩ := S1.out.at hy
          obtain ⟨p2, q2, rfl, r2, t2⟩ := S2.out.at hy
          have e1 := (CC.out p1 (q1 + m) r1).trans t1
          have e2 := (CC.out p2 (q2 + m) r2).trans t2
          clear hy t1 t2
          go_wp2
          exact ⟨⟨m + 1, by go_num, by omega⟩, by simp [intOf]; omega⟩
        · go_wp2
          exact ⟨⟨k + 1, by go_num, by omega, Lib.hid (bdN HB1.out _)⟩, by simp [intOf]; omega⟩
    · go_wp2
      go_ret
      exact ⟨rfl, hb.out⟩
end Go.Proofs.YtfkgkkmcaaefnaaGreatDoor.Wk
namespace Go.Proofs.YtfkgkkmcaaefnaaGreatDoor.Wk
open Go.RowKit Go.Proofs.YtfkgkkmcaaefnaaGreatDoor.Pu

abbrev TripB := ByteArray × List ByteArray × Value
def flatT (qs : List TripB) : List Value := qs.flatMap fun q => [.string q.1, q.2.2]
structure OwnP (B : Nat) (w : World) (v : Value) (qs : List TripB) : Prop where
  row : w.ownsRow B 73 2 v qs.length (flatT qs)
  each : ∀ q ∈ qs, q.2.1 ≠ [] ∧ w.ownsRow B 9 1 q.2.2 q.2.1.length (q.2.1.map Value.string)
  apart : qs.Pairwise fun a b => a.2.2.ownBlock ≠ b.2.2.ownBlock
theorem flat_nil : flatT [] = [] := rfl
theorem flat_cons (q : TripB) (qs : List TripB) : flatT (q :: qs) = .string q.1 :: q.2.2 :: flatT qs := by unfold flatT; rw [List.flatMap_cons]; rfl
theorem flat_len : ∀ qs : List TripB, (flatT qs).length = qs.length * 2
  | [] => rfl
  | q :: qs => by rw [flat_cons, List.length_cons, List.length_cons, flat_len qs, List.length_cons]; omega
theorem flat_app (a b : List TripB) : flatT (a ++ b) = flatT a ++ flatT b := by unfold flatT; rw [List.flatMap_append]
theorem flat_at : ∀ (qs : List TripB) (k : Nat) (q : TripB), qs[k]? = some q → (flatT qs)[k * 2]? = some (.string q.1) ∧ (flatT qs)[k * 2 + 1]? = some q.2.2
  | [], _, _, h => by cases h
  | q :: qs, 0, p, h => by cases h; rw [flat_cons]; exact ⟨rfl, rfl⟩
  | q :: qs, k + 1, p, h => by
    rw [flat_cons, show (k + 1) * 2 = k * 2 + 1 + 1 by omega]
    exact flat_at qs k p h
theorem flat_take (qs : List TripB) (k : Nat) : (flatT qs).take (k * 2) = flatT (qs.take k) := by
  induction qs generalizing k with
  | nil => simp [flat_nil]
  | cons q qs ih =>
    cases k with
    | zero => simp [flat_nil]
    | succ k => rw [flat_cons, show (k + 1) * 2 = k * 2 + 1 + 1 by omega, List.take_succ_cons, List.take_succ_cons, List.take_succ_cons, flat_cons, ih]
theorem flat_drop (qs : List TripB) (k : Nat) : (flatT qs).drop (k * 2) = flatT (qs.drop k) := by
  induction qs generalizing k with
  | nil => simp [flat_nil]
  | cons q qs ih =>
    cases k with
    | zero => simp
    | succ k => rw [flat_cons, show (k + 1) * 2 = k * 2 + 1 + 1 by omega, List.drop_succ_cons, List.drop_succ_cons, List.drop_succ_cons, ih]
theorem flat_set (qs : List TripB) (k : Nat) (q : TripB) (x : List ByteArray) (v : Value) (h : qs[k]? = some q) : flatT (qs.set k (q.1, x, v)) = (flatT qs).set (k * 2 + 1) v := by
  induction qs generalizing k with
  | nil => cases h
  | cons p qs ih =>
    cases k with
    | zero => cases h; rw [List.set_cons_zero, flat_cons, flat_cons]; rfl
    | succ k => rw [List.set_cons_succ, flat_cons, flat_cons, show (k + 1) * 2 + 1 = k * 2 + 1 + 1 + 1 by omega, List.set_cons_succ, List.set_cons_succ, ih k h]
theorem ownsRow_lt {w : World} {base e size n : Nat} {v : Value} {xs : List Value} {k : Nat} (h : w.ownsRow base e size v n xs) (hk : v.ownBlock = some k) : k < w.heap.size := by
  rcases h.2 with ⟨rfl, _⟩ | ⟨g, cap, cur, rfl, _, hg, _⟩
  · cases hk
  · cases hk; exact (Array.getElem?_eq_some_iff.1 hg).1
theorem OwnP.below {B : Nat} {w w' : World} {v : Value} {qs : List TripB} (h : OwnP B w v qs) (hb : Below w.heap.size w w') : OwnP B w' v qs :=
  ⟨owns_below h.row hb (Nat.le_refl _), fun q hq => ⟨(h.each q hq).1, owns_below (h.each q hq).2 hb (Nat.le_refl _)⟩, h.apart⟩
theorem OwnP.block {B : Nat} {w : World} {v : Value} {qs : List TripB} (h : OwnP B w v qs) (hn : qs ≠ []) : ∃ g cap, v = .slice (some ⟨g, 0, none⟩) qs.length cap ∧ B ≤ g ∧ g < w.heap.size ∧ qs.length ≤ cap ∧ cap ≤ maxLen ∧
    (∀ j u, (flatT qs)[j]? = some u → w.cell? ⟨g, j, none⟩ = some u) ∧ ∃ cur : Array Value, w.heap[g]? = some (.cells cur 73 (0, 0)) ∧ cur.size = cap * 2 ∧ cur.toList.take (qs.length * 2) = flatT qs := by
  rcases h.row.2 with ⟨rfl, h0⟩ | ⟨g, cap, cur, rfl, hb, hg, hc, hm, hs, ht⟩
  · exact absurd (List.length_eq_zero_iff.1 h0) hn
  · refine ⟨g, cap, rfl, hb, (Array.getElem?_eq_some_iff.1 hg).1, hc, hm, fun j u hj => ?_, cur, hg, hs, ht⟩
    have hjl : j < qs.length * 2 := by rw [← flat_len]; exact (List.getElem?_eq_some_iff.1 hj).1
    rw [← ht, List.getElem?_take_of_lt hjl] at hj
    simp only [World.cell?, hg]
    rw [← Array.getElem?_toList]
    exact hj

theorem apart_at {qs : List TripB} (h : qs.Pairwise fun a b => a.2.2.ownBlock ≠ b.2.2.ownBlock) {i j : Nat} {p q : TripB} (hi : qs[i]? = some p) (hj : qs[j]? = some q) (hne : i ≠ j) : p.2.2.ownBlock ≠ q.2.2.ownBlock := by
  rw [List.pairwise_iff_getElem] at h
  obtain ⟨hil, rfl⟩ := List.getElem?_eq_some_iff.1 hi
  obtain ⟨hjl, rfl⟩ := List.getElem?_eq_some_iff.1 hj
  rcases Nat.lt_or_gt_of_ne hne with hl | hl
  · exact h i j hil hjl hl
  · exact (h j i hjl hil hl).symm
theorem apart_of {qs : List TripB} (h : ∀ (i j : Nat) (p q : TripB), qs[i]? = some p → qs[j]? = some q → i < j → p.2.2.ownBlock ≠ q.2.2.ownBlock) : qs.Pairwise fun a b => a.2.2.ownBlock ≠ b.2.2.ownBlock := by
  rw [List.pairwise_iff_getElem]
  intro i j hi hj hij
  exact h i j _ _ (List.getElem?_eq_getElem hi) (List.getElem?_eq_getElem hj) hij
theorem owns_block {w w' : World} {base e size n : Nat} {v : Value} {xs : List Value} (h : w.ownsRow base e size v n xs) (hb : ∀ k, v.ownBlock = some k → w'.heap[k]? = w.heap[k]?) : w'.ownsRow base e size v n xs := by
  refine ⟨h.1, ?_⟩
  rcases h.2 with h0 | ⟨g, cap, cur, rfl, h1, h2, h3⟩
  · exact Or.inl h0
  · exact Or.inr ⟨g, cap, cur, rfl, h1, (hb g rfl).trans h2, h3⟩
theorem owns_mono {w : World} {base base' e size n : Nat} {v : Value} {xs : List Value} (h : w.ownsRow base e size v n xs) (hb : base' ≤ base) : w.ownsRow base' e size v n xs := by
  refine ⟨h.1, ?_⟩
  rcases h.2 with h0 | ⟨g, cap, cur, rfl, h1, h2, h3⟩
  · exact Or.inl h0
  · exact Or.inr ⟨g, cap, cur, rfl, Nat.le_trans hb h1, h2, h3⟩
theorem OwnP.app {B : Nat} {w w1 : World} {g cap n k : Nat} {qs : List TripB} {q : TripB} {x : ByteArray} {v' : Value} (h : OwnP B w (.slice (some ⟨g, 0, none⟩) n cap) qs) (hk : qs[k]? = some q)
    (hg : w.grownBy w1 q.2.2.ownBlock) (ho : w1.ownsRow B 9 1 v' (q.2.1.length + 1) (q.2.1.map Value.string ++ [.string x])) (hw : v'.ownBlock = q.2.2.ownBlock ∨ v'.ownBlock = some w.heap.size) :
    OwnP B (w1.setCell ⟨g, k * 2 + 1, none⟩ v') (.slice (some ⟨g, 0, none⟩) n cap) (qs.set k (q.1, q.2.1 ++ [x], v')) := by
  have hqm : q ∈ qs := List.mem_of_getElem? hk
  have hkl : k < qs.length := (List.getElem?_eq_some_iff.1 hk).1
  have hrow := h.row
  obtain ⟨hrl, hr⟩ := hrow
  rcases hr with ⟨h0, _⟩ | ⟨g0, cap0, cur, he, hb, hg0, hc, hm, hs, ht⟩
  · cases h0
  injection he with he1 he2 he3
  injection he1 with he1
  injection he1 with he1
  subst he1 he2 he3
  have hgl : g < w.heap.size := (Array.getElem?_eq_some_iff.1 hg0).1
  have hnb : ∀ p ∈ qs, p.2.2.ownBlock ≠ some g := by
    intro p hp e
    rcases (h.each p hp).2.2 with ⟨h0, _⟩ | ⟨gp, cp, curp, e2, _, hgp, _⟩
    · rw [h0] at e; cases e
    · rw [e2] at e; cases e; rw [hg0] at hgp; cases hgp
  have hg1 : w1.heap[g]? = some (.cells cur 73 (0, 0)) := (hg.block g hgl (fun e => hnb q hqm e.symm)).trans hg0
  have hg2 : (w1.setCell ⟨g, k * 2 + 1, none⟩ v').heap[g]? = some (.cells (cur.setIfInBounds (k * 2 + 1) v') 73 (0, 0)) := blk_set hg1 _ _
  have hv'g : v'.ownBlock ≠ some g := by
    rcases hw with e | e
    · rw [e]; exact hnb q hqm
    · rw [e]; intro e2; cases e2; omega
  have hfar : ∀ j, j ≠ g → (w1.setCell ⟨g, k * 2 + 1, none⟩ v').heap[j]? = w1.heap[j]? := fun j hj => blk_far rfl _ _ (fun e => hj e.symm)
  refine ⟨⟨by rw [flat_len], Or.inr ⟨g, cap, _, by rw [List.length_set], hb, hg2, by rw [List.length_set]; exact hc, hm, by rw [Array.size_setIfInBounds]; exact hs, ?_⟩⟩, ?_, ?_⟩
  · rw [flat_set qs k q _ _ hk, Array.toList_setIfInBounds, List.length_set, ← ht, List.take_set]
  · intro p hp
    obtain ⟨j, hj⟩ := List.mem_iff_getElem?.1 hp
    rw [List.getElem?_set] at hj
    by_cases hjk : k = j
    · rw [if_pos hjk, if_pos (by omega)] at hj
      cases hj
      refine ⟨by simp, owns_block (by rw [List.length_append, List.map_append]; exact ho) (fun m hm => hfar m (fun e => hv'g (by rw [hm, e])))⟩
    · rw [if_neg hjk] at hj
      have hpm : p ∈ qs := List.mem_of_getElem? hj
      obtain ⟨e1, e2⟩ := h.each p hpm
      refine ⟨e1, owns_block e2 (fun m hm => ?_)⟩
      have hml := ownsRow_lt e2 hm
      rw [hfar m (fun e => hnb p hpm (by rw [hm, e]))]
      refine hg.block m hml (fun e => ?_)
      exact apart_at h.apart hk hj hjk (by rw [hm]; exact e.symm)
  · refine apart_of fun i j p r hi hj hij => ?_
    rw [List.getElem?_set] at hi hj
    have hfr : ∀ (m : Nat) (r : TripB), k ≠ m → qs[m]? = some r → v'.ownBlock ≠ r.2.2.ownBlock := by
      intro m r hkm hr
      rcases hw with e | e
      · rw [e]; exact apart_at h.apart hk hr hkm
      · rw [e]; intro e2
        have := ownsRow_lt (h.each r (List.mem_of_getElem? hr)).2 e2.symm
        omega
    by_cases h1 : k = i
    · rw [if_pos h1, if_pos (by omega)] at hi
      rw [if_neg (by omega)] at hj
      cases hi
      exact hfr j r (by omega) hj
    · rw [if_neg h1] at hi
      by_cases h2 : k = j
      · rw [if_pos h2, if_pos (by omega)] at hj
        cases hj
        exact (hfr i p h1 hi).symm
      · rw [if_neg h2] at hj
        exact apart_at h.apart hi hj (by omega)
/-- a new key is put in between -/
theorem OwnP.ins {B : Nat} {w w2 : World} {v v2 : Value} {qs : List TripB} {key val : ByteArray} {k gs : Nat} (h : OwnP B w v qs) (hB : B ≤ w.heap.size) (hb : Below w.heap.size w w2)
    (ho : w2.ownsRow B 73 2 v2 (qs.length + 1) (flatT (qs.take k) ++ ([.string key, .slice (some ⟨gs, 0, none⟩) 1 1] ++ flatT (qs.drop k)))) (hgs : w.heap.size ≤ gs) (hg : w2.heap[gs]? = some (.cells #[.string val] 9 (0, 0))) :
    OwnP B w2 v2 (qs.take k ++ (key, [val], .slice (some ⟨gs, 0, none⟩) 1 1) :: qs.drop k) := by
  have hl : (qs.take k ++ (key, [val], Value.slice (some ⟨gs, 0, none⟩) 1 1) :: qs.drop k).length = qs.length + 1 := by
    rw [List.length_append, List.length_cons, List.length_take, List.length_drop]; omega
  have hh := h.below hb
  have hmem : ∀ p, p ∈ qs.take k ++ (key, [val], Value.slice (some ⟨gs, 0, none⟩) 1 1) :: qs.drop k → p = (key, [val], Value.slice (some ⟨gs, 0, none⟩) 1 1) ∨ p ∈ qs := by
    intro p hp
    rcases List.mem_append.1 hp with h1 | h1
    · exact Or.inr (List.mem_of_mem_take h1)
    · rcases List.mem_cons.1 h1 with h2 | h2
      · exact Or.inl h2
      · exact Or.inr (List.mem_of_mem_drop h2)
  have hne : ∀ p ∈ qs, p.2.2.ownBlock ≠ some gs := by
    intro p hp e
    have := ownsRow_lt (h.each p hp).2 e
    omega
  refine ⟨?_, ?_, ?_⟩
  · rw [hl, flat_app, flat_cons]; exact ho
  · intro p hp
    rcases hmem p hp with rfl | hp
    · exact ⟨by simp, rfl, Or.inr ⟨gs, 1, #[.string val], rfl, Nat.le_trans hB hgs, hg, Nat.le_refl _, by decide, rfl, rfl⟩⟩
    · exact hh.each p hp
  · rw [List.pairwise_append, List.pairwise_cons]
    refine ⟨h.apart.sublist (List.take_sublist _ _), ⟨fun b hb => (hne b (List.mem_of_mem_drop hb)).symm, h.apart.sublist (List.drop_sublist _ _)⟩, fun a ha b hb => ?_⟩
    rcases List.mem_cons.1 hb with rfl | hb
    · exact hne a (List.mem_of_mem_take ha)
    · have hap := h.apart
      rw [← List.take_append_drop k qs, List.pairwise_append] at hap
      exact hap.2.2 a ha b hb

/-- the pairs' own block, behind an append to one of its rows -/
theorem OwnP.main {B : Nat} {w w1 : World} {g cap n : Nat} {qs : List TripB} {q : TripB} (h : OwnP B w (.slice (some ⟨g, 0, none⟩) n cap) qs) (hq : q ∈ qs) (hg : w.grownBy w1 q.2.2.ownBlock) :
    (∀ j, w1.frozen? ⟨g, j, none⟩ = false) ∧ ∀ j u, (flatT qs)[j]? = some u → w1.cell? ⟨g, j, none⟩ = some u := by
  obtain ⟨hrl, hr⟩ := h.row
  rcases hr with ⟨h0, _⟩ | ⟨g0, cap0, cur, he, hb, hg0, hc, hm, hs, ht⟩
  · cases h0
  injection he with he1 he2 he3
  injection he1 with he1
  injection he1 with he1
  subst he1 he2 he3
  have hgl : g < w.heap.size := (Array.getElem?_eq_some_iff.1 hg0).1
  have hnb : q.2.2.ownBlock ≠ some g := by
    intro e
    rcases (h.each q hq).2.2 with ⟨h0, _⟩ | ⟨gp, cp, curp, e2, _, hgp, _⟩
    · rw [h0] at e; cases e
    · rw [e2] at e; cases e; rw [hg0] at hgp; cases hgp
  have hg1 : w1.heap[g]? = some (.cells cur 73 (0, 0)) := (hg.block g hgl (fun e => hnb e.symm)).trans hg0
  refine ⟨fun j => by simp [World.frozen?, hg1], fun j u hj => ?_⟩
  have hjl : j < qs.length * 2 := by rw [← flat_len]; exact (List.getElem?_eq_some_iff.1 hj).1
  rw [← ht, List.getElem?_take_of_lt hjl] at hj
  simp only [World.cell?, hg1]
  rw [← Array.getElem?_toList]
  exact hj
/-- block h holds the pairs or one of their rows -/
def Owned (v : Value) (qs : List TripB) (h : Nat) : Prop := v.ownBlock = some h ∨ ∃ q ∈ qs, q.2.2.ownBlock = some h
/-- what was not owned is as it was, and not owned behind it -/
def KeptO (w w' : World) (v : Value) (qs : List TripB) (v' : Value) (qs' : List TripB) : Prop := ∀ h, h < w.heap.size → ¬ Owned v qs h → w'.heap[h]? = w.heap[h]? ∧ ¬ Owned v' qs' h
theorem kept_app {w W0 w5 : World} {g n cap k j : Nat} {x v' : Value} {key : ByteArray} {ys : List ByteArray} {qs : List TripB} {q : TripB} (hk : qs[k]? = some q) (hb : Below w.heap.size w W0) (hgr : W0.grownBy w5 q.2.2.ownBlock)
    (hw : v'.ownBlock = q.2.2.ownBlock ∨ v'.ownBlock = some W0.heap.size) :
    KeptO w (w5.setCell ⟨g, j, none⟩ x) (.slice (some ⟨g, 0, none⟩) n cap) qs (.slice (some ⟨g, 0, none⟩) n cap) (qs.set k (key, ys, v')) := by
  intro h hh hno
  have hqm := List.mem_of_getElem? hk
  have hg : h ≠ g := fun e => hno (Or.inl (by rw [e]; rfl))
  have hq : q.2.2.ownBlock ≠ some h := fun e => hno (Or.inr ⟨q, hqm, e⟩)
  refine ⟨?_, ?_⟩
  · rw [blk_far (o := w5.heap[h]?) rfl _ _ (fun e => hg e.symm)]
    rw [hgr.block h (Nat.lt_of_lt_of_le hh hb.size) (fun e => hq e.symm)]
    exact hb.block h hh
  · rintro (e | ⟨p, hp, e⟩)
    · exact hno (Or.inl e)
    · obtain ⟨i, hi⟩ := List.mem_iff_getElem?.1 hp
      rw [List.getElem?_set] at hi
      by_cases hki : k = i
      · rw [if_pos hki] at hi
        split at hi
        · cases hi
          rcases hw with h1 | h1
          · exact hq (h1.symm.trans e)
          · have := hb.size
            rw [h1] at e; cases e; omega
        · cases hi
      · rw [if_neg hki] at hi
        exact hno (Or.inr ⟨p, List.mem_of_getElem? hi, e⟩)
theorem kept_ins {w w2 : World} {v : Value} {g3 m cap k : Nat} {key : ByteArray} {ys : List ByteArray} {qs : List TripB} (hb : Below w.heap.size w w2) (hg : w.heap.size ≤ g3) :
    KeptO w w2 v qs (.slice (some ⟨g3, 0, none⟩) m cap) (qs.take k ++ (key, ys, .slice (some ⟨w.heap.size, 0, none⟩) 1 1) :: qs.drop k) := by
  intro h hh hno
  refine ⟨hb.block h hh, ?_⟩
  rintro (e | ⟨p, hp, e⟩)
  · have e2 : g3 = h := Option.some.inj e
    omega
  · rcases List.mem_append.1 hp with h1 | h1
    · exact hno (Or.inr ⟨p, List.mem_of_mem_take h1, e⟩)
    · rcases List.mem_cons.1 h1 with rfl | h2
      · have e2 : w.heap.size = h := Option.some.inj e
        omega
      · exact hno (Or.inr ⟨p, List.mem_of_mem_drop h2, e⟩)
theorem owns_ge {w : World} {base e size n g cap m : Nat} {xs : List Value} (h : w.ownsRow base e size (.slice (some ⟨g, 0, none⟩) n cap) m xs) : base ≤ g := own_ge h g rfl
theorem step_lies0 {P : Program} (w : World) {ops : Array Oper} {o : Oper} {a : Act} {K : Act → World → Prop} {Q : Exit → Act → World → Prop} {E : Prop} (hgd : o.guard = none) (s x : Operand) (t : TypeId)
    (ho : o.op = .call { callee := .builtin .append, args := #[s, x], argTypes := #[t, t] })
    (base : Nat) (e : TypeId) (i : TypeInfo) (z : Value) (size bytes : Nat) (ht : P.underlying t = some (.slice e)) (hi : P.info? e = some i) (hz : i.zero = some z)
    (hsize : i.size = size) (hby : i.bytes = bytes) (hzs : z.cells.size = size) (hsz : 0 < size)
    (v : Value) (n : Nat) (xs : List Value) (hs : a.eval s = v) (hown : w.ownsRow base e size v n xs)
    (ad : Addr) (m c : Nat) (news : List Value) (hx : a.eval x = .slice (some ad) m c) (hl : news.length = m * size) (hnews : ∀ j u, news[j]? = some u → w.cell? (ad.add j) = some u) (h1 : ∀ u ∈ news, u.oneCell' = true)
    (hm : 0 < n + m) (h63 : n + m ≤ maxLen) (hbytes : (n + m) * bytes ≤ 140737488355328) (hbase : base ≤ w.heap.size)
    (h : ∀ g cap w', w'.ownsRow base e size (.slice (some ⟨g, 0, none⟩) (n + m) cap) (n + m) (xs ++ news) → w.grownBy w' v.ownBlock → K (a.put o.dst (.slice (some ⟨g, 0, none⟩) (n + m) cap)) w') :
    if Region.wanted o (yielded ops a.tmps) = true then Oper.wp P o a w K Q else E := by
  have hw : Region.wanted o (yielded ops a.tmps) = true := by simp [Region.wanted, hgd]
  rw [if_pos hw]
  obtain ⟨v', w', hr, h2, h3, _, h5⟩ := run_append_own_at (P := P) w base t o.type e i z size bytes ht hi hz hsize hby hzs hsz v n xs hown ad m c news hl hnews h1 h63 hbytes hbase
  obtain ⟨g, cap, rfl, _, hlt⟩ := h2.form hm
  unfold Oper.wp execOp
  simp only [ho, resolve, invoke, builtin, Sem.run_bind, Sem.run_pure, Result.andThen_ok, List.map_toArray, List.map_cons, List.map_nil, hs, hx, hr]
  exact h g cap w' h2 h3
theorem step_grows {P : Program} (w : World) {ops : Array Oper} {o : Oper} {a : Act} {K : Act → World → Prop} {Q : Exit → Act → World → Prop} {E : Prop} (hgd : o.guard = none) (s x : Operand) (t : TypeId)
    (ho : o.op = .call { callee := .builtin .append, args := #[s, x], argTypes := #[t, t] })
    (e : TypeId) (i : TypeInfo) (z : Value) (size bytes : Nat) (ht : P.underlying t = some (.slice e)) (hi : P.info? e = some i) (hz : i.zero = some z)
    (hsize : i.size = size) (hby : i.bytes = bytes) (hzs : z.cells.size = size) (hsz : 0 < size)
    (b : Addr) (n cap : Nat) (olds : List Value) (hs : a.eval s = .slice (some b) n cap) (hlo : olds.length = n * size) (holds : ∀ j u, olds[j]? = some u → w.cell? (b.add j) = some u)
    (ad : Addr) (m c : Nat) (news : List Value) (hx : a.eval x = .slice (some ad) m c) (hl : news.length = m * size) (hnews : ∀ j u, news[j]? = some u → w.cell? (ad.add j) = some u)
    (hg : cap < n + m) (h63 : n + m ≤ maxLen) (hbytes : (n + m) * bytes ≤ 140737488355328)
    (h : ∀ g cap w', w'.ownsRow w.heap.size e size (.slice (some ⟨g, 0, none⟩) (n + m) cap) (n + m) (olds ++ news) → w.grownBy w' none → K (a.put o.dst (.slice (some ⟨g, 0, none⟩) (n + m) cap)) w') :
    if Region.wanted o (yielded ops a.tmps) = true then Oper.wp P o a w K Q else E := by
  have hw : Region.wanted o (yielded ops a.tmps) = true := by simp [Region.wanted, hgd]
  rw [if_pos hw]
  obtain ⟨v', w', hr, h2, h3⟩ := run_append_arg_grows (P := P) w t o.type e i z size bytes ht hi hz hsize hby hzs hsz b n cap olds hlo holds ad m c news hl hnews hg h63 hbytes
  obtain ⟨g, cap, rfl, _, hlt⟩ := h2.form (by omega)
  unfold Oper.wp execOp
  simp only [ho, resolve, invoke, builtin, Sem.run_bind, Sem.run_pure, Result.andThen_ok, List.map_toArray, List.map_cons, List.map_nil, hs, hx, hr]
  exact h g cap w' h2 h3
theorem cells_of_own {w : World} {base e size n g cap : Nat} {xs : List Value} {m : Nat} (h : w.ownsRow base e size (.slice (some ⟨g, 0, none⟩) n cap) m xs) : ∀ (j : Nat) (u : Value), xs[j]? = some u → w.cell? ((⟨g, 0, none⟩ : Addr).add j) = some u := by
  intro j u hj
  obtain ⟨hl, hr⟩ := h
  rcases hr with ⟨h0, _⟩ | ⟨g0, cap0, cur, he, hb, hg0, hc, hm, hs, ht⟩
  · cases h0
  injection he with he1 he2 he3
  injection he1 with he1
  injection he1 with he1
  subst he1 he2 he3
  rw [addr_add, Nat.zero_add]
  have hjl : j < n * size := by
    have := (List.getElem?_eq_some_iff.1 hj).1
    rw [← ht, List.length_take] at this
    omega
  rw [← ht, List.getElem?_take_of_lt hjl] at hj
  simp only [World.cell?, hg0]
  rw [← Array.getElem?_toList]
  exact hj
theorem flat_one {B : Nat} {w : World} {v : Value} {qs : List TripB} (h : OwnP B w v qs) : ∀ u ∈ flatT qs, u.oneCell' = true := by
  intro u hu
  unfold flatT at hu
  rw [List.mem_flatMap] at hu
  obtain ⟨q, hq, hm⟩ := hu
  rcases List.mem_cons.1 hm with rfl | hm
  · rfl
  · rw [List.mem_singleton] at hm
    subst hm
    rcases (h.each q hq).2.2 with ⟨h0, _⟩ | ⟨g, cap, cur, h0, _⟩
    · rw [h0]; rfl
    · rw [h0]; rfl
/-- the facts of the world in which the new setting lies -/
structure NewS (B : Nat) (w : World) (g k n cap : Nat) (qs : List TripB) (key value : ByteArray) (ad : Addr) (W : World) : Prop where
  adr : (if cap = k then some ⟨g, 0, none⟩ else some ⟨g, k * 2, none⟩ : Option Addr) = some ad
  below : Below w.heap.size w W
  own : W.ownsRow w.heap.size 73 2 (.slice (some ⟨w.heap.size + 1, 0, none⟩) 1 1) 1 [.string key, .slice (some ⟨w.heap.size, 0, none⟩) 1 1]
  new : W.heap[w.heap.size]? = some (.cells #[.string value] 9 (0, 0))
  len : (flatT (qs.drop k)).length = (n - k) * 2
  src : ∀ j u, (flatT (qs.drop k))[j]? = some u → W.cell? (ad.add j) = some u
  one : ∀ u ∈ flatT (qs.drop k), u.oneCell' = true
theorem newS {B : Nat} {w : World} {g cap n k : Nat} {qs : List TripB} (h : OwnP B w (.slice (some ⟨g, 0, none⟩) n cap) qs) (hn : qs.length = n) (hg : g < w.heap.size) (hnc : n ≤ cap)
    (hc : ∀ (j : Nat) (u : Value), (flatT qs)[j]? = some u → w.cell? ⟨g, j, none⟩ = some u) (key value : ByteArray) :
    ∃ ad, NewS B w g k n cap qs key value ad (((w.alloc (.cells #[.string value] 9)).alloc (.cells #[.string key, .slice (some ⟨w.heap.size, 0, none⟩) 1 1] 73)).drew) := by
  have hb : Below w.heap.size w (((w.alloc (.cells #[.string value] 9)).alloc (.cells #[.string key, .slice (some ⟨w.heap.size, 0, none⟩) 1 1] 73)).drew) :=
    (((Below.refl w.heap.size w).alloc (Nat.le_refl _) _).alloc (by simp) _).drew
  have hs : (w.alloc (.cells #[.string value] 9)).heap.size = w.heap.size + 1 := by simp
  refine ⟨if cap = k then ⟨g, 0, none⟩ else ⟨g, k * 2, none⟩, by split <;> rfl, hb, ⟨rfl, Or.inr ⟨w.heap.size + 1, 1, #[.string key, .slice (some ⟨w.heap.size, 0, none⟩) 1 1], rfl, Nat.le_succ _, ?_, Nat.le_refl _, by decide, rfl, rfl⟩⟩, ?_, ?_, ?_, ?_⟩
  · have := blk_new (w.alloc (.cells #[.string value] 9)) (.cells #[.string key, .slice (some ⟨w.heap.size, 0, none⟩) 1 1] 73)
    rw [hs] at this
    exact this
  · have := blk_below (blk_new w (.cells #[.string value] 9)) ((Below.refl (w.alloc (.cells #[.string value] 9)).heap.size (w.alloc (.cells #[.string value] 9))).alloc (Nat.le_refl _) (.cells #[.string key, .slice (some ⟨w.heap.size, 0, none⟩) 1 1] 73)) (by rw [hs]; omega)
    exact this
  · rw [flat_len, List.length_drop, hn]
  · intro j u hj
    rw [← flat_drop, List.getElem?_drop] at hj
    have hjl := (List.getElem?_eq_some_iff.1 hj).1
    rw [flat_len] at hjl
    rw [if_neg (by omega), addr_add]
    exact (hb.cell (p := ⟨g, k * 2 + j, none⟩) hg).trans (hc _ _ hj)
  · intro u hu
    refine flat_one h u ?_
    rw [← flat_drop] at hu
    exact List.mem_of_mem_drop hu
/-- .. and of the world behind the first append -/
structure NewT (B : Nat) (w : World) (g k n : Nat) (qs : List TripB) (key value : ByteArray) (g2 cap2 : Nat) (W : World) : Prop where
  below : Below w.heap.size w W
  new : W.heap[w.heap.size]? = some (.cells #[.string value] 9 (0, 0))
  len : (flatT (qs.take k)).length = k * 2
  old : ∀ j u, (flatT (qs.take k))[j]? = some u → W.cell? ((⟨g, 0, none⟩ : Addr).add j) = some u
  len2 : ([Value.string key, Value.slice (some ⟨w.heap.size, 0, none⟩) 1 1] ++ flatT (qs.drop k)).length = (1 + (n - k)) * 2
  src : ∀ j u, ([Value.string key, Value.slice (some ⟨w.heap.size, 0, none⟩) 1 1] ++ flatT (qs.drop k))[j]? = some u → W.cell? ((⟨g2, 0, none⟩ : Addr).add j) = some u
theorem newT {B : Nat} {w W W1 : World} {g cap n k g2 cap2 : Nat} {qs : List TripB} {key value : ByteArray} {ad : Addr} (h : NewS B w g k n cap qs key value ad W) (hn : qs.length = n) (hk : k ≤ n) (hg : g < w.heap.size)
    (hc : ∀ (j : Nat) (u : Value), (flatT qs)[j]? = some u → w.cell? ⟨g, j, none⟩ = some u)
    (ho : W1.ownsRow w.heap.size 73 2 (.slice (some ⟨g2, 0, none⟩) (1 + (n - k)) cap2) (1 + (n - k)) ([.string key, .slice (some ⟨w.heap.size, 0, none⟩) 1 1] ++ flatT (qs.drop k)))
    (hgr : W.grownBy W1 (Value.slice (some ⟨w.heap.size + 1, 0, none⟩) 1 1).ownBlock) : NewT B w g k n qs key value g2 cap2 W1 := by
  have hb : Below w.heap.size w W1 := h.below.grown hgr h.below.size (own_ge h.own)
  have hs : w.heap.size < W.heap.size := (Array.getElem?_eq_some_iff.1 h.new).1
  refine ⟨hb, (hgr.block _ hs (show some w.heap.size ≠ some (w.heap.size + 1) by simp)).trans h.new, by rw [flat_len, List.length_take]; omega, ?_, ho.1, cells_of_own ho⟩
  intro j u hj
  have hj2 : j < k * 2 := by have := (List.getElem?_eq_some_iff.1 hj).1; rw [flat_len, List.length_take] at this; omega
  rw [← flat_take, List.getElem?_take_of_lt hj2] at hj
  rw [addr_add, Nat.zero_add]
  exact (hb.cell (p := ⟨g, j, none⟩) hg).trans (hc _ _ hj)

/-- where a setting was put -/
def PutAt (qs : List TripB) (key val : ByteArray) (qs' : List TripB) : Prop := ∃ k, k ≤ qs.length ∧ (∀ (i : Nat) p, i < k → qs[i]? = some p → Op.bytesLess p.1.toList key.toList = true) ∧
  ((∃ q v', qs[k]? = some q ∧ Op.bytesLess q.1.toList key.toList = false ∧ (q.1.toList == key.toList) = true ∧ qs' = qs.set k (q.1, q.2.1 ++ [val], v')) ∨
   ((∀ q, qs[k]? = some q → Op.bytesLess q.1.toList key.toList = false ∧ (q.1.toList == key.toList) = false) ∧ ∃ v', qs' = qs.take k ++ (key, [val], v') :: qs.drop k))
theorem block_at {w : World} {g : Nat} {cs : Array Value} {t : TypeId} {f : Nat × Nat} (h : w.heap[g]? = some (.cells cs t f)) : ∀ (j : Nat) (u : Value), cs.toList[j]? = some u → w.cell? ((⟨g, 0, none⟩ : Addr).add j) = some u := by
  intro j u hj
  rw [addr_add, Nat.zero_add]
  simp only [World.cell?, h]
  rw [← Array.getElem?_toList]
  exact hj
theorem info73 : (Tryz.prog.info? 73).map (fun i => (i.zero, i.size, i.bytes)) = some (some (.agg #[.string ⟨#[]⟩, .slice none 0 0]), 2, 40) := by kernel_rfl

set_option maxHeartbeats 4000000 in
set_option maxRecDepth 100000 in
theorem put_any (B : Nat) (v : Value) (qs : List TripB) (key value : ByteArray) (w : World) (h : OwnP B w v qs) (hn : qs.length ≤ 100000) (hvl : ∀ q ∈ qs, q.2.1.length ≤ 100000) (hne : qs ≠ []) (hB : B ≤ w.heap.size) :
    Calls Tryz.prog 51 #[v, .string key, .string value] w fun e w' => ∃ v' qs', e = .returned v' ∧ Hid (OwnP B w' v' qs') ∧ Hid (PutAt qs key value qs') ∧ Hid (KeptO w w' v qs v' qs') ∧ Below B w w' := by
  obtain ⟨g, cap, rfl, hBg, hgl, hnc, hcm, hcell, -⟩ := h.block hne
  have HO := Lib.hid h
  have HC := Lib.hid hcell
  have HV := Lib.hid hvl
  generalize hN : qs.length = n at *
  have HN := Lib.hid hN
  clear hN h hcell hne hvl
  obtain ⟨i9, hi, hz0, hz1, hz2⟩ := info_parts info9
  obtain ⟨i73, ji, jz0, jz1, jz2⟩ := info_parts info73
  go_enter Tryz.func51, Tryz.ntmps51
  go_wp2
  go_loop [7] (fun i => ∃ k : Nat, i = .int .i64 k ∧ k ≤ n ∧ Hid (∀ (i : Nat) p, i < k → qs[i]? = some p → Op.bytesLess p.1.toList key.toList = true)) (fun i => n - (intOf i).toNat)
  case atStart => exact ⟨0, rfl, by omega, Lib.hid (fun i p h => absurd h (Nat.not_lt_zero _))⟩
  case round =>
    obtain ⟨k, rfl, hk, hless⟩ := hrel
    by_cases hlt : k < n
    · obtain ⟨⟨qk, qv, qx⟩, hx⟩ : ∃ x, qs[k]? = some x := ⟨_, List.getElem?_eq_getElem (by rw [HN.out]; exact hlt)⟩
      obtain ⟨e1, e2⟩ := flat_at qs k _ hx
      have c1 := HC.out _ _ e1
      have c2 := HC.out _ _ e2
      obtain ⟨vne, hown⟩ := HO.out.each _ (List.mem_of_getElem? hx)
      have hvz := HV.out _ (List.mem_of_getElem? hx)
      dsimp only at c1 c2 hvz
      have HX := Lib.hid hx
      clear e1 e2 hx
      by_cases hq : Op.bytesLess qk.toList key.toList = true
      · have H2 : Hid (∀ (i : Nat) p, i < k + 1 → qs[i]? = some p → Op.bytesLess p.1.toList key.toList = true) := Lib.hid (fun i p hi hp => by
          by_cases hik : i = k
          · subst hik; rw [HX.out] at hp; cases hp; exact hq
          · exact hless.out i p (by omega) hp)
        go_wp2
        exact ⟨⟨k + 1, by go_num, by omega, H2⟩, by simp [intOf]; omega⟩
      · rw [Bool.not_eq_true] at hq
        by_cases he : (qk.toList == key.toList) = true
        · obtain ⟨hrl, hr⟩ := hown
          dsimp only at hr vne
          rcases hr with ⟨-, h0⟩ | ⟨gv, cv, curv, rfl, hbv, hgv, hcv, hmv, hsv, htv⟩
          · exact absurd (List.length_eq_zero_iff.1 h0) vne
          have HOW := Lib.hid (owns_below (HO.out.each _ (List.mem_of_getElem? HX.out)).2 ((Below.refl w.heap.size w).alloc (Nat.le_refl _) (.cells #[.string value] 9)) (Nat.le_refl _))
          have HO1 := Lib.hid (HO.out.below ((Below.refl w.heap.size w).alloc (Nat.le_refl _) (.cells #[.string value] 9)))
          have HB1 := Lib.hid ((Below.refl B w).alloc hB (.cells #[.string value] 9))
          have KT := Lib.hid (block_at (blk_new w (.cells #[.string value] 9)))
          have hszw : B ≤ (w.alloc (.cells #[.string value] 9)).heap.size := Nat.le_trans hB HB1.out.size
          have HP : Hid (∀ v', PutAt qs key value (qs.set k (qk, qv ++ [value], v'))) := Lib.hid (fun v' => ⟨k, by rw [HN.out]; exact hk, hless.out, Or.inl ⟨_, v', HX.out, hq, he, rfl⟩⟩)
          clear hless hrl hgv hsv htv
          go_wp2_with (at_builtin; (refine wpList_append_own_at _ rfl (.tmp 42) (.tmp 44) 39 rfl B 9 i9 (.string ⟨#[]⟩) 1 16 Tryz.underlying39 hi hz0 hz1 hz2 rfl (by decide) _ _ _ rfl HOW.out ⟨w.heap.size, 0, none⟩ 1 1 [.string value] rfl rfl KT.out ?d2 ?d3 ?d4 hszw ?_))
          case d2 => rfl
          case d3 => unfold maxLen; omega
          case d4 => omega
          intro v' w5 hown' hgrow _ hwhere
          have HB2 := Lib.hid (HB1.out.grown hgrow hszw (own_ge HOW.out))
          obtain ⟨hrl2, hr2⟩ := id hown'
          rcases hr2 with ⟨-, h0⟩ | ⟨gw, cw, curw, rfl, hbw, hgw, hcw, hmw, hsw, htw⟩
          · exact absurd h0 (by omega)
          obtain ⟨hfz, hcl⟩ := HO1.out.main (List.mem_of_getElem? HX.out) hgrow
          have hc5 := hcl _ _ (flat_at qs k _ HX.out).2
          have hf5 := hfz (k * 2 + 1)
          have HA := Lib.hid (HO1.out.app HX.out hgrow hown' (by simpa using hwhere))
          have HK := Lib.hid (kept_app (g := g) (n := n) (cap := cap) (j := k * 2 + 1) (x := .slice (some ⟨gw, 0, none⟩) (qv.length + 1) cw) (key := qk) (ys := qv ++ [value]) HX.out ((Below.refl w.heap.size w).alloc (Nat.le_refl _) (.cells #[.string value] 9)) hgrow (by simpa using hwhere))
          have HB3 := Lib.hid (HB2.out.setCell (p := ⟨g, k * 2 + 1, none⟩) hBg (.slice (some ⟨gw, 0, none⟩) (qv.length + 1) cw))
          dsimp only at hc5
          clear hown' hgrow hwhere hrl2 hsw htw hgw hcl hfz
          go_wp2
          go_ret
          exact ⟨_, rfl, _, HA, HP.out _, HK, HB3.out⟩
        · rw [Bool.not_eq_true] at he
          have HPI : Hid (∀ v', PutAt qs key value (qs.take k ++ (key, [value], v') :: qs.drop k)) := Lib.hid (fun v' => ⟨k, by rw [HN.out]; exact hk, hless.out, Or.inr ⟨fun q hq' => by rw [HX.out] at hq'; cases hq'; exact ⟨hq, he⟩, v', rfl⟩⟩)
          clear hless
          have hk0 : (0 : Int) ≤ (k : Int) := by omega
          have hkn : (k : Int) ≤ (n : Int) := by omega
          have hkc : (k : Int) ≤ (cap : Int) := by omega
          go_wp2
          obtain ⟨ad, hs⟩ := newS (k := k) HO.out HN.out hgl hnc HC.out key value
          have HS := Lib.hid hs
          clear hs
          go_region_held3 (fun w' => True) (trivial) ((first
            | (refine step_lies0 _ (by rfl) (.tmp 57) (.tmp 60) 44 (by rfl) w.heap.size 73 i73 _ 2 40 Tryz.underlying44 ji jz0 jz1 jz2 rfl (by decide) _ 1 _ (by rfl) HS.out.own ad (n - k) _ (flatT (qs.drop k)) (by rw [← HS.out.adr]; rfl) HS.out.len HS.out.src HS.out.one (by omega) (by unfold maxLen; omega) (by omega) HS.out.below.size ?_
               intro g2 cap2 w1 hown1 hgrow1
               have HT := Lib.hid (newT HS.out HN.out hk hgl HC.out hown1 hgrow1)
               clear hown1 hgrow1)
            | (refine step_grows _ (by rfl) (.tmp 52) (.tmp 61) 44 (by rfl) 73 i73 _ 2 40 Tryz.underlying44 ji jz0 jz1 jz2 rfl (by decide) _ k k _ (by rfl) HT.out.len HT.out.old _ (1 + (n - k)) _ _ (by rfl) HT.out.len2 HT.out.src (by omega) (by unfold maxLen; omega) (by omega) ?_
               intro g3 cap3 w2 hown2 hgrow2)))
          have HB2 := Lib.hid (HT.out.below.grown hgrow2 HT.out.below.size (fun k h => by cases h))
          have hO : w2.ownsRow B 73 2 (.slice (some ⟨g3, 0, none⟩) (k + (1 + (n - k))) cap3) (qs.length + 1) (flatT (qs.take k) ++ ([Value.string key, Value.slice (some ⟨w.heap.size, 0, none⟩) 1 1] ++ flatT (qs.drop k))) := by
            have := owns_mono hown2 (Nat.le_trans hB HT.out.below.size)
            rw [HN.out]
            rw [show k + (1 + (n - k)) = n + 1 by omega] at this ⊢
            exact this
          have HI := Lib.hid (OwnP.ins HO.out hB HB2.out hO (Nat.le_refl _) ((hgrow2.block _ (Array.getElem?_eq_some_iff.1 HT.out.new).1 (by intro e; cases e)).trans HT.out.new))
          have HK := Lib.hid (kept_ins (v := .slice (some ⟨g, 0, none⟩) n cap) (qs := qs) (k := k) (key := key) (ys := [value]) (m := k + (1 + (n - k))) (cap := cap3) HB2.out (Nat.le_trans HT.out.below.size (owns_ge hown2)))
          clear hown2 hgrow2 hO
          go_wp2
          go_ret
          exact ⟨_, rfl, _, HI, HPI.out _, HK, HB2.out.mono hB⟩
    · obtain rfl : k = n := by omega
      have HPI : Hid (∀ v', PutAt qs key value (qs.take k ++ (key, [value], v') :: qs.drop k)) := Lib.hid (fun v' => ⟨k, by rw [HN.out]; exact hk, hless.out, Or.inr ⟨fun q hq' => absurd hq' (by rw [List.getElem?_eq_none (by rw [HN.out]; omega)]; simp), v', rfl⟩⟩)
      clear hless
      have hk0 : (0 : Int) ≤ (k : Int) := by omega
      have hkc : (k : Int) ≤ (cap : Int) := by omega
      go_wp2
      obtain ⟨ad, hs⟩ := newS (k := k) HO.out HN.out hgl hnc HC.out key value
      have HS := Lib.hid hs
      clear hs
      go_region_held3 (fun w' => True) (trivial) ((first
        | (refine step_lies0 _ (by rfl) (.tmp 57) (.tmp 60) 44 (by rfl) w.heap.size 73 i73 _ 2 40 Tryz.underlying44 ji jz0 jz1 jz2 rfl (by decide) _ 1 _ (by rfl) HS.out.own ad (k - k) _ (flatT (qs.drop k)) (by rw [← HS.out.adr]; first | rfl | (rw [Nat.sub_self]; rfl)) HS.out.len HS.out.src HS.out.one (by omega) (by unfold maxLen; omega) (by omega) HS.out.below.size ?_
           intro g2 cap2 w1 hown1 hgrow1
           have HT := Lib.hid (newT HS.out HN.out hk hgl HC.out hown1 hgrow1)
           clear hown1 hgrow1)
        | (refine step_grows _ (by rfl) (.tmp 52) (.tmp 61) 44 (by rfl) 73 i73 _ 2 40 Tryz.underlying44 ji jz0 jz1 jz2 rfl (by decide) _ k k _ (by rfl) HT.out.len HT.out.old _ (1 + (k - k)) _ _ (by first | rfl | (rw [Nat.sub_self]; rfl)) HT.out.len2 HT.out.src (by omega) (by unfold maxLen; omega) (by omega) ?_
           intro g3 cap3 w2 hown2 hgrow2)))
      have HB2 := Lib.hid (HT.out.below.grown hgrow2 HT.out.below.size (fun k h => by cases h))
      have hO : w2.ownsRow B 73 2 (.slice (some ⟨g3, 0, none⟩) (k + 1) cap3) (qs.length + 1) (flatT (qs.take k) ++ ([Value.string key, Value.slice (some ⟨w.heap.size, 0, none⟩) 1 1] ++ flatT (qs.drop k))) := by
        have := owns_mono hown2 (Nat.le_trans hB HT.out.below.size)
        rw [HN.out]
        rw [show k + (1 + (k - k)) = k + 1 by omega] at this
        exact this
      have HI := Lib.hid (OwnP.ins HO.out hB HB2.out hO (Nat.le_refl _) ((hgrow2.block _ (Array.getElem?_eq_some_iff.1 HT.out.new).1 (by intro e; cases e)).trans HT.out.new))
      have HK := Lib.hid (kept_ins (v := .slice (some ⟨g, 0, none⟩) k cap) (qs := qs) (k := k) (key := key) (ys := [value]) (m := k + 1) (cap := cap3) HB2.out (Nat.le_trans HT.out.below.size (owns_ge hown2)))
      clear hown2 hgrow2 hO
      go_wp2
      all_goals
        go_ret
        exact ⟨_, rfl, _, HI, HPI.out _, HK, HB2.out.mono hB⟩
theorem step_none {P : Program} (w : World) {ops : Array Oper} {o : Oper} {a : Act} {K : Act → World → Prop} {Q : Exit → Act → World → Prop} {E : Prop} (hgd : o.guard = none) (s x : Operand) (t : TypeId)
    (ho : o.op = .call { callee := .builtin .append, args := #[s, x], argTypes := #[t, t] })
    (base : Nat) (e : TypeId) (i : TypeInfo) (size : Nat) (ht : P.underlying t = some (.slice e)) (hi : P.info? e = some i)
    (v : Value) (n : Nat) (xs : List Value) (hs : a.eval s = v) (hown : w.ownsRow base e size v n xs) (hx : a.eval x = .slice none 0 0)
    (h : K (a.put o.dst v) w) : if Region.wanted o (yielded ops a.tmps) = true then Oper.wp P o a w K Q else E := by
  have hw : Region.wanted o (yielded ops a.tmps) = true := by simp [Region.wanted, hgd]
  rw [if_pos hw]
  have hr := run_append_owned_none (P := P) (w := w) base t o.type e i size ht hi v n xs hown
  unfold Oper.wp execOp
  simp only [ho, resolve, invoke, builtin, Sem.run_bind, Sem.run_pure, Result.andThen_ok, List.map_toArray, List.map_cons, List.map_nil, hs, hx, hr]
  exact h

set_option maxHeartbeats 4000000 in
set_option maxRecDepth 100000 in
theorem put_nil (B : Nat) (key value : ByteArray) (w : World) (hB : B ≤ w.heap.size) :
    Calls Tryz.prog 51 #[.slice none 0 0, .string key, .string value] w fun e w' => ∃ v' qs', e = .returned v' ∧ Hid (OwnP B w' v' qs') ∧ Hid (PutAt [] key value qs') ∧ Hid (KeptO w w' (.slice none 0 0) [] v' qs') ∧ Below B w w' := by
  obtain ⟨i73, ji, jz0, jz1, jz2⟩ := info_parts info73
  have hs : (w.alloc (.cells #[.string value] 9)).heap.size = w.heap.size + 1 := by simp
  have hb : Below w.heap.size w (((w.alloc (.cells #[.string value] 9)).alloc (.cells #[.string key, .slice (some ⟨w.heap.size, 0, none⟩) 1 1] 73)).drew) :=
    (((Below.refl w.heap.size w).alloc (Nat.le_refl _) _).alloc (by simp) _).drew
  have HW := Lib.hid hb
  have HG : Hid ((((w.alloc (.cells #[.string value] 9)).alloc (.cells #[.string key, .slice (some ⟨w.heap.size, 0, none⟩) 1 1] 73)).drew).heap[w.heap.size]? = some (.cells #[.string value] 9 (0, 0))) := by
    have := blk_below (blk_new w (.cells #[.string value] 9)) ((Below.refl (w.alloc (.cells #[.string value] 9)).heap.size (w.alloc (.cells #[.string value] 9))).alloc (Nat.le_refl _) (.cells #[.string key, .slice (some ⟨w.heap.size, 0, none⟩) 1 1] 73)) (by rw [hs]; omega)
    exact Lib.hid this
  have HS : Hid ((((w.alloc (.cells #[.string value] 9)).alloc (.cells #[.string key, .slice (some ⟨w.heap.size, 0, none⟩) 1 1] 73)).drew).ownsRow w.heap.size 73 2 (.slice (some ⟨w.heap.size + 1, 0, none⟩) 1 1) 1 [.string key, .slice (some ⟨w.heap.size, 0, none⟩) 1 1]) := by
    refine Lib.hid ⟨rfl, Or.inr ⟨w.heap.size + 1, 1, #[.string key, .slice (some ⟨w.heap.size, 0, none⟩) 1 1], rfl, Nat.le_succ _, ?_, Nat.le_refl _, by decide, rfl, rfl⟩⟩
    have := blk_new (w.alloc (.cells #[.string value] 9)) (.cells #[.string key, .slice (some ⟨w.heap.size, 0, none⟩) 1 1] 73)
    rw [hs] at this
    exact this
  have HP : Hid (∀ v', PutAt [] key value [(key, [value], v')]) := Lib.hid (fun v' => ⟨0, Nat.le_refl _, fun i p h => absurd h (Nat.not_lt_zero _), Or.inr ⟨(fun q h => by cases h), v', rfl⟩⟩)
  clear hs hb
  go_enter Tryz.func51, Tryz.ntmps51
  go_wp2
  go_loop [7] (fun i => i = .int .i64 0) (fun i => 0)
  case atStart => exact rfl
  case round =>
    subst hrel
    go_wp2
    go_region_held3 (fun w' => True) (trivial) ((first
      | (refine step_none _ (by rfl) (.tmp 57) (.tmp 60) 44 (by rfl) w.heap.size 73 i73 2 Tryz.underlying44 ji _ 1 _ (by rfl) HS.out (by rfl) ?_)
      | (refine step_lies0 _ (by rfl) (.tmp 52) (.tmp 61) 44 (by rfl) w.heap.size 73 i73 _ 2 40 Tryz.underlying44 ji jz0 jz1 jz2 rfl (by decide) (.slice none 0 0) 0 [] (by rfl) ⟨rfl, Or.inl ⟨rfl, rfl⟩⟩ ⟨w.heap.size + 1, 0, none⟩ 1 1 _ (by rfl) (by rfl) (cells_of_own HS.out) (by simp [Value.oneCell']) (by omega) (by decide) (by omega) HW.out.size ?_
         intro g3 cap3 w2 hown2 hgrow2)))
    have HB2 := Lib.hid (HW.out.grown hgrow2 HW.out.size (fun k h => by cases h))
    have HI := Lib.hid (OwnP.ins (B := B) (qs := []) (k := 0) (v := .slice none 0 0) (key := key) (val := value) (gs := w.heap.size) (v2 := .slice (some ⟨g3, 0, none⟩) (0 + 1) cap3) ⟨⟨rfl, Or.inl ⟨rfl, rfl⟩⟩, (fun q h => by cases h), List.Pairwise.nil⟩ hB HB2.out (owns_mono hown2 hB) (Nat.le_refl _)
      ((hgrow2.block _ (Array.getElem?_eq_some_iff.1 HG.out).1 (by intro e; cases e)).trans HG.out))
    have HK := Lib.hid (kept_ins (v := .slice none 0 0) (qs := []) (k := 0) (key := key) (ys := [value]) (m := 0 + 1) (cap := cap3) HB2.out (owns_ge hown2))
    clear hown2 hgrow2
    go_wp2
    go_ret
    exact ⟨_, _, rfl, HI, HP.out _, HK, HB2.out.mono hB⟩
end Go.Proofs.YtfkgkkmcaaefnaaGreatDoor.Wk
namespace Go.Proofs.YtfkgkkmcaaefnaaGreatDoor.Wk
open Go.RowKit Go.Proofs.YtfkgkkmcaaefnaaGreatDoor.Pu

theorem blt_trans {a b c : List UInt8} (h : Op.bytesLess a b = true) (h2 : Op.bytesLess b c = true) : Op.bytesLess a c = true := by
  rw [bytesLess_eq, decide_eq_true_eq] at *
  exact List.lt_trans h h2
theorem blt_or {a b : List UInt8} (h : Op.bytesLess a b = false) (hne : a ≠ b) : Op.bytesLess b a = true := by
  rw [bytesLess_eq, decide_eq_false_iff_not] at h
  rw [bytesLess_eq, decide_eq_true_eq]
  have h2 : b ≤ a := List.not_lt.1 h
  by_cases h3 : b < a
  · exact h3
  · exact absurd (List.le_antisymm (List.not_lt.1 h3) h2) hne
structure Good (M T : Nat) (qs : List TripB) : Prop where
  srt : (qs.map fun q => q.1.toList).Pairwise fun a b => Op.bytesLess a b = true
  tot : (qs.map fun q => q.2.1.length).sum ≤ T
  siz : ∀ q ∈ qs, q.1.size ≤ M ∧ ∀ y ∈ q.2.1, y.size ≤ M
theorem set_same {α : Type} : ∀ (l : List α) (k : Nat) (a : α), l[k]? = some a → l.set k a = l
  | [], _, _, h => by cases h
  | x :: l, 0, a, h => by cases h; rfl
  | x :: l, k + 1, a, h => by rw [List.set_cons_succ, set_same l k a h]
theorem sum_set : ∀ (l : List Nat) (k a : Nat), l[k]? = some a → (l.set k (a + 1)).sum = l.sum + 1
  | [], _, _, h => by cases h
  | x :: l, 0, a, h => by cases h; simp; omega
  | x :: l, k + 1, a, h => by rw [List.set_cons_succ, List.sum_cons, sum_set l k a h, List.sum_cons]; omega
theorem good_put {M T : Nat} {qs qs' : List TripB} {key val : ByteArray} (hp : PutAt qs key val qs') (h : Good M T qs) (hk : key.size ≤ M) (hv : val.size ≤ M) : Good M (T + 1) qs' ∧ qs' ≠ [] := by
  obtain ⟨k, hkl, hless, hc⟩ := hp
  rcases hc with ⟨q, v', hq, hnl, heq, rfl⟩ | ⟨hq, v', rfl⟩
  · have hm := List.mem_of_getElem? hq
    refine ⟨⟨?_, ?_, ?_⟩, ?_⟩
    · rw [List.map_set, set_same]
      · exact h.srt
      · rw [List.getElem?_map, hq]; rfl
    · rw [List.map_set]
      have : (q.1, q.2.1 ++ [val], v').2.1.length = q.2.1.length + 1 := by simp
      rw [this, sum_set]
      · exact Nat.succ_le_succ h.tot
      · rw [List.getElem?_map, hq]; rfl
    · intro p hp
      rcases List.mem_or_eq_of_mem_set hp with hp | rfl
      · exact h.siz p hp
      · refine ⟨(h.siz q hm).1, fun y hy => ?_⟩
        rcases List.mem_append.1 hy with h1 | h1
        · exact (h.siz q hm).2 y h1
        · rw [List.mem_singleton] at h1; rw [h1]; exact hv
    · intro e
      have := congrArg List.length e
      rw [List.length_set] at this
      rw [List.length_eq_zero_iff.1 this] at hm
      cases hm
  · refine ⟨⟨?_, ?_, ?_⟩, by simp⟩
    · have hs := h.srt
      rw [← List.take_append_drop k qs, List.map_append, List.pairwise_append] at hs
      rw [List.map_append, List.map_cons, List.pairwise_append, List.pairwise_cons]
      have hlt : ∀ a ∈ (qs.take k).map (fun q => q.1.toList), Op.bytesLess a key.toList = true := by
        intro a ha
        obtain ⟨p, hp, rfl⟩ := List.mem_map.1 ha
        obtain ⟨i, hi⟩ := List.mem_iff_getElem?.1 hp
        rw [List.getElem?_take] at hi
        split at hi
        · exact hless i p ‹_› hi
        · cases hi
      have hgt : ∀ b ∈ (qs.drop k).map (fun q => q.1.toList), Op.bytesLess key.toList b = true := by
        intro b hb
        cases hd : qs.drop k with
        | nil => rw [hd] at hb; cases hb
        | cons p r =>
          have hpk : qs[k]? = some p := by rw [← List.head?_drop, hd]; rfl
          obtain ⟨e1, e2⟩ := hq p hpk
          have hkp : Op.bytesLess key.toList p.1.toList = true := blt_or e1 (fun e => by rw [e] at e2; simp at e2)
          rw [hd, List.map_cons] at hb
          rcases List.mem_cons.1 hb with rfl | hb
          · exact hkp
          · have h2 := hs.2.1
            rw [hd, List.map_cons, List.pairwise_cons] at h2
            exact blt_trans hkp (h2.1 b hb)
      refine ⟨hs.1, ⟨hgt, hs.2.1⟩, fun a ha b hb => ?_⟩
      rcases List.mem_cons.1 hb with rfl | hb
      · exact hlt a ha
      · exact hs.2.2 a ha b hb
    · have := h.tot
      rw [← List.take_append_drop k qs, List.map_append, List.sum_append] at this
      rw [List.map_append, List.map_cons, List.sum_append, List.sum_cons]
      simp only [List.length_cons, List.length_nil]
      omega
    · intro p hp
      rcases List.mem_append.1 hp with h1 | h1
      · exact h.siz p (List.mem_of_mem_take h1)
      · rcases List.mem_cons.1 h1 with rfl | h2
        · exact ⟨hk, fun y hy => by rw [List.mem_singleton] at hy; rw [hy]; exact hv⟩
        · exact h.siz p (List.mem_of_mem_drop h2)
theorem good_len {B M T : Nat} {w : World} {v : Value} {qs : List TripB} (h : Good M T qs) (ho : OwnP B w v qs) : qs.length ≤ T ∧ ∀ q ∈ qs, q.2.1.length ≤ T := by
  have gen : ∀ l : List TripB, (∀ q ∈ l, q.2.1 ≠ []) → l.length ≤ (l.map fun q => q.2.1.length).sum ∧ ∀ q ∈ l, q.2.1.length ≤ (l.map fun q => q.2.1.length).sum := by
    intro l
    induction l with
    | nil => intro _; exact ⟨Nat.le_refl _, fun q h => by cases h⟩
    | cons x l ih =>
      intro hne
      obtain ⟨i1, i2⟩ := ih (fun q hq => hne q (List.mem_cons_of_mem _ hq))
      have := List.length_pos_iff.2 (hne x List.mem_cons_self)
      rw [List.length_cons, List.map_cons, List.sum_cons]
      refine ⟨by omega, fun q hq => ?_⟩
      rcases List.mem_cons.1 hq with rfl | hq
      · omega
      · have := i2 q hq; omega
  obtain ⟨g1, g2⟩ := gen qs (fun q hq => (ho.each q hq).1)
  exact ⟨Nat.le_trans g1 h.tot, fun q hq => Nat.le_trans (g2 q hq) h.tot⟩
/-- put, whatever there is -/
theorem put_go {B M T : Nat} (v : Value) (qs : List TripB) (key value : ByteArray) (w : World) (h : OwnP B w v qs) (hv : qs = [] → v = .slice none 0 0) (hg : Good M T qs) (hT : T ≤ 100000) (hB : B ≤ w.heap.size) (hk : key.size ≤ M) (hval : value.size ≤ M) :
    Calls Tryz.prog 51 #[v, .string key, .string value] w fun e w' => ∃ v' qs', e = .returned v' ∧ Hid (OwnP B w' v' qs') ∧ Hid (qs' = [] → v' = .slice none 0 0) ∧ Hid (Good M (T + 1) qs') ∧ Hid (KeptO w w' v qs v' qs') ∧ Below B w w' := by
  obtain ⟨l1, l2⟩ := good_len hg h
  by_cases hq : qs = []
  · subst hq
    rw [hv rfl]
    refine Calls.mono (put_nil B key value w hB) ?_
    rintro e w' ⟨v', qs', rfl, ho, hp, hkept, hb⟩
    obtain ⟨g1, g2⟩ := good_put hp.out hg hk hval
    exact ⟨_, _, rfl, ho, Lib.hid (fun e => absurd e g2), Lib.hid g1, hkept, hb⟩
  · refine Calls.mono (put_any B v qs key value w h (by omega) (fun q hq => Nat.le_trans (l2 q hq) hT) hq hB) ?_
    rintro e w' ⟨v', qs', rfl, ho, hp, hkept, hb⟩
    obtain ⟨g1, g2⟩ := good_put hp.out hg hk hval
    exact ⟨_, _, rfl, ho, Lib.hid (fun e => absurd e g2), Lib.hid g1, hkept, hb⟩
theorem Good.mono {M T T' : Nat} {qs : List TripB} (h : Good M T qs) (ht : T ≤ T') : Good M T' qs := ⟨h.srt, Nat.le_trans h.tot ht, h.siz⟩
theorem good_nil (M T : Nat) : Good M T [] := ⟨List.Pairwise.nil, Nat.zero_le _, fun q h => by cases h⟩
theorem own_nil (B : Nat) (w : World) : OwnP B w (.slice none 0 0) [] := ⟨⟨rfl, Or.inl ⟨rfl, rfl⟩⟩, (fun q h => by cases h), List.Pairwise.nil⟩
theorem owned_lt {B : Nat} {w : World} {v : Value} {qs : List TripB} (h : OwnP B w v qs) {g : Nat} (ho : Owned v qs g) : g < w.heap.size := by
  rcases ho with e | ⟨q, hq, e⟩
  · exact ownsRow_lt h.row e
  · exact ownsRow_lt (h.each q hq).2 e
def cntF (ps : List PairB) : Nat := (ps.map fun p => p.2.length).sum
theorem cnt_next {ps : List PairB} {k : Nat} {p : PairB} (h : ps[k]? = some p) : cntF (ps.take (k + 1)) = cntF (ps.take k) + p.2.length := by
  unfold cntF
  rw [List.take_add_one, h]
  simp
theorem cntF_le (ps : List PairB) (k : Nat) : cntF (ps.take k) ≤ cntF ps := by
  unfold cntF
  conv => rhs; rw [← List.take_append_drop k ps, List.map_append, List.sum_append]
  omega
/-- the pairs as they are read -/
structure PsAt (w : World) (b o : Nat) (ps : List PairB) : Prop where
  lt : b < w.heap.size
  at_ : ∀ (j : Nat) p, ps[j]? = some p → w.cell? ⟨b, o + j * 2, none⟩ = some (.string p.1) ∧ ∃ (ao : Option Addr) (cp : Nat), w.cell? ⟨b, o + j * 2 + 1, none⟩ = some (.slice ao p.2.length cp) ∧ StrSl w (.slice ao p.2.length cp) p.2
theorem PsAt.below {w w' : World} {b o : Nat} {ps : List PairB} (h : PsAt w b o ps) (hb : Below w.heap.size w w') : PsAt w' b o ps := by
  refine ⟨Nat.lt_of_lt_of_le h.lt hb.size, fun j p hj => ?_⟩
  obtain ⟨e1, ao, cp, e2, e3⟩ := h.at_ j p hj
  exact ⟨(hb.cell (p := ⟨b, o + j * 2, none⟩) h.lt).trans e1, ao, cp, (hb.cell (p := ⟨b, o + j * 2 + 1, none⟩) h.lt).trans e2, e3.below hb⟩

set_option maxHeartbeats 8000000 in
set_option maxRecDepth 100000 in
theorem pairs_block (M : Nat) (b o d : Nat) (ps : List PairB) (w : World) (h : PsAt w b o ps) (hn : ps.length ≤ 1073741824) (hz : ∀ p ∈ ps, p.1.size ≤ M ∧ p.2.length ≤ 1073741824 ∧ ∀ y ∈ p.2, y.size ≤ M) :
    Calls Tryz.prog 30 #[.slice (some ⟨b, o, none⟩) ps.length (ps.length + d)] w fun e w' => ∃ v' qs, e = .returned v' ∧ Hid (OwnP w.heap.size w' v' qs) ∧ Hid (qs = [] → v' = .slice none 0 0) ∧ Hid (Good M 2000 qs) ∧ Below w.heap.size w w' := by
  have HP := Lib.hid h
  have HZ := Lib.hid hz
  have hbl := h.lt
  generalize hN : ps.length = n at *
  have HN := Lib.hid hN
  clear hN h hz
  have hb0 := Lib.hid (Below.refl w.heap.size w)
  go_enter Tryz.func30, Tryz.ntmps30
  go_wp2
  go_loopw [3, 16] (fun t i wr => ∃ k : Nat, i = .int .i64 k ∧ k ≤ n ∧ t = .int .i64 (cntF (ps.take k)) ∧ Hid (cntF (ps.take k) ≤ 2000) ∧ (0 < k → n ≤ 2000) ∧ Hid (Below w.heap.size w wr)) (fun _ i _ => n - (intOf i).toNat)
  case atStart => exact ⟨0, rfl, by omega, rfl, Lib.hid (by simp [cntF]), by omega, hb0⟩
  case round =>
    obtain ⟨k, rfl, hk, rfl, ht, hk2, hb⟩ := hrel
    by_cases hlt : k < n
    · obtain ⟨⟨key, ys⟩, hx⟩ : ∃ x, ps[k]? = some x := ⟨_, List.getElem?_eq_getElem (by rw [HN.out]; exact hlt)⟩
      obtain ⟨e1, ao, cp, e2, e3⟩ := (HP.out.below hb.out).at_ k _ hx
      obtain ⟨z1, z2, z3⟩ := HZ.out _ (List.mem_of_getElem? hx)
      have hc := cnt_next hx
      dsimp only at e1 e2 z1 z2 z3 hc
      have htl := ht.out
      have HC2 := Lib.hid hc
      have HB1 := Lib.hid (hb.out.alloc hb.out.size (.cells #[.string key, .slice ao ys.length cp] 73))
      generalize cntF (ps.take k) = t at *
      clear hx e3 z3 hc
      by_cases hbig : t + ys.length ≤ 2000
      · by_cases hn2 : n ≤ 2000
        · go_wp2
          exact ⟨⟨k + 1, by go_num, by omega, by rw [HC2.out, Int.natCast_add], Lib.hid (by rw [HC2.out]; exact hbig), fun _ => hn2, HB1⟩, by simp [intOf]; omega⟩
        · go_wp2
          go_ret
          exact ⟨_, [], rfl, Lib.hid (own_nil _ _), Lib.hid (fun _ => rfl), Lib.hid (good_nil _ _), HB1.out⟩
      · go_wp2
        go_ret
        exact ⟨_, rfl, [], Lib.hid (own_nil _ _), Lib.hid (fun _ => rfl), Lib.hid (good_nil _ _), HB1.out⟩
    · have hkn : k = n := by omega
      have HT : Hid (cntF ps ≤ 2000) := Lib.hid (by have := ht.out; rw [List.take_of_length_le (by rw [HN.out]; omega)] at this; exact this)
      have hn2 : n ≤ 2000 := by
        by_cases h0 : 0 < k
        · exact hk2 h0
        · omega
      generalize cntF (ps.take k) = t at *
      clear hkn ht hk2
      go_wp2
      go_loopw [6, 35] (fun v i wr => ∃ (k : Nat) (qs : List TripB), i = .int .i64 k ∧ k ≤ n ∧ Hid (OwnP w.heap.size wr v qs) ∧ Hid (qs = [] → v = .slice none 0 0) ∧ Hid (Good M (cntF (ps.take k)) qs) ∧ Hid (Below w.heap.size w wr)) (fun _ i _ => n - (intOf i).toNat)
      case atStart => exact ⟨0, [], rfl, by omega, Lib.hid (own_nil _ _), Lib.hid (fun _ => rfl), Lib.hid (good_nil _ _), hb⟩
      case round =>
        obtain ⟨k, qs, rfl, hk, ho, hnil, hg, hb⟩ := hrel
        by_cases hlt : k < n
        · obtain ⟨⟨key, ys⟩, hx⟩ : ∃ x, ps[k]? = some x := ⟨_, List.getElem?_eq_getElem (by rw [HN.out]; exact hlt)⟩
          obtain ⟨e1, ao, cp, e2, e3⟩ := HP.out.at_ k _ hx
          obtain ⟨z1, z2, z3⟩ := HZ.out _ (List.mem_of_getElem? hx)
          have hc := cnt_next hx
          replace e1 := (hb.out.cell (p := ⟨b, o + k * 2, none⟩) hbl).trans e1
          replace e2 := (hb.out.cell (p := ⟨b, o + k * 2 + 1, none⟩) hbl).trans e2
          dsimp only at e1 e2 e3 z1 z2 z3 hc
          have HC2 := Lib.hid hc
          have HT2 : Hid (cntF (ps.take (k + 1)) ≤ 2000) := Lib.hid (Nat.le_trans (cntF_le _ _) HT.out)
          have HZ3 := Lib.hid z3
          have E3 := Lib.hid e3
          have HBa := Lib.hid (hb.out.alloc hb.out.size (.cells #[.string key, .slice ao ys.length cp] 73))
          have HOa := Lib.hid (ho.out.below ((Below.refl wr.heap.size wr).alloc (Nat.le_refl _) (.cells #[.string key, .slice ao ys.length cp] 73)))
          have HNo : Hid (¬ Owned u6 qs wr.heap.size) := Lib.hid (fun h => absurd (owned_lt ho.out h) (Nat.lt_irrefl _))
          have HBX := Lib.hid (blk_new wr (.cells #[.string key, .slice ao ys.length cp] 73))
          have hka : (0 : Int) ≤ ((k + 1 : Nat) : Int) := by omega
          have hkb : ((k + 1 : Nat) : Int) ≤ (n : Int) := by omega
          clear hx e3 z3 hc
          go_upto_region 14 with (fail)
          generalize hW : wr.alloc (.cells #[.string key, .slice ao ys.length cp] 73) = W at *
          have cb0 : W.cell? ⟨wr.heap.size, 0, none⟩ = some (.string key) := by rw [← hW]; exact blk_cell (blk_new wr (.cells #[.string key, .slice ao ys.length cp] 73)) 0
          have cb1 : W.cell? ⟨wr.heap.size, 1, none⟩ = some (.slice ao ys.length cp) := by rw [← hW]; exact blk_cell (blk_new wr (.cells #[.string key, .slice ao ys.length cp] 73)) 1
          have hgb : wr.heap.size < W.heap.size := by rw [← hW]; simp
          have HBb := Lib.hid (show Below w.heap.size w W from HBa.out)
          clear hW
          go_cut [47, 48, 49] from 44 to 49 (fun v47 v48 v49 wx => ∃ ad : Option Addr, v47 = .slice ad (n - (k + 1)) (n + d - (k + 1)) ∧ v48 = .int .i64 (n - (k + 1) : Nat) ∧ v49 = .int .i64 0 ∧ Hid (n + d ≠ k + 1 → ad = some ⟨b, o + (k + 1) * 2, none⟩) ∧ wx = W)
          case first =>
            by_cases hck : n + d = k + 1
            · go_wp2
              rw [← hck]
              go_meet
              case rel => exact ⟨some ⟨b, o, none⟩, by rw [hck, Nat.sub_self], by rw [hck], rfl, Lib.hid (fun h2 => absurd hck h2), rfl⟩
            · go_wp2
              go_meet
              case rel => exact ⟨_, rfl, rfl, rfl, Lib.hid (fun _ => rfl), rfl⟩
          case rest =>
            obtain ⟨ad, rfl, rfl, rfl, had, rfl⟩ := hcut
            generalize wr.heap.size = gb at *
            go_wp2
            have hbI := Lib.hid (Below.refl wc.heap.size wc)
            go_loopw [9, 49] (fun v9 i wx => ∃ (q : Bool) (j : Nat), v9 = .bool q ∧ i = .int .i64 j ∧ j ≤ n - (k + 1) ∧ Hid (Below wc.heap.size wc wx)) (fun _ i _ => n - (k + 1) - (intOf i).toNat)
            case atStart => exact ⟨_, 0, rfl, rfl, by omega, hbI⟩
            case round =>
              obtain ⟨q, j, rfl, rfl, hj, hbj⟩ := hrel
              have g1 := (hbj.out.cell (p := ⟨gb, 0, none⟩) hgb).trans cb0
              have g2 := (hbj.out.cell (p := ⟨gb, 1, none⟩) hgb).trans cb1
              by_cases hjl : j < n - (k + 1)
              · obtain ⟨⟨key2, ys2⟩, hx2⟩ : ∃ x, ps[k + 1 + j]? = some x := ⟨_, List.getElem?_eq_getElem (by rw [HN.out]; omega)⟩
                obtain ⟨f1, ao2, cp2, f2, f3⟩ := (HP.out.below (HBb.out.trans (hbj.out.mono HBb.out.size))).at_ (k + 1 + j) _ hx2
                obtain rfl := had.out (by omega)
                rw [show o + (k + 1 + j) * 2 = o + (k + 1) * 2 + j * 2 by omega] at f1 f2
                have HBj := Lib.hid (hbj.out.alloc hbj.out.size (.cells #[.string key2, .slice ao2 ys2.length cp2] 73))
                have hgw : gb < wr.heap.size := Nat.lt_of_lt_of_le hgb hbj.out.size
                have g3 := (((Below.refl wr.heap.size wr).alloc (Nat.le_refl _) (.cells #[.string key2, .slice ao2 ys2.length cp2] 73)).cell (p := ⟨gb, 0, none⟩) hgw).trans g1
                dsimp only at f1 f2
                clear hx2 f3
                cases q
                · go_wp2
                  exact ⟨⟨_, j + 1, rfl, by go_num, by omega, HBj⟩, by simp [intOf]; omega⟩
                · go_wp2
                  all_goals exact ⟨⟨_, j + 1, rfl, by go_num, by omega, HBj⟩, by simp [intOf]; omega⟩
              · have HOb := Lib.hid (HOa.out.below hbj.out)
                have HBc := Lib.hid (HBb.out.trans (hbj.out.mono HBb.out.size))
                have HBX2 := Lib.hid (blk_below HBX.out hbj.out hgb)
                have hgw : gb < wr.heap.size := Nat.lt_of_lt_of_le hgb hbj.out.size
                clear hbj cb0 cb1 HOa HBX HBb had
                go_wp2
                clear g1 g2 hbI hgb
                go_loopw [6, 71] (fun v6 i wx => ∃ (m : Nat) (qs' : List TripB), i = .int .i64 m ∧ m ≤ ys.length ∧ Hid (OwnP w.heap.size wx v6 qs') ∧ Hid (qs' = [] → v6 = .slice none 0 0) ∧ Hid (Good M (cntF (ps.take k) + m) qs') ∧ Hid (¬ Owned v6 qs' gb) ∧
                  Hid (gb < wx.heap.size ∧ wx.heap[gb]? = some (.cells #[.string key, .slice ao ys.length cp] 73 (0, 0))) ∧ Hid (Below w.heap.size w wx)) (fun _ i _ => ys.length - (intOf i).toNat)
                case atStart => exact ⟨0, qs, rfl, by omega, HOb, hnil, hg, HNo, Lib.hid ⟨hgw, HBX2.out⟩, HBc⟩
                case round =>
                  clear HOb HBX2 HNo HBc
                  obtain ⟨m, qs', rfl, hm, HO1, hn1, hg1, HNo1, HX1, HB1⟩ := hrel
                  by_cases hml : m < ys.length
                  · obtain ⟨y, hy⟩ : ∃ y, ys[m]? = some y := ⟨_, List.getElem?_eq_getElem hml⟩
                    obtain ⟨p1, q1, rfl, r1, t1⟩ := E3.out.at hy
                    have e1 := (HB1.out.cell (p := ⟨p1, q1 + m, none⟩) r1).trans t1
                    have hyz := HZ3.out y (List.mem_of_getElem? hy)
                    cases q
                    · have HG2 := Lib.hid (hg1.out.mono (Nat.le_succ _))
                      clear hy t1
                      go_wp2
                      exact ⟨⟨m + 1, qs', by go_num, by omega, HO1, hn1, HG2, HNo1, HX1, HB1⟩, by simp [intOf]; omega⟩
                    · have c0 := blk_cell HX1.out.2 0
                      have hT : cntF (ps.take k) + m ≤ 100000 := by have h1 := HC2.out; have h2 := HT2.out; omega
                      clear hy t1
                      go_wp2_with (fail)
                      refine Calls.mono (put_go (B := w.heap.size) (M := M) (T := cntF (ps.take k) + m) _ qs' key y _ HO1.out hn1.out hg1.out hT HB1.out.size z1 hyz) ?_
                      rintro e wy ⟨v', qs2, rfl, HO2, hn2', hg2, hkept, hby⟩
                      obtain ⟨k1, k2⟩ := hkept.out gb HX1.out.1 HNo1.out
                      have HX2 := Lib.hid (And.intro (Nat.lt_of_lt_of_le HX1.out.1 hby.size) (k1.trans HX1.out.2))
                      have HNo2 := Lib.hid k2
                      have HB2 := Lib.hid (HB1.out.trans hby)
                      clear hkept k1 k2 hby c0
                      go_wp2
                      exact ⟨⟨m + 1, qs2, by go_num, by omega, HO2, hn2', hg2, HNo2, HX2, HB2⟩, by simp [intOf]; omega⟩
                  · have hme : m = ys.length := by omega
                    have HG2 : Hid (Good M (cntF (ps.take (k + 1))) qs') := Lib.hid (by rw [HC2.out, ← hme]; exact hg1.out)
                    clear hme
                    go_wp2
                    exact ⟨⟨k + 1, qs', by go_num, by omega, HO1, hn1, HG2, HB1⟩, by simp [intOf]; omega⟩
        · go_wp2
          go_ret
          exact ⟨_, _, rfl, ho, hnil, Lib.hid ((hg.out.mono (cntF_le _ _)).mono HT.out), hb.out⟩

set_option maxHeartbeats 2000000 in
set_option maxRecDepth 100000 in
theorem pairs_nil (M : Nat) (ao : Option Addr) (c : Nat) (w : World) :
    Calls Tryz.prog 30 #[.slice ao 0 c] w fun e w' => ∃ v' qs, e = .returned v' ∧ Hid (OwnP w.heap.size w' v' qs) ∧ Hid (qs = [] → v' = .slice none 0 0) ∧ Hid (Good M 2000 qs) ∧ Below w.heap.size w w' := by
  go_enter Tryz.func30, Tryz.ntmps30
  go_wp2
  refine wp_loop_rounds 1 ?_; rw [rounds_succ]; go_wp2
  refine wp_loop_rounds 1 ?_; rw [rounds_succ]; go_wp2
  go_ret
  exact ⟨_, [], rfl, Lib.hid (own_nil _ _), Lib.hid (fun _ => rfl), Lib.hid (good_nil _ _), Below.refl _ _⟩
/-- an argument that is a list of keys with their values -/
def PArg (w : World) (v : Value) (ps : List PairB) : Prop :=
  (ps = [] ∧ ∃ (ao : Option Addr) (c : Nat), v = .slice ao 0 c) ∨ ∃ b o d : Nat, v = .slice (some ⟨b, o, none⟩) ps.length (ps.length + d) ∧ PsAt w b o ps
theorem pairs_any (M : Nat) (v : Value) (ps : List PairB) (w : World) (h : PArg w v ps) (hn : ps.length ≤ 1073741824) (hz : ∀ p ∈ ps, p.1.size ≤ M ∧ p.2.length ≤ 1073741824 ∧ ∀ y ∈ p.2, y.size ≤ M) :
    Calls Tryz.prog 30 #[v] w fun e w' => ∃ v' qs, e = .returned v' ∧ Hid (OwnP w.heap.size w' v' qs) ∧ Hid (qs = [] → v' = .slice none 0 0) ∧ Hid (Good M 2000 qs) ∧ Below w.heap.size w w' := by
  rcases h with ⟨rfl, ao, c, rfl⟩ | ⟨b, o, d, rfl, h⟩
  · exact pairs_nil M ao c w
  · exact pairs_block M b o d ps w h hn hz
theorem PArg.sl {w : World} {v : Value} {ps : List PairB} (h : PArg w v ps) : PairSl w v ps := by
  rcases h with h | ⟨b, o, d, rfl, h⟩
  · exact Or.inl h
  · refine Or.inr ⟨b, o, _, rfl, h.lt, fun j p hj => ?_⟩
    obtain ⟨e1, ao, cp, e2, e3⟩ := h.at_ j p hj
    exact ⟨e1, _, e2, e3⟩
theorem strSl_of_owns {w : World} {base n : Nat} {v : Value} {ys : List ByteArray} (h : w.ownsRow base 9 1 v n (ys.map Value.string)) : StrSl w v ys := by
  obtain ⟨hl, hr⟩ := h
  rw [List.length_map, Nat.mul_one] at hl
  rcases hr with ⟨rfl, rfl⟩ | ⟨g, cap, cur, rfl, _, hg, _⟩
  · exact Or.inl ⟨List.length_eq_zero_iff.1 hl, none, 0, rfl⟩
  · refine Or.inr ⟨g, 0, cap, by rw [hl], (Array.getElem?_eq_some_iff.1 hg).1, fun j y hj => ?_⟩
    have hc := cells_of_own (g := g) (n := n) (cap := cap) (w := w) (base := base) (e := 9) (size := 1) (m := n) (xs := ys.map Value.string) ⟨by rw [List.length_map, hl, Nat.mul_one], Or.inr ⟨g, cap, cur, rfl, ‹_›, hg, ‹_›⟩⟩ j (.string y) (by rw [List.getElem?_map, hj]; rfl)
    rwa [addr_add] at hc
/-- the settings of an own list -/
def plainT (qs : List TripB) : List PairB := qs.map fun q => (q.1, q.2.1)
theorem OwnP.psAt {B : Nat} {w : World} {v : Value} {qs : List TripB} (h : OwnP B w v qs) (hn : qs ≠ []) : ∃ g cap, v = .slice (some ⟨g, 0, none⟩) qs.length cap ∧ qs.length ≤ cap ∧ PsAt w g 0 (plainT qs) := by
  obtain ⟨g, cap, rfl, _, hg, hc, _, hcell, _⟩ := h.block hn
  refine ⟨g, cap, rfl, hc, hg, fun j p hj => ?_⟩
  unfold plainT at hj
  rw [List.getElem?_map] at hj
  cases hq : qs[j]? with
  | none => rw [hq] at hj; cases hj
  | some q =>
    rw [hq] at hj
    cases hj
    obtain ⟨f1, f2⟩ := flat_at qs j q hq
    have hs := strSl_of_owns (h.each q (List.mem_of_getElem? hq)).2
    obtain ⟨ao, cp, e⟩ := hs.shape
    have c1 := hcell _ _ f1
    have c2 := hcell _ _ f2
    rw [e] at c2 hs
    refine ⟨by rw [Nat.zero_add]; exact c1, ao, cp, by rw [Nat.zero_add]; exact c2, hs⟩
theorem OwnP.arg {B : Nat} {w : World} {v : Value} {qs : List TripB} (h : OwnP B w v qs) (hv : qs = [] → v = .slice none 0 0) : PArg w v (plainT qs) := by
  by_cases hq : qs = []
  · subst hq
    exact Or.inl ⟨rfl, none, 0, hv rfl⟩
  · obtain ⟨g, cap, rfl, hc, hp⟩ := h.psAt hq
    refine Or.inr ⟨g, 0, cap - qs.length, ?_, hp⟩
    unfold plainT
    rw [List.length_map, Nat.add_sub_cancel' hc]
end Go.Proofs.YtfkgkkmcaaefnaaGreatDoor.Wk
