/-
  impl.pairs, QueryOf.
  impl.pairs.
  QueryOf.
-/
import Derived.Test.YtfkgkkmcaaefnaaGreatDoorN9
import Derived.Laws.CopyOwn
set_option linter.unusedSimpArgs false
set_option linter.unusedVariables false
namespace Go.Proofs.YtfkgkkmcaaefnaaGreatDoor.Wk
open Go.RowKit Go.Proofs.YtfkgkkmcaaefnaaGreatDoor.Pu Go.Maps

/-- copy of elements of more cells than one, within rows -/
theorem run_copy_rows {P : Program} (w : World) (dT sT ty elem : TypeId) (size : Nat) (g o dLen dCap : Nat) (a : Addr) (sLen sCap : Nat) (cur : Array Value) (t : TypeId) (cs : List Value)
    (hu : P.underlying dT = some (.slice elem)) (hs : (P.info? elem).map (·.size) = some size)
    (hg : w.heap[g]? = some (.cells cur t (0, 0))) (hn : cs.length = Nat.min sLen dLen * size)
    (hsrc : ∀ j v, cs[j]? = some v → w.cell? (a.add j) = some v) (hfit : o + cs.length ≤ cur.size) (h1 : ∀ v ∈ cs, v.oneCell' = true) :
    (Builtin.copy_ #[dT, sT] ty #[.slice (some ⟨g, o, none⟩) dLen dCap, .slice (some a) sLen sCap]).run P w =
      .ok (goInt (Nat.min sLen dLen)) (w.setRow g (cur.toList.take o ++ cs ++ cur.toList.drop (o + cs.length)).toArray) := by
  have hl := run_loadCells_list (P := P) w a cs hsrc
  have hst := run_storeCells_at P g o t cs 0 cur w hg (by simpa using hfit) h1
  cases hq : P.info? elem with
  | none => simp [hq] at hs
  | some i =>
    have hi : i.size = size := by simpa [hq] using hs
    simp [Builtin.copy_, run_underlying hu, Builtin.lenOf, Builtin.firstCells, sizeOf, typeInfo, hq, hi, ← hn, hl, hst]
theorem run_copy_zero {P : Program} (w : World) (dT sT ty elem : TypeId) (d a : Option Addr) (dLen dCap sLen sCap : Nat) (hu : P.underlying dT = some (.slice elem)) (hs : ((P.info? elem).map (·.size)).isSome = true) (hn : Nat.min sLen dLen = 0) :
    (Builtin.copy_ #[dT, sT] ty #[.slice d dLen dCap, .slice a sLen sCap]).run P w = .ok (goInt 0) w := by
  cases hq : P.info? elem with
  | none => simp [hq] at hs
  | some i =>
    cases d <;> cases a <;> simp [Builtin.copy_, run_underlying hu, Builtin.lenOf, Builtin.firstCells, sizeOf, typeInfo, hq, hn, storeCells, loadCells, loadCellsFrom]
/-- behind a copy within one row: the same row, its cells shifted -/
theorem step_copy2 {P : Program} {ops : Array Oper} {o : Oper} {a : Act} {w : World} {K : Act → World → Prop} {Q : Exit → Act → World → Prop} {E : Prop} (hgd : o.guard = none) (d s : Operand) (dT sT : TypeId)
    (ho : o.op = .call { callee := .builtin .copy, args := #[d, s], argTypes := #[dT, sT] }) (elem : TypeId) (size : Nat) (hu : P.underlying dT = some (.slice elem)) (hsz : (P.info? elem).map (·.size) = some size)
    (dp sp : Option Addr) (dLen dCap sLen sCap : Nat) (hd : a.eval d = .slice dp dLen dCap) (hs : a.eval s = .slice sp sLen sCap)
    (g off : Nat) (cur : Array Value) (t : TypeId) (hg : w.heap[g]? = some (.cells cur t (0, 0))) (cs : List Value) (hn : cs.length = Nat.min sLen dLen * size)
    (hpos : 0 < Nat.min sLen dLen → dp = some ⟨g, off, none⟩ ∧ ∃ ad, sp = some ad ∧ ∀ j v, cs[j]? = some v → w.cell? (ad.add j) = some v)
    (hfit : off + cs.length ≤ cur.size) (h1 : ∀ v ∈ cs, v.oneCell' = true)
    (h : ∀ w', w'.heap[g]? = some (.cells (cur.toList.take off ++ cs ++ cur.toList.drop (off + cs.length)).toArray t (0, 0)) → w.grownBy w' (some g) → K (a.put o.dst (goInt (Nat.min sLen dLen))) w') :
    if Region.wanted o (yielded ops a.tmps) = true then Oper.wp P o a w K Q else E := by
  have hw : Region.wanted o (yielded ops a.tmps) = true := by simp [Region.wanted, hgd]
  rw [if_pos hw]
  by_cases h0 : Nat.min sLen dLen = 0
  · have hc0 : cs = [] := List.eq_nil_of_length_eq_zero (by rw [hn, h0, Nat.zero_mul])
    have hrun := run_copy_zero (P := P) w dT sT o.type elem dp sp dLen dCap sLen sCap hu (by rw [hsz]; rfl) h0
    unfold Oper.wp
    simp [execOp, ho, resolve, invoke, builtin, hd, hs, hrun, Result.andThen]
    have := h w (by rw [hc0]; simpa using hg) ⟨rfl, rfl, rfl, Nat.le_refl _, fun _ _ _ => rfl⟩
    rw [h0] at this
    exact this
  · obtain ⟨rfl, ad, rfl, hsrc⟩ := hpos (by omega)
    have hrun := run_copy_rows (P := P) w dT sT o.type elem size g off dLen dCap ad sLen sCap cur t cs hu hsz hg hn hsrc hfit h1
    unfold Oper.wp
    simp [execOp, ho, resolve, invoke, builtin, hd, hs, hrun, Result.andThen]
    exact h _ (by simpa using setRow_heap w g _ _ t _ hg) ⟨rfl, rfl, rfl, by simp [World.setRow], fun k hk hne => setRow_other w g k _ (fun e => hne (by rw [e]))⟩
end Go.Proofs.YtfkgkkmcaaefnaaGreatDoor.Wk
namespace Go.Proofs.YtfkgkkmcaaefnaaGreatDoor.Wk
open Go.RowKit Go.Proofs.YtfkgkkmcaaefnaaGreatDoor.Pu Go.Maps

/-- the list that is handed back: own, its rows own -/
structure OutP (B : Nat) (w : World) (v : Value) (qs : List TripB) : Prop where
  row : w.ownsRow B 73 2 v qs.length (flatT qs)
  each : ∀ q ∈ qs, w.ownsRow B 9 1 q.2.2 q.2.1.length (q.2.1.map Value.string)
theorem OutP.nil (B : Nat) (w : World) : OutP B w (.slice none 0 0) [] := ⟨⟨rfl, Or.inl ⟨rfl, rfl⟩⟩, fun q h => by cases h⟩
theorem OutP.kept {B : Nat} {w w' : World} {v : Value} {qs : List TripB} {row : Option Nat} (h : OutP B w v qs) (hg : w.grownBy w' row) (hr : ∀ k, row = some k → k < B) : OutP B w' v qs := by
  refine ⟨owns_block h.row (fun k hk => hg.block k (ownsRow_lt h.row hk) (fun e => ?_)), fun q hq => owns_block (h.each q hq) (fun k hk => hg.block k (ownsRow_lt (h.each q hq) hk) (fun e => ?_))⟩
  · have := own_ge h.row k hk; have := hr k e.symm; omega
  · have := own_ge (h.each q hq) k hk; have := hr k e.symm; omega
theorem OutP.shape {B : Nat} {w : World} {v : Value} {qs : List TripB} (h : OutP B w v qs) : ∃ (ao : Option Addr) (c : Nat), v = .slice ao qs.length c := by
  rcases h.row.2 with ⟨rfl, h0⟩ | ⟨g, cap, cur, rfl, _⟩
  · exact ⟨none, 0, by rw [h0]⟩
  · exact ⟨_, _, rfl⟩
theorem OutP.at {B : Nat} {w : World} {ao : Option Addr} {n c : Nat} {qs : List TripB} (h : OutP B w (.slice ao n c) qs) {k : Nat} {q : TripB} (hk : qs[k]? = some q) : ∃ g, ao = some ⟨g, 0, none⟩ ∧ w.cell? ⟨g, k * 2, none⟩ = some (.string q.1) := by
  rcases h.row.2 with ⟨h0, h1⟩ | ⟨g, cap, cur, he, _⟩
  · rw [List.length_eq_zero_iff.1 h1] at hk; cases hk
  · injection he with h1 h2 h3
    subst h1 h2 h3
    refine ⟨g, rfl, ?_⟩
    have := cells_of_own h.row _ _ (flat_at qs k q hk).1
    rwa [addr_add, Nat.zero_add] at this

theorem encStr_data (b : ByteArray) : encStr b.data.toList = .string b := by simp [encStr]
/-- what the map holds behind a key that has come -/
theorem came {B : Nat} {D : DataW Value} {qm : List TripB} {w : World} {x : L} {ca : Option Addr} {cm cc : Nat} {yd : DataW Value} {yp : List MemPlace} (hI : IsOf D (entT qm)) (hO : OwnM B w qm)
    (hv : tokR (Value.slice ca cm cc) = some (yd, yp)) (hat : ∀ zd : DataW Value, D.atKey (.string x) zd = yd) :
    ∃ (p : TripB) (gp : Nat), p ∈ qm ∧ p.1.data.toList = x ∧ ca = some ⟨gp, 0, none⟩ ∧ cm = p.2.1.length ∧ gp < w.heap.size ∧ p.2.1 ≠ [] ∧ ∀ (j : Nat) (u : Value), (p.2.1.map Value.string)[j]? = some u → w.cell? ((⟨gp, 0, none⟩ : Addr).add j) = some u := by
  have hx := (hI.has_ x).1 (has_true_of_atKey hat)
  obtain ⟨e, he, h1⟩ := List.mem_map.1 hx
  have he0 := he
  obtain ⟨p, hp, rfl⟩ := List.mem_map.1 he
  dsimp only at h1
  have h2 := hI.at_ x p.2.2 (by rw [← h1]; exact he0) .nil
  rw [hat] at h2
  simp only [tokR, Option.some.injEq, Prod.mk.injEq] at hv
  rw [← hv.1] at h2
  have h3 : Value.slice ca cm cc = p.2.2 := by injection h2
  obtain ⟨e1, e2⟩ := hO.each p hp
  rw [← h3] at e2
  have e3 := e2
  rcases e2.2 with ⟨_, h0⟩ | ⟨gp, cap, cur, he, _, hg, _⟩
  · exact absurd (List.length_eq_zero_iff.1 h0) e1
  · injection he with i1 i2 i3
    subst i1 i2 i3
    exact ⟨p, gp, hp, h1, rfl, rfl, (Array.getElem?_eq_some_iff.1 hg).1, e1, cells_of_own e3⟩

theorem rows_far {B g : Nat} {w w' : World} {qs : List TripB} {cur : Array Value} {f : Nat × Nat} (h : ∀ q ∈ qs, w.ownsRow B 9 1 q.2.2 q.2.1.length (q.2.1.map Value.string)) (hg : w.heap[g]? = some (.cells cur 73 f)) (hgr : w.grownBy w' (some g)) :
    ∀ q ∈ qs, w'.ownsRow B 9 1 q.2.2 q.2.1.length (q.2.1.map Value.string) := by
  intro q hq
  refine owns_block (h q hq) (fun k hk => hgr.block k (ownsRow_lt (h q hq) hk) (fun e => ?_))
  have e1 : k = g := Option.some.inj e
  subst e1
  rcases (h q hq).2 with ⟨h0, _⟩ | ⟨g2, cap2, cur2, h0, _, hg2, _⟩
  · rw [h0] at hk; cases hk
  · rw [h0] at hk
    have e3 : g2 = k := Option.some.inj hk
    rw [e3, hg] at hg2; cases hg2
theorem size73 : (Tryz.prog.info? 73).map (·.size) = some 2 := by kernel_rfl
theorem OutP.one {B : Nat} {w : World} {v : Value} {qs : List TripB} (h : OutP B w v qs) : ∀ u ∈ flatT qs, u.oneCell' = true := by
  intro u hu
  unfold flatT at hu
  rw [List.mem_flatMap] at hu
  obtain ⟨q, hq, hm⟩ := hu
  rcases List.mem_cons.1 hm with rfl | hm
  · rfl
  · rw [List.mem_singleton] at hm
    subst hm
    rcases (h.each q hq).2 with ⟨h0, _⟩ | ⟨g, cap, cur, h0, _⟩
    · rw [h0]; rfl
    · rw [h0]; rfl
theorem OutP.rows {B : Nat} {w w' : World} {v : Value} {qs : List TripB} (h : OutP B w v qs) (hg : w.grownBy w' v.ownBlock) : ∀ q ∈ qs, w'.ownsRow B 9 1 q.2.2 q.2.1.length (q.2.1.map Value.string) := by
  intro q hq
  refine owns_block (h.each q hq) (fun k hk => hg.block k (ownsRow_lt (h.each q hq) hk) (fun e => ?_))
  rcases h.row.2 with ⟨rfl, _⟩ | ⟨g, cap, cur, rfl, _, hg1, _⟩
  · cases e
  · have e1 : k = g := Option.some.inj e
    subst e1
    rcases (h.each q hq).2 with ⟨h0, _⟩ | ⟨g2, cap2, cur2, h0, _, hg2, _⟩
    · rw [h0] at hk; cases hk
    · rw [h0] at hk
      have e3 : g2 = k := Option.some.inj hk
      rw [e3, hg1] at hg2; cases hg2
theorem ins_cells (cur1 A D : List Value) (k : Nat) (x y : Value) (hA : A.length = k * 2) (hlen : (k + 1) * 2 + D.length ≤ cur1.length) (h : cur1.take (k * 2) = A) :
    (((cur1.take ((k + 1) * 2) ++ D ++ cur1.drop ((k + 1) * 2 + D.length)).set (k * 2) x).set (k * 2 + 1) y).take ((k + 1) * 2 + D.length) = A ++ [x, y] ++ D := by
  have e1 : (k + 1) * 2 = k * 2 + 1 + 1 := by omega
  obtain ⟨a, ha⟩ : ∃ a, cur1[k * 2]? = some a := ⟨_, List.getElem?_eq_getElem (by omega)⟩
  obtain ⟨b, hb⟩ : ∃ b, cur1[k * 2 + 1]? = some b := ⟨_, List.getElem?_eq_getElem (by omega)⟩
  have e2 : cur1.take ((k + 1) * 2) = A ++ [a, b] := by
    rw [e1, List.take_add_one, List.take_add_one, h, ha, hb]; simp
  rw [e2]
  have e3 : ((A ++ [a, b] ++ D ++ cur1.drop ((k + 1) * 2 + D.length)).set (k * 2) x).set (k * 2 + 1) y = A ++ [x, y] ++ D ++ cur1.drop ((k + 1) * 2 + D.length) := by
    rw [List.append_assoc, List.append_assoc, List.set_append_right _ _ (by omega), hA, Nat.sub_self, List.set_append_right _ _ (by omega), hA]
    simp
  rw [e3, List.take_append_of_le_length (by simp; omega), List.take_of_length_le (by simp; omega)]
theorem out_round {B n k g1 c1 : Nat} {w5 : World} {cs5 cur1 : Array Value} {qs : List TripB} {key : ByteArray} {ys : List ByteArray} {v5 : Value} {Z : List Value} (hN : qs.length = n) (hk : k ≤ n) (hb1 : B ≤ g1) (hc1 : n + 1 ≤ c1) (hm1 : c1 ≤ maxLen)
    (hgc : w5.heap[g1]? = some (.cells cs5 73 (0, 0))) (hcs : cs5 = (List.take ((k + 1) * 2) cur1.toList ++ flatT (List.drop k qs) ++ List.drop ((k + 1) * 2 + (flatT (List.drop k qs)).length) cur1.toList).toArray)
    (hs1 : cur1.size = c1 * 2) (ht1 : List.take ((n + 1) * 2) cur1.toList = flatT qs ++ Z) (hrows : ∀ q ∈ qs, w5.ownsRow B 9 1 q.2.2 q.2.1.length (q.2.1.map Value.string)) (hnew : w5.ownsRow B 9 1 v5 ys.length (ys.map Value.string)) :
    OutP B ((w5.setCell ⟨g1, k * 2, none⟩ (.string key)).setCell ⟨g1, k * 2 + 1, none⟩ v5) (.slice (some ⟨g1, 0, none⟩) (n + 1) c1) (qs.take k ++ (key, ys, v5) :: qs.drop k) := by
  have hl : (qs.take k ++ (key, ys, v5) :: qs.drop k).length = n + 1 := by
    rw [List.length_append, List.length_cons, List.length_take, List.length_drop]; omega
  have h1 : (w5.setCell ⟨g1, k * 2, none⟩ (.string key)).heap[g1]? = _ := blk_set hgc (k * 2) (.string key)
  have h2 : ((w5.setCell ⟨g1, k * 2, none⟩ (.string key)).setCell ⟨g1, k * 2 + 1, none⟩ v5).heap[g1]? = _ := blk_set h1 (k * 2 + 1) v5
  have far : ∀ qs : List TripB, (∀ q ∈ qs, w5.ownsRow B 9 1 q.2.2 q.2.1.length (q.2.1.map Value.string)) → ∀ q ∈ qs, ((w5.setCell ⟨g1, k * 2, none⟩ (.string key)).setCell ⟨g1, k * 2 + 1, none⟩ v5).ownsRow B 9 1 q.2.2 q.2.1.length (q.2.1.map Value.string) :=
    fun qs h => rows_far (rows_far h hgc (grown_set _ _ _ _)) h1 (grown_set _ _ _ _)
  have hcl : cur1.toList.length = c1 * 2 := by rw [Array.length_toList]; exact hs1
  have hdl : (flatT (qs.drop k)).length = (n - k) * 2 := by rw [flat_len, List.length_drop, hN]
  have htk : cur1.toList.take (k * 2) = flatT (qs.take k) := by
    have h3 := congrArg (List.take (k * 2)) ht1
    rw [List.take_take, Nat.min_eq_left (by omega), List.take_append_of_le_length (by rw [flat_len]; omega), flat_take] at h3
    exact h3
  have hcsz : cs5.size = c1 * 2 := by
    rw [hcs]
    simp only [List.size_toArray, List.length_append, List.length_take, List.length_drop]
    omega
  refine ⟨⟨by rw [flat_len], Or.inr ⟨g1, c1, _, by rw [hl], hb1, h2, by rw [hl]; exact hc1, hm1, by rw [Array.size_setIfInBounds, Array.size_setIfInBounds]; exact hcsz, ?_⟩⟩, ?_⟩
  · have h4 := ins_cells cur1.toList (flatT (qs.take k)) (flatT (qs.drop k)) k (.string key) v5 (by rw [flat_len, List.length_take]; omega) (by omega) htk
    rw [hl, Array.toList_setIfInBounds, Array.toList_setIfInBounds, hcs, show (n + 1) * 2 = (k + 1) * 2 + (flatT (qs.drop k)).length by omega]
    refine h4.trans ?_
    rw [flat_app, flat_cons]
    simp
  · intro q hq
    rcases List.mem_append.1 hq with hq | hq
    · exact far qs hrows q (List.mem_of_mem_take hq)
    · rcases List.mem_cons.1 hq with rfl | hq
      · exact far [(key, ys, v5)] (fun q hq => by rw [List.mem_singleton] at hq; subst hq; exact hnew) _ (by simp)
      · exact far qs hrows q (List.mem_of_mem_drop hq)
theorem perm_ins {ss : List L} {qs : List TripB} {key : ByteArray} {ys : List ByteArray} {v : Value} (k : Nat) (h : ss.Perm (qs.map fun q => q.1.data.toList)) : (ss ++ [key.data.toList]).Perm ((qs.take k ++ (key, ys, v) :: qs.drop k).map fun q => q.1.data.toList) := by
  rw [← List.take_append_drop k qs, List.map_append] at h
  rw [List.map_append, List.map_cons]
  exact (List.perm_append_comm.trans (h.cons key.data.toList)).trans List.perm_middle.symm
theorem srt_ins {qs : List TripB} {key : ByteArray} {ys : List ByteArray} {v : Value} {k : Nat} (hs : (qs.map fun q => q.1.toList).Pairwise fun a b => Op.bytesLess a b = true) (hl : ∀ (i : Nat) q, i < k → qs[i]? = some q → Op.bytesLess q.1.toList key.toList = true)
    (hg : ∀ (i : Nat) q, k ≤ i → qs[i]? = some q → Op.bytesLess key.toList q.1.toList = true) : ((qs.take k ++ (key, ys, v) :: qs.drop k).map fun q => q.1.toList).Pairwise fun a b => Op.bytesLess a b = true := by
  rw [← List.take_append_drop k qs, List.map_append, List.pairwise_append] at hs
  rw [List.map_append, List.map_cons, List.pairwise_append, List.pairwise_cons]
  refine ⟨hs.1, ⟨fun b hb => ?_, hs.2.1⟩, fun a ha b hb => ?_⟩
  · obtain ⟨p, hp, rfl⟩ := List.mem_map.1 hb
    obtain ⟨i, hi⟩ := List.mem_iff_getElem?.1 hp
    rw [List.getElem?_drop] at hi
    exact hg (k + i) p (by omega) hi
  · rcases List.mem_cons.1 hb with rfl | hb
    · obtain ⟨p, hp, rfl⟩ := List.mem_map.1 ha
      obtain ⟨i, hi⟩ := List.mem_iff_getElem?.1 hp
      rw [List.getElem?_take] at hi
      split at hi
      · exact hl i p ‹_› hi
      · cases hi
    · exact hs.2.2 a ha b hb
set_option maxHeartbeats 8000000 in
set_option maxRecDepth 100000 in
theorem pairsOf_any (B bm nn : Nat) (D : DataW Value) (qm : List TripB) (w : World) (hm : w.ownsMap Tryz.prog 9 tokR bm nn D) (hI : IsOf D (entT qm)) (hO : OwnM B w qm) (hn : qm.length ≤ 2000) (hl : ∀ q ∈ qm, q.2.1.length ≤ 2000) :
    Calls Tryz.prog 54 #[.map (some bm)] w fun e w' => ∃ (v : Value) (qs : List TripB) (ss : List L), e = .returned v ∧ Hid (OutP w.heap.size w' v qs) ∧ Hid ((qs.map fun q => q.1.toList).Pairwise fun a b => Op.bytesLess a b = true) ∧ Hid (ss.Perm (strKeys D)) ∧ Hid (ss.Perm (qs.map fun q => q.1.data.toList)) ∧
      Hid (∀ q ∈ qs, (q.1, q.2.1) ∈ plainT qm) ∧ Below w.heap.size w w' := by
  have hsz : Maps.size D = qm.length := by rw [size_of hm hI]; unfold entT; rw [List.length_map]
  have hbl := hm.lt
  have HM := Lib.hid hm
  have HI := Lib.hid hI
  have HO := Lib.hid hO
  have HL := Lib.hid hl
  obtain ⟨i9, hi, hz0, hz1, hz2⟩ := info_parts info9
  obtain ⟨i73, ji, jz0, jz1, jz2⟩ := info_parts info73
  clear hm hI hO hl
  go_enter Tryz.func54, Tryz.ntmps54
  go_wp2_with (at_range; refine wpList_range_own _ rfl _ 77 rfl 9 39 law9 Tryz.underlying77 tokR bm nn D rfl HM.out ?_; intro w0 hrg0 hg0 hs0)
  have HB0 : Hid (Below w.heap.size w w0) := Lib.hid ((Below.refl w.heap.size w).grown hg0 (Nat.le_refl _) (fun k h => by cases h))
  have HRG := Lib.hid hrg0
  clear hrg0 hg0
  go_frame
  go_loopw [3] (fun v wr => ∃ (left : Lit → Bool) (cnt : Nat) (ss : List L) (qs : List TripB), Hid (wr.ranges Tryz.prog 9 tokR bm w.heap.size nn D left cnt) ∧ ss.length + cnt ≤ qm.length ∧ Hid (Collected D left ss) ∧ Hid (ss.Perm (qs.map fun q => q.1.data.toList)) ∧
      Hid (OutP (w.heap.size + 1) wr v qs) ∧ Hid ((qs.map fun q => q.1.toList).Pairwise fun a b => Op.bytesLess a b = true) ∧ Hid (∀ q ∈ qs, (q.1, q.2.1) ∈ plainT qm) ∧ Hid (Below w.heap.size w wr) ∧ w.heap.size + 1 ≤ wr.heap.size)
    (fun _ wr => wr.rangeLeft bm w.heap.size)
  case atStart => exact ⟨_, _, [], [], HRG, by rw [hsz]; simp, Lib.hid (Collected.start D), Lib.hid (List.Perm.refl _), Lib.hid (OutP.nil _ _), Lib.hid List.Pairwise.nil, Lib.hid (fun q h => by cases h), HB0, by omega⟩
  case round =>
    clear HRG HB0
    obtain ⟨left, cnt, ss, qs, hrg, hle, hC, hperm, hout, hsrt, hin, hb, hsw⟩ := hrel
    go_wp2_with (first
      | (at_next; refine wpList_next_ranges _ rfl _ rfl 9 law9 tokR encStr (fun c : Option Addr × Nat × Nat => Value.slice c.1 c.2.1 c.2.2) (fun key kl hk => by obtain ⟨x, hx, _⟩ := Maps.keyOf_str Tryz.underlying9 hk; exact ⟨x, hx⟩) (fun v y hv => tok_inv hv) bm w.heap.size nn _ _ _ rfl hrg.out ?_ ?_))
    · intro hc0 hl0
      have hp := Lib.hid (hC.out.perm HM.out law9 Tryz.underlying9 hl0)
      have HOF : Hid (OutP w.heap.size wr u3 qs) := Lib.hid ⟨owns_mono hout.out.row (by omega), fun q hq => owns_mono (hout.out.each q hq) (by omega)⟩
      go_wp2
      go_ret
      exact ⟨_, qs, ss, rfl, HOF, hsrt, hp, hperm, hin, hb.out⟩
    · intro x ca cm cc kl yd yp w2 cnt2 hkey hlk hv hat hrg2 hlt hg2 hs2 hen
      obtain ⟨x', ex, rfl, _⟩ := Maps.keyOf_str Tryz.underlying9 hkey
      obtain rfl : x = x' := encStr_inj ex
      obtain ⟨p, gp, hpm, rfl, rfl, rfl, hgp, hpne, hpc⟩ := came HI.out HO.out hv hat
      obtain ⟨key, ys, vx⟩ := p
      have hnew : key.data.toList ∉ qs.map fun q => q.1.data.toList := fun hmem => by
        have h1 := ((hC.out.2 key.data.toList).1 (hperm.out.mem_iff.2 hmem)).2
        dsimp only at hlk
        rw [hlk] at h1; cases h1
      have HNW := Lib.hid hnew
      have HC2 := Lib.hid (hC.out.step hlk hat)
      have HR2 := Lib.hid hrg2
      have HB2 : Hid (Below w.heap.size w w2) := Lib.hid (hb.out.grown hg2 (by omega) (fun k h => by cases h; exact Nat.le_refl _))
      have HO2 := Lib.hid (hout.out.kept hg2 (fun k h => by cases h; omega))
      have HLT := Lib.hid (show w2.rangeLeft bm w.heap.size < wr.rangeLeft bm w.heap.size by rw [hrg2.left_eq, hrg.out.left_eq]; exact hlt)
      have HPM := Lib.hid hpm
      have HPC := Lib.hid hpc
      have hyl := HL.out _ hpm
      have hsw2 : w.heap.size + 1 ≤ w2.heap.size := by omega
      rw [encStr_data] at hen
      rw [encStr_data]
      dsimp only at hyl hpne hen
      obtain ⟨ao, co, rfl⟩ := hout.out.shape
      have hql : qs.length ≤ 2000 := by
        have h1 := hperm.out.length_eq
        rw [List.length_map] at h1
        omega
      generalize hN : qs.length = n at *
      have HN := Lib.hid hN
      clear hkey hlk hat hrg2 hg2 hs2 ex hv hC hrg hb hout hpm hpc hnew hN
      have HOZ := Lib.hid (show OutP (w.heap.size + 1) (w2.alloc (.cells #[.string ⟨#[]⟩, .slice none 0 0] 73)) (.slice ao n co) qs from HO2.out.kept (World.grownBy_alloc w2 _ none) (fun k h => by cases h))
      have HOR := Lib.hid (show (w2.alloc (.cells #[.string ⟨#[]⟩, .slice none 0 0] 73)).ownsRow (w.heap.size + 1) 73 2 (.slice ao n co) n (flatT qs) from by have h := HOZ.out.row; rw [HN.out] at h; exact h)
      have KZ := Lib.hid (block_at (blk_new w2 (.cells #[.string ⟨#[]⟩, .slice none 0 0] 73)))
      have hszW : w.heap.size + 1 ≤ (w2.alloc (.cells #[.string ⟨#[]⟩, .slice none 0 0] 73)).heap.size := by simp; omega
      go_wp2
      go_loop [6] (fun v => ∃ k : Nat, v = .int .i64 k ∧ k ≤ n ∧ Hid (∀ (i : Nat) q, k ≤ i → qs[i]? = some q → Op.bytesLess key.toList q.1.toList = true)) (fun v => (intOf v).toNat)
      case atStart => exact ⟨n, rfl, Nat.le_refl _, Lib.hid (fun i q h1 h2 => by have := (List.getElem?_eq_some_iff.1 h2).1; have := HN.out; omega)⟩
      case round =>
        obtain ⟨k, rfl, hk, hgt⟩ := hrel
        by_cases hgo : 0 < k ∧ ∀ p, qs[k - 1]? = some p → Op.bytesLess p.1.toList key.toList = false
        · obtain ⟨hk0, hgo2⟩ := hgo
          obtain ⟨p, hp⟩ : ∃ p, qs[k - 1]? = some p := ⟨_, List.getElem?_eq_getElem (by rw [HN.out]; omega)⟩
          obtain ⟨g, rfl, c1⟩ := HO2.out.at hp
          have hbl2 := hgo2 p hp
          have hne : (p.1.toList == key.toList) = false := by
            rw [beq_eq_false_iff_ne]
            intro e
            apply HNW.out
            rw [toList_data, toList_data] at e
            exact List.mem_map.2 ⟨p, List.mem_of_getElem? hp, e⟩
          obtain ⟨j, rfl⟩ : ∃ j, k = j + 1 := ⟨k - 1, by omega⟩
          rw [Nat.add_sub_cancel] at hp c1
          have hj1 : ((j + 1 : Nat) : Int) - 1 = (j : Int) := by omega
          have HG2 : Hid (∀ (i : Nat) q, j ≤ i → qs[i]? = some q → Op.bytesLess key.toList q.1.toList = true) := Lib.hid (fun i q hi hq => by
            by_cases hij : i = j
            · subst hij
              rw [hp] at hq; cases hq
              exact blt_or hbl2 (fun e => by rw [e] at hne; simp at hne)
            · exact hgt.out i q (by omega) hq)
          clear hp hgo2
          go_wp2
          exact ⟨⟨j, by go_num, by omega, HG2⟩, by simp [intOf]⟩
        · have HST : Hid (0 < k → ∃ p, qs[k - 1]? = some p ∧ Op.bytesLess p.1.toList key.toList = true) := Lib.hid (fun h0 => by
            refine Classical.byContradiction (fun hno => hgo ⟨h0, fun p hp => ?_⟩)
            cases hb3 : Op.bytesLess p.1.toList key.toList
            · rfl
            · exact absurd ⟨p, hp, hb3⟩ hno)
          cases k with
          | zero =>
            have HLW : Hid (∀ (i : Nat) q, i < 0 → qs[i]? = some q → Op.bytesLess q.1.toList key.toList = true) := Lib.hid (fun i q h => absurd h (Nat.not_lt_zero _))
            go_upto_region 8 with (fail)
            obtain ⟨k, hk0⟩ : ∃ k : Nat, 0 = k := ⟨_, rfl⟩
            first | rw [show ((0 : Nat) : Int) = (k : Int) by rw [← hk0]] | rw [show (0 : Int) = (k : Int) by rw [← hk0]; rfl]
            rw [hk0] at HLW hk hgt
            clear hk0 HST hgo
            go_wp2_with (at_builtin; refine wpList_append_own_at _ rfl (.tmp 30) (.tmp 32) 44 rfl (w.heap.size + 1) 73 i73 _ 2 40 Tryz.underlying44 ji jz0 jz1 jz2 rfl (by decide) _ _ _ rfl HOR.out ⟨w2.heap.size, 0, none⟩ 1 1 [.string ⟨#[]⟩, .slice none 0 0] rfl rfl KZ.out ?d2 ?d3 ?d4 hszW ?_)
            case d2 => simp [Value.oneCell']
            case d3 => unfold maxLen; omega
            case d4 => omega
            intro v' w3 hown3 hgrow3 _ hwhere3
            have hrows3 := Lib.hid (HOZ.out.rows hgrow3)
            obtain ⟨hl3, hr3⟩ := id hown3
            rcases hr3 with ⟨-, h0⟩ | ⟨g1, c1, cur1, rfl, hb1, hg1, hc1, hm1, hs1, ht1⟩
            · exact absurd h0 (by omega)
            have hk0i : (0 : Int) ≤ (k : Int) := by omega
            have hkni : (k : Int) ≤ (n : Int) + 1 := by omega
            have hk1i : (0 : Int) ≤ (k : Int) + 1 := by omega
            have hk1n : (k : Int) ≤ (n : Int) := by omega
            have hk1m : (k : Int) + 1 ≤ (n : Int) + 1 := by omega
            have hk1t : ((k : Int) + 1).toNat = k + 1 := by omega
            have hc1i : (n : Int) + 1 ≤ (c1 : Int) := by omega
            have hwr : IntKind.i64.wrap ((k : Int) + 1) = (k : Int) + 1 := by rw [IntKind.wrap_i64]; omega
            have HG1 := Lib.hid hg1
            have HCN : Hid ((flatT (qs.drop k)).length = Nat.min (n + 1 - k) (n - k) * 2) := Lib.hid (by
              rw [flat_len, List.length_drop, HN.out, show Nat.min (n + 1 - k) (n - k) = n - k from Nat.min_eq_right (by omega)])
            have HCL : Hid (∀ j u, (flatT qs)[j]? = some u → w3.cell? ⟨g1, j, none⟩ = some u) := Lib.hid (fun j u hj => by
              have h := cells_of_own hown3 j u (by rw [List.getElem?_append_left (List.getElem?_eq_some_iff.1 hj).1]; exact hj)
              rwa [addr_add, Nat.zero_add] at h)
            have HFIT : Hid ((k + 1) * 2 + (flatT (qs.drop k)).length ≤ cur1.size) := Lib.hid (by
              rw [flat_len, List.length_drop, HN.out, hs1]; omega)
            have HONE := Lib.hid (fun u (hu : u ∈ flatT (qs.drop k)) => HOZ.out.one u (by rw [← flat_drop] at hu; exact List.mem_of_mem_drop hu))
            have HPOS : Hid (0 < Nat.min (n + 1 - k) (n - k) → (if c1 = k + 1 then some ⟨g1, 0, none⟩ else some ⟨g1, (k + 1) * 2, none⟩ : Option Addr) = some ⟨g1, (k + 1) * 2, none⟩ ∧ ∃ ad, (if c1 = k then some ⟨g1, 0, none⟩ else some ⟨g1, k * 2, none⟩ : Option Addr) = some ad ∧
                ∀ j v, (flatT (qs.drop k))[j]? = some v → w3.drew.cell? (ad.add j) = some v) := Lib.hid (fun h0 => by
              rw [show Nat.min (n + 1 - k) (n - k) = n - k from Nat.min_eq_right (by omega)] at h0
              rw [if_neg (by omega), if_neg (by omega)]
              refine ⟨rfl, _, rfl, fun j v hj => ?_⟩
              rw [← flat_drop, List.getElem?_drop] at hj
              rw [addr_add]
              exact HCL.out _ _ hj)
            go_wp2
            go_region_held3 (fun w' => True) (trivial) ((refine step_copy2 (w := w3.drew) (by rfl) (.tmp 37) (.tmp 40) 44 44 (by rfl) 73 2 Tryz.underlying44 size73 (if c1 = k + 1 then some ⟨g1, 0, none⟩ else some ⟨g1, (k + 1) * 2, none⟩) (if c1 = k then some ⟨g1, 0, none⟩ else some ⟨g1, k * 2, none⟩) (n - k) (c1 - (k + 1)) (n + 1 - k) (c1 - k) (by rfl) (by rfl) g1 ((k + 1) * 2) cur1 73 HG1.out (flatT (qs.drop k)) HCN.out HPOS.out HFIT.out HONE.out ?_; intro w4 hg4 hgrow4))
            have HR3 := Lib.hid ((HR2.out.alloc (.cells #[.string ⟨#[]⟩, .slice none 0 0] 73)).kept hgrow3 (map_ne_row (HR2.out.alloc _).owns HOR.out) (row_ne_iter HOR.out (HR2.out.alloc _)))
            have HR4 := Lib.hid ((show w3.drew.ranges Tryz.prog 9 tokR bm w.heap.size nn D (fun z => left z && !z.sameKey (Lit.string key.data.toList)) cnt2 from HR3.out).kept hgrow4 (map_ne_row HR3.out.owns hown3) (row_ne_iter hown3 HR3.out))
            have HB3 := Lib.hid ((HB2.out.alloc HB2.out.size (.cells #[.string ⟨#[]⟩, .slice none 0 0] 73)).grown hgrow3 (by omega) (fun k h => by have := own_ge HOR.out k h; omega))
            have HB4 : Hid (Below w.heap.size w w4) := Lib.hid (HB3.out.trans ((Below.refl w.heap.size w3).drew.grown hgrow4 HB3.out.size (fun k h => by cases h; omega)))
            have HRW4 := Lib.hid (rows_far (w := w3.drew) hrows3.out hg1 hgrow4)
            have HG4 := Lib.hid hg4
            have HPX : Hid (∀ (j : Nat) (u : Value), (ys.map Value.string)[j]? = some u → w4.cell? ((⟨gp, 0, none⟩ : Addr).add j) = some u) := Lib.hid (fun j u hj => by
              have h := HPC.out j u hj
              rw [addr_add] at h ⊢
              exact (HB4.out.cell (p := ⟨gp, 0 + j, none⟩) hgp).trans h)
            have hsz4 : w.heap.size + 1 ≤ w4.heap.size := Nat.le_trans (Nat.le_trans hszW hgrow3.size) hgrow4.size
            have hnil4 : w4.ownsRow (w.heap.size + 1) 9 1 (.slice none 0 0) 0 [] := ⟨rfl, Or.inl ⟨rfl, rfl⟩⟩
            have HT1 := Lib.hid ht1
            have HS1 := Lib.hid hs1
            clear hown3 hgrow3 hwhere3 hl3 hg1 hs1 ht1 hg4 hgrow4 HG1 HCN HPOS hk0i hkni hk1i hk1m hk1t hwr
            generalize (if c1 = k + 1 then some ⟨g1, 0, none⟩ else some ⟨g1, (k + 1) * 2, none⟩ : Option Addr) = z1
            generalize (if c1 = k then some ⟨g1, 0, none⟩ else some ⟨g1, k * 2, none⟩ : Option Addr) = z2
            go_wp2_with (at_builtin; refine wpList_append_own_at _ rfl _ (.tmp 45) 39 rfl (w.heap.size + 1) 9 i9 (.string ⟨#[]⟩) 1 16 Tryz.underlying39 hi hz0 hz1 hz2 rfl (by decide) _ _ _ rfl hnil4 ⟨gp, 0, none⟩ ys.length cc (ys.map Value.string) rfl (by rw [List.length_map, Nat.mul_one]) HPX.out ?d2 ?d3 ?d4 hsz4 ?_)
            case d2 =>
              intro u hu
              obtain ⟨y, _, rfl⟩ := List.mem_map.1 hu
              rfl
            case d3 => unfold maxLen; omega
            case d4 => omega
            intro v5 w5 hown5 hgrow5 _ hwhere5
            obtain ⟨hl5, hr5⟩ := id hown5
            rcases hr5 with ⟨-, h0⟩ | ⟨gy, cy, cury, rfl, hby, hgy, hcy, hmy, hsy, hty⟩
            · exact absurd (List.length_eq_zero_iff.1 (by simpa using h0)) hpne
            have HG5 := Lib.hid ((hgrow5.block g1 (Array.getElem?_eq_some_iff.1 HG4.out).1 (by simp [Value.ownBlock])).trans HG4.out)
            obtain ⟨cs5, hcs5⟩ : ∃ cs5 : Array Value, cs5 = (List.take ((k + 1) * 2) cur1.toList ++ flatT (List.drop k qs) ++ List.drop ((k + 1) * 2 + (flatT (List.drop k qs)).length) cur1.toList).toArray := ⟨_, rfl⟩
            have HCS := Lib.hid hcs5
            have hgc : w5.heap[g1]? = some (.cells cs5 73 (0, 0)) := by rw [hcs5]; exact HG5.out
            have hcz : cs5.size = cur1.size := by
              have := HFIT.out
              rw [hcs5]
              simp only [List.size_toArray, List.length_append, List.length_take, List.length_drop, Array.length_toList]
              omega
            have hk2s : k * 2 + 1 < cs5.size := by rw [hcz, HS1.out]; omega
            obtain ⟨d0, hd0⟩ : ∃ d0, w5.cell? ⟨g1, k * 2, none⟩ = some d0 := ⟨_, by rw [Lib.cell_of_heap hgc]; exact Array.getElem?_eq_getElem (by omega)⟩
            obtain ⟨d1, hd1⟩ : ∃ d1, w5.cell? ⟨g1, k * 2 + 1, none⟩ = some d1 := ⟨_, by rw [Lib.cell_of_heap hgc]; exact Array.getElem?_eq_getElem (by omega)⟩
            have hf0 : w5.frozen? ⟨g1, k * 2, none⟩ = false := Lib.frozen_of_heap hgc _
            have hf1 : w5.frozen? ⟨g1, k * 2 + 1, none⟩ = false := Lib.frozen_of_heap hgc _
            have HGC := Lib.hid hgc
            have HO5 := Lib.hid hown5
            have HGR5 := Lib.hid hgrow5
            clear hcs5 hgc hown5 hgrow5 hwhere5 hl5 hgy hsy hty
            have HR5 := Lib.hid (HR4.out.kept HGR5.out (by simp [Value.ownBlock]) (by simp [Value.ownBlock]))
            have HR6 := Lib.hid ((HR5.out.kept (grown_set w5 g1 (k * 2) (.string key)) (by simp; omega) (by simp; omega)).kept (grown_set _ g1 (k * 2 + 1) (.slice (some ⟨gy, 0, none⟩) ys.length cy)) (by simp; omega) (by simp; omega))
            have HLT6 := Lib.hid (show ((w5.setCell ⟨g1, k * 2, none⟩ (.string key)).setCell ⟨g1, k * 2 + 1, none⟩ (.slice (some ⟨gy, 0, none⟩) ys.length cy)).rangeLeft bm w.heap.size < wr.rangeLeft bm w.heap.size by rw [HR6.out.left_eq, ← HR2.out.left_eq]; exact HLT.out)
            have HB5 := Lib.hid (HB4.out.grown HGR5.out (by omega) (fun k h => by cases h))
            have HB6 : Hid (Below w.heap.size w ((w5.setCell ⟨g1, k * 2, none⟩ (.string key)).setCell ⟨g1, k * 2 + 1, none⟩ (.slice (some ⟨gy, 0, none⟩) ys.length cy))) := Lib.hid ((HB5.out.setCell (p := ⟨g1, k * 2, none⟩) (by show _ ≤ g1; omega) _).setCell (p := ⟨g1, k * 2 + 1, none⟩) (by show _ ≤ g1; omega) _)
            have HRW5 : Hid (∀ q ∈ qs, w5.ownsRow (w.heap.size + 1) 9 1 q.2.2 q.2.1.length (q.2.1.map Value.string)) := Lib.hid (fun q hq => owns_block (HRW4.out q hq) (fun k hk => HGR5.out.block k (ownsRow_lt (HRW4.out q hq) hk) (by simp [Value.ownBlock])))
            have HO6 := Lib.hid (out_round (key := key) HN.out hk hb1 hc1 hm1 HGC.out HCS.out HS1.out HT1.out HRW5.out HO5.out)
            have HP6 := Lib.hid (perm_ins (key := key) (ys := ys) (v := .slice (some ⟨gy, 0, none⟩) ys.length cy) k hperm.out)
            have HSR6 := Lib.hid (srt_ins (ys := ys) (v := .slice (some ⟨gy, 0, none⟩) ys.length cy) hsrt.out HLW.out hgt.out)
            have HIN6 : Hid (∀ q ∈ qs.take k ++ (key, ys, Value.slice (some ⟨gy, 0, none⟩) ys.length cy) :: qs.drop k, (q.1, q.2.1) ∈ plainT qm) := Lib.hid (fun q hq => by
              rcases List.mem_append.1 hq with hq | hq
              · exact hin.out q (List.mem_of_mem_take hq)
              · rcases List.mem_cons.1 hq with rfl | hq
                · exact List.mem_map.2 ⟨_, HPM.out, rfl⟩
                · exact hin.out q (List.mem_of_mem_drop hq))
            have hs6 : w.heap.size + 1 ≤ ((w5.setCell ⟨g1, k * 2, none⟩ (.string key)).setCell ⟨g1, k * 2 + 1, none⟩ (.slice (some ⟨gy, 0, none⟩) ys.length cy)).heap.size := by
              have := HGR5.out.size
              simp
              omega
            go_wp2
            exact ⟨⟨_, cnt2, ss ++ [key.data.toList], _, HR6, by rw [List.length_append, List.length_singleton]; omega, HC2, HP6, HO6, HSR6, HIN6, HB6, hs6⟩, HLT6.out⟩
          | succ j =>
            obtain ⟨p, hp, hbl2⟩ := HST.out (Nat.succ_pos j)
            rw [Nat.add_sub_cancel] at hp
            obtain ⟨g, rfl, c1⟩ := HO2.out.at hp
            have hne : (p.1.toList == key.toList) = false := by
              rw [beq_eq_false_iff_ne]
              intro e
              rw [e, blt_irr] at hbl2; cases hbl2
            have hj1 : ((j + 1 : Nat) : Int) - 1 = (j : Int) := by omega
            have HLW : Hid (∀ (i : Nat) q, i < j + 1 → qs[i]? = some q → Op.bytesLess q.1.toList key.toList = true) := Lib.hid (fun i q hi hq => by
              by_cases hij : i = j
              · subst hij; rw [hp] at hq; cases hq; exact hbl2
              · have hs := hsrt.out
                rw [List.pairwise_iff_getElem] at hs
                obtain ⟨hil, hie⟩ := List.getElem?_eq_some_iff.1 hq
                obtain ⟨hjl, hje⟩ := List.getElem?_eq_some_iff.1 hp
                have h1 := hs i j (by rw [List.length_map]; exact hil) (by rw [List.length_map]; exact hjl) (by omega)
                rw [List.getElem_map, List.getElem_map, hie, hje] at h1
                exact blt_trans h1 hbl2)
            clear hp HST hgo
            go_upto_region 8 with (fail)
            obtain ⟨k, hk0⟩ : ∃ k : Nat, j + 1 = k := ⟨_, rfl⟩
            have hk1 : (j : Int) + 1 = (k : Int) := by omega
            first | rw [show ((j + 1 : Nat) : Int) = (k : Int) by rw [← hk0]] | rw [hk1]
            rw [hk0] at HLW hk hgt
            clear hk0 hk1 c1 hj1
            go_wp2_with (at_builtin; refine wpList_append_own_at _ rfl (.tmp 30) (.tmp 32) 44 rfl (w.heap.size + 1) 73 i73 _ 2 40 Tryz.underlying44 ji jz0 jz1 jz2 rfl (by decide) _ _ _ rfl HOR.out ⟨w2.heap.size, 0, none⟩ 1 1 [.string ⟨#[]⟩, .slice none 0 0] rfl rfl KZ.out ?d2 ?d3 ?d4 hszW ?_)
            case d2 => simp [Value.oneCell']
            case d3 => unfold maxLen; omega
            case d4 => omega
            intro v' w3 hown3 hgrow3 _ hwhere3
            have hrows3 := Lib.hid (HOZ.out.rows hgrow3)
            obtain ⟨hl3, hr3⟩ := id hown3
            rcases hr3 with ⟨-, h0⟩ | ⟨g1, c1, cur1, rfl, hb1, hg1, hc1, hm1, hs1, ht1⟩
            · exact absurd h0 (by omega)
            have hk0i : (0 : Int) ≤ (k : Int) := by omega
            have hkni : (k : Int) ≤ (n : Int) + 1 := by omega
            have hk1i : (0 : Int) ≤ (k : Int) + 1 := by omega
            have hk1n : (k : Int) ≤ (n : Int) := by omega
            have hk1m : (k : Int) + 1 ≤ (n : Int) + 1 := by omega
            have hk1t : ((k : Int) + 1).toNat = k + 1 := by omega
            have hc1i : (n : Int) + 1 ≤ (c1 : Int) := by omega
            have hwr : IntKind.i64.wrap ((k : Int) + 1) = (k : Int) + 1 := by rw [IntKind.wrap_i64]; omega
            have HG1 := Lib.hid hg1
            have HCN : Hid ((flatT (qs.drop k)).length = Nat.min (n + 1 - k) (n - k) * 2) := Lib.hid (by
              rw [flat_len, List.length_drop, HN.out, show Nat.min (n + 1 - k) (n - k) = n - k from Nat.min_eq_right (by omega)])
            have HCL : Hid (∀ j u, (flatT qs)[j]? = some u → w3.cell? ⟨g1, j, none⟩ = some u) := Lib.hid (fun j u hj => by
              have h := cells_of_own hown3 j u (by rw [List.getElem?_append_left (List.getElem?_eq_some_iff.1 hj).1]; exact hj)
              rwa [addr_add, Nat.zero_add] at h)
            have HFIT : Hid ((k + 1) * 2 + (flatT (qs.drop k)).length ≤ cur1.size) := Lib.hid (by
              rw [flat_len, List.length_drop, HN.out, hs1]; omega)
            have HONE := Lib.hid (fun u (hu : u ∈ flatT (qs.drop k)) => HOZ.out.one u (by rw [← flat_drop] at hu; exact List.mem_of_mem_drop hu))
            have HPOS : Hid (0 < Nat.min (n + 1 - k) (n - k) → (if c1 = k + 1 then some ⟨g1, 0, none⟩ else some ⟨g1, (k + 1) * 2, none⟩ : Option Addr) = some ⟨g1, (k + 1) * 2, none⟩ ∧ ∃ ad, (if c1 = k then some ⟨g1, 0, none⟩ else some ⟨g1, k * 2, none⟩ : Option Addr) = some ad ∧
                ∀ j v, (flatT (qs.drop k))[j]? = some v → w3.drew.cell? (ad.add j) = some v) := Lib.hid (fun h0 => by
              rw [show Nat.min (n + 1 - k) (n - k) = n - k from Nat.min_eq_right (by omega)] at h0
              rw [if_neg (by omega), if_neg (by omega)]
              refine ⟨rfl, _, rfl, fun j v hj => ?_⟩
              rw [← flat_drop, List.getElem?_drop] at hj
              rw [addr_add]
              exact HCL.out _ _ hj)
            go_wp2
            go_region_held3 (fun w' => True) (trivial) ((refine step_copy2 (w := w3.drew) (by rfl) (.tmp 37) (.tmp 40) 44 44 (by rfl) 73 2 Tryz.underlying44 size73 (if c1 = k + 1 then some ⟨g1, 0, none⟩ else some ⟨g1, (k + 1) * 2, none⟩) (if c1 = k then some ⟨g1, 0, none⟩ else some ⟨g1, k * 2, none⟩) (n - k) (c1 - (k + 1)) (n + 1 - k) (c1 - k) (by rfl) (by rfl) g1 ((k + 1) * 2) cur1 73 HG1.out (flatT (qs.drop k)) HCN.out HPOS.out HFIT.out HONE.out ?_; intro w4 hg4 hgrow4))
            have HR3 := Lib.hid ((HR2.out.alloc (.cells #[.string ⟨#[]⟩, .slice none 0 0] 73)).kept hgrow3 (map_ne_row (HR2.out.alloc _).owns HOR.out) (row_ne_iter HOR.out (HR2.out.alloc _)))
            have HR4 := Lib.hid ((show w3.drew.ranges Tryz.prog 9 tokR bm w.heap.size nn D (fun z => left z && !z.sameKey (Lit.string key.data.toList)) cnt2 from HR3.out).kept hgrow4 (map_ne_row HR3.out.owns hown3) (row_ne_iter hown3 HR3.out))
            have HB3 := Lib.hid ((HB2.out.alloc HB2.out.size (.cells #[.string ⟨#[]⟩, .slice none 0 0] 73)).grown hgrow3 (by omega) (fun k h => by have := own_ge HOR.out k h; omega))
            have HB4 : Hid (Below w.heap.size w w4) := Lib.hid (HB3.out.trans ((Below.refl w.heap.size w3).drew.grown hgrow4 HB3.out.size (fun k h => by cases h; omega)))
            have HRW4 := Lib.hid (rows_far (w := w3.drew) hrows3.out hg1 hgrow4)
            have HG4 := Lib.hid hg4
            have HPX : Hid (∀ (j : Nat) (u : Value), (ys.map Value.string)[j]? = some u → w4.cell? ((⟨gp, 0, none⟩ : Addr).add j) = some u) := Lib.hid (fun j u hj => by
              have h := HPC.out j u hj
              rw [addr_add] at h ⊢
              exact (HB4.out.cell (p := ⟨gp, 0 + j, none⟩) hgp).trans h)
            have hsz4 : w.heap.size + 1 ≤ w4.heap.size := Nat.le_trans (Nat.le_trans hszW hgrow3.size) hgrow4.size
            have hnil4 : w4.ownsRow (w.heap.size + 1) 9 1 (.slice none 0 0) 0 [] := ⟨rfl, Or.inl ⟨rfl, rfl⟩⟩
            have HT1 := Lib.hid ht1
            have HS1 := Lib.hid hs1
            clear hown3 hgrow3 hwhere3 hl3 hg1 hs1 ht1 hg4 hgrow4 HG1 HCN HPOS hk0i hkni hk1i hk1m hk1t hwr
            generalize (if c1 = k + 1 then some ⟨g1, 0, none⟩ else some ⟨g1, (k + 1) * 2, none⟩ : Option Addr) = z1
            generalize (if c1 = k then some ⟨g1, 0, none⟩ else some ⟨g1, k * 2, none⟩ : Option Addr) = z2
            go_wp2_with (at_builtin; refine wpList_append_own_at _ rfl _ (.tmp 45) 39 rfl (w.heap.size + 1) 9 i9 (.string ⟨#[]⟩) 1 16 Tryz.underlying39 hi hz0 hz1 hz2 rfl (by decide) _ _ _ rfl hnil4 ⟨gp, 0, none⟩ ys.length cc (ys.map Value.string) rfl (by rw [List.length_map, Nat.mul_one]) HPX.out ?d2 ?d3 ?d4 hsz4 ?_)
            case d2 =>
              intro u hu
              obtain ⟨y, _, rfl⟩ := List.mem_map.1 hu
              rfl
            case d3 => unfold maxLen; omega
            case d4 => omega
            intro v5 w5 hown5 hgrow5 _ hwhere5
            obtain ⟨hl5, hr5⟩ := id hown5
            rcases hr5 with ⟨-, h0⟩ | ⟨gy, cy, cury, rfl, hby, hgy, hcy, hmy, hsy, hty⟩
            · exact absurd (List.length_eq_zero_iff.1 (by simpa using h0)) hpne
            have HG5 := Lib.hid ((hgrow5.block g1 (Array.getElem?_eq_some_iff.1 HG4.out).1 (by simp [Value.ownBlock])).trans HG4.out)
            obtain ⟨cs5, hcs5⟩ : ∃ cs5 : Array Value, cs5 = (List.take ((k + 1) * 2) cur1.toList ++ flatT (List.drop k qs) ++ List.drop ((k + 1) * 2 + (flatT (List.drop k qs)).length) cur1.toList).toArray := ⟨_, rfl⟩
            have HCS := Lib.hid hcs5
            have hgc : w5.heap[g1]? = some (.cells cs5 73 (0, 0)) := by rw [hcs5]; exact HG5.out
            have hcz : cs5.size = cur1.size := by
              have := HFIT.out
              rw [hcs5]
              simp only [List.size_toArray, List.length_append, List.length_take, List.length_drop, Array.length_toList]
              omega
            have hk2s : k * 2 + 1 < cs5.size := by rw [hcz, HS1.out]; omega
            obtain ⟨d0, hd0⟩ : ∃ d0, w5.cell? ⟨g1, k * 2, none⟩ = some d0 := ⟨_, by rw [Lib.cell_of_heap hgc]; exact Array.getElem?_eq_getElem (by omega)⟩
            obtain ⟨d1, hd1⟩ : ∃ d1, w5.cell? ⟨g1, k * 2 + 1, none⟩ = some d1 := ⟨_, by rw [Lib.cell_of_heap hgc]; exact Array.getElem?_eq_getElem (by omega)⟩
            have hf0 : w5.frozen? ⟨g1, k * 2, none⟩ = false := Lib.frozen_of_heap hgc _
            have hf1 : w5.frozen? ⟨g1, k * 2 + 1, none⟩ = false := Lib.frozen_of_heap hgc _
            have HGC := Lib.hid hgc
            have HO5 := Lib.hid hown5
            have HGR5 := Lib.hid hgrow5
            clear hcs5 hgc hown5 hgrow5 hwhere5 hl5 hgy hsy hty
            have HR5 := Lib.hid (HR4.out.kept HGR5.out (by simp [Value.ownBlock]) (by simp [Value.ownBlock]))
            have HR6 := Lib.hid ((HR5.out.kept (grown_set w5 g1 (k * 2) (.string key)) (by simp; omega) (by simp; omega)).kept (grown_set _ g1 (k * 2 + 1) (.slice (some ⟨gy, 0, none⟩) ys.length cy)) (by simp; omega) (by simp; omega))
            have HLT6 := Lib.hid (show ((w5.setCell ⟨g1, k * 2, none⟩ (.string key)).setCell ⟨g1, k * 2 + 1, none⟩ (.slice (some ⟨gy, 0, none⟩) ys.length cy)).rangeLeft bm w.heap.size < wr.rangeLeft bm w.heap.size by rw [HR6.out.left_eq, ← HR2.out.left_eq]; exact HLT.out)
            have HB5 := Lib.hid (HB4.out.grown HGR5.out (by omega) (fun k h => by cases h))
            have HB6 : Hid (Below w.heap.size w ((w5.setCell ⟨g1, k * 2, none⟩ (.string key)).setCell ⟨g1, k * 2 + 1, none⟩ (.slice (some ⟨gy, 0, none⟩) ys.length cy))) := Lib.hid ((HB5.out.setCell (p := ⟨g1, k * 2, none⟩) (by show _ ≤ g1; omega) _).setCell (p := ⟨g1, k * 2 + 1, none⟩) (by show _ ≤ g1; omega) _)
            have HRW5 : Hid (∀ q ∈ qs, w5.ownsRow (w.heap.size + 1) 9 1 q.2.2 q.2.1.length (q.2.1.map Value.string)) := Lib.hid (fun q hq => owns_block (HRW4.out q hq) (fun k hk => HGR5.out.block k (ownsRow_lt (HRW4.out q hq) hk) (by simp [Value.ownBlock])))
            have HO6 := Lib.hid (out_round (key := key) HN.out hk hb1 hc1 hm1 HGC.out HCS.out HS1.out HT1.out HRW5.out HO5.out)
            have HP6 := Lib.hid (perm_ins (key := key) (ys := ys) (v := .slice (some ⟨gy, 0, none⟩) ys.length cy) k hperm.out)
            have HSR6 := Lib.hid (srt_ins (ys := ys) (v := .slice (some ⟨gy, 0, none⟩) ys.length cy) hsrt.out HLW.out hgt.out)
            have HIN6 : Hid (∀ q ∈ qs.take k ++ (key, ys, Value.slice (some ⟨gy, 0, none⟩) ys.length cy) :: qs.drop k, (q.1, q.2.1) ∈ plainT qm) := Lib.hid (fun q hq => by
              rcases List.mem_append.1 hq with hq | hq
              · exact hin.out q (List.mem_of_mem_take hq)
              · rcases List.mem_cons.1 hq with rfl | hq
                · exact List.mem_map.2 ⟨_, HPM.out, rfl⟩
                · exact hin.out q (List.mem_of_mem_drop hq))
            have hs6 : w.heap.size + 1 ≤ ((w5.setCell ⟨g1, k * 2, none⟩ (.string key)).setCell ⟨g1, k * 2 + 1, none⟩ (.slice (some ⟨gy, 0, none⟩) ys.length cy)).heap.size := by
              have := HGR5.out.size
              simp
              omega
            go_wp2
            exact ⟨⟨_, cnt2, ss ++ [key.data.toList], _, HR6, by rw [List.length_append, List.length_singleton]; omega, HC2, HP6, HO6, HSR6, HIN6, HB6, hs6⟩, HLT6.out⟩
end Go.Proofs.YtfkgkkmcaaefnaaGreatDoor.Wk
namespace Go.Proofs.YtfkgkkmcaaefnaaGreatDoor.Wk
open Go.RowKit Go.Proofs.YtfkgkkmcaaefnaaGreatDoor.Pu Go.Maps

/-- sorted lists with the same settings are the same -/
theorem same_sorted {a b : List PairB} (ha : (a.map fun p => p.1.toList).Pairwise fun x y => Op.bytesLess x y = true) (hb : (b.map fun p => p.1.toList).Pairwise fun x y => Op.bytesLess x y = true) (h1 : ∀ p ∈ a, p ∈ b) (h2 : ∀ p ∈ b, ∃ q ∈ a, q.1 = p.1) : a = b := by
  have pa := List.pairwise_map.1 ha
  have pb := List.pairwise_map.1 hb
  have irr : ∀ p q : PairB, Op.bytesLess p.1.toList q.1.toList = true → p ≠ q := by
    intro p q h e
    rw [e, blt_irr] at h; cases h
  have uniq : ∀ p ∈ b, ∀ q ∈ b, p.1 = q.1 → p = q := by
    intro p hp q hq e
    obtain ⟨i, hi, rfl⟩ := List.mem_iff_getElem.1 hp
    obtain ⟨j, hj, rfl⟩ := List.mem_iff_getElem.1 hq
    rw [List.pairwise_iff_getElem] at pb
    rcases Nat.lt_trichotomy i j with h | h | h
    · have := pb i j hi hj h; rw [e, blt_irr] at this; cases this
    · subst h; rfl
    · have := pb j i hj hi h; rw [e, blt_irr] at this; cases this
  have hp : a.Perm b := by
    refine (List.perm_ext_iff_of_nodup (pa.imp (irr _ _)) (pb.imp (irr _ _))).2 (fun p => ⟨h1 p, fun hpb => ?_⟩)
    obtain ⟨q, hq, e⟩ := h2 p hpb
    rw [← uniq q (h1 q hq) p hpb e]; exact hq
  refine List.Perm.eq_of_pairwise (le := fun x y => Op.bytesLess x.1.toList y.1.toList = true) (fun x y _ _ h3 h4 => ?_) pa pb hp
  have := blt_trans h3 h4
  rw [blt_irr] at this; cases this

set_option maxHeartbeats 2000000 in
set_option maxRecDepth 100000 in
theorem queryOf_any (M : Nat) (u : UrlB) (hu : Bool) (un pw : ByteArray) (ps : Bool) (ep ef : ByteArray) (qs0 : List PairB) (w : World) (hT : Tab w) (hx : u.rq.data.toList = encF qs0) (hxz : u.rq.size ≤ 1000000000000)
    (hn : qs0.length ≤ 2000) (htot : (flatB qs0).length ≤ 2000) (hM : M ≤ 10000000) (hz : ∀ s ∈ flatB qs0, s.1.size ≤ M ∧ s.2.size ≤ M) (hsrt : (qs0.map fun p => p.1.toList).Pairwise fun x y => Op.bytesLess x y = true) (hne : ∀ p ∈ qs0, p.2 ≠ [] ∧ p.2.length ≤ 2000) :
    Calls Tryz.prog 35 #[.agg (toldCells u hu un ps pw ep ef)] w fun e w' => ∃ v : Value, e = .returned v ∧ Hid (PairSl w' v qs0) ∧ Below w.heap.size w w' := by
  have hx2 : u.rq.data.toList = joinR ((flatB qs0).map sxB) := by rw [hx, encF_join, flatB_P]
  have hnd : (qs0.map (·.1)).Nodup := by
    refine (List.pairwise_map.1 hsrt).imp_of_mem (S := fun a b => a.1 ≠ b.1) ?_ |> List.pairwise_map.2
    intro a b _ _ h e
    rw [e, blt_irr] at h; cases h
  have hall : (flatB qs0).foldl addG [] = qs0 := by
    have := addG_all qs0 [] (by simpa using hnd) (fun p hp => (hne p hp).1)
    simpa using this
  have HT := Lib.hid hT
  have hpos := hT.pos
  have HX := Lib.hid hx2
  have HZ := Lib.hid hz
  have HA := Lib.hid hall
  have HS := Lib.hid hsrt
  have HNE := Lib.hid hne
  have HB := Lib.hid ((Below.refl w.heap.size w).alloc (Nat.le_refl _) (.cells (toldCells u hu un ps pw ep ef) 28))
  clear hT hx hx2 hz hall hsrt hne hnd
  go_enter Tryz.func35, Tryz.ntmps35
  go_wp2_with (fail)
  refine Calls.mono (made_any u hu un pw ps ep ef _) ?_
  rintro e w1 ⟨rfl, us, hk1, hus, hb1⟩
  rw [show (w.alloc (.cells (toldCells u hu un ps pw ep ef) 28)).heap.size = w.heap.size + 1 by simp] at hk1
  have K1 := Lib.hid hk1
  have HB1 := Lib.hid (HB.out.trans (hb1.mono HB.out.size))
  clear hk1 hus hb1
  go_wp2_with (fail)
  refine Calls.mono (Query_any M _ { u with us := us } (flatB qs0) w1 (HT.out.up HB1.out hpos) K1.out HX.out hxz htot hM HZ.out) ?_
  rintro e w2 ⟨bm, D, qm, nn, rfl, hmap, hpl, hnn, hb2⟩
  have HPL : Hid (plainT qm = qs0) := Lib.hid (hpl.out.trans HA.out)
  have HMP := Lib.hid hmap.out
  have HB2 := Lib.hid (HB1.out.trans (hb2.mono HB1.out.size))
  have hql : qm.length ≤ 2000 := by have h := congrArg List.length HPL.out; unfold plainT at h; rw [List.length_map] at h; omega
  have HQ : Hid (∀ q ∈ qm, q.2.1.length ≤ 2000) := Lib.hid (fun q hq => (HNE.out (q.1, q.2.1) (by rw [← HPL.out]; exact List.mem_map.2 ⟨q, hq, rfl⟩)).2)
  clear hmap hpl hb2
  go_wp2_with (fail)
  refine Calls.mono (pairsOf_any _ bm nn D qm w2 HMP.out.own HMP.out.is HMP.out.rows hql HQ.out) ?_
  rintro e w3 ⟨v, qs, ss, rfl, hout, hsr, hp1, hp2, hin, hb3⟩
  have HEQ : Hid (plainT qs = qs0) := Lib.hid (by
    refine same_sorted ?_ HS.out (fun p hp => ?_) (fun p hp => ?_)
    · unfold plainT; rw [List.map_map]; exact hsr.out
    · obtain ⟨q, hq, rfl⟩ := List.mem_map.1 hp
      have := hin.out q hq
      rwa [HPL.out] at this
    · rw [← HPL.out] at hp
      obtain ⟨q, hq, rfl⟩ := List.mem_map.1 hp
      have h1 := (hp2.out.symm.trans hp1.out).trans (keys_of HMP.out.own HMP.out.is).symm
      have h2 : q.1.data.toList ∈ (entT qm).map (·.1) := List.mem_map.2 ⟨_, List.mem_map.2 ⟨q, hq, rfl⟩, rfl⟩
      obtain ⟨r, hr, he⟩ := List.mem_map.1 (h1.mem_iff.2 h2)
      exact ⟨_, List.mem_map.2 ⟨r, hr, rfl⟩, ba_ext he⟩)
  have HSL : Hid (PairSl w3 v qs0) := Lib.hid (by
    rw [← HEQ.out]
    by_cases hq0 : qs = []
    · obtain ⟨ao, c, rfl⟩ := hout.out.shape
      subst hq0
      exact Or.inl ⟨rfl, ao, c, rfl⟩
    · have hrow := hout.out.row
      rcases hrow.2 with ⟨_, h0⟩ | ⟨g, cap, cur, rfl, _, hg, _⟩
      · exact absurd (List.length_eq_zero_iff.1 h0) hq0
      · refine Or.inr ⟨g, 0, cap, by unfold plainT; rw [List.length_map], (Array.getElem?_eq_some_iff.1 hg).1, fun j p hj => ?_⟩
        unfold plainT at hj
        rw [List.getElem?_map] at hj
        cases hq : qs[j]? with
        | none => rw [hq] at hj; cases hj
        | some q =>
          rw [hq] at hj; cases hj
          obtain ⟨f1, f2⟩ := flat_at qs j q hq
          have c1 := cells_of_own hrow _ _ f1
          have c2 := cells_of_own hrow _ _ f2
          rw [addr_add] at c1 c2
          exact ⟨c1, _, c2, strSl_of_owns (hout.out.each q (List.mem_of_getElem? hq))⟩)
  have HB3 := Lib.hid (HB2.out.trans (hb3.mono HB2.out.size))
  clear hout hsr hp1 hp2 hin hb3
  go_wp2
  go_ret
  exact ⟨_, rfl, HSL, HB3.out⟩
end Go.Proofs.YtfkgkkmcaaefnaaGreatDoor.Wk
