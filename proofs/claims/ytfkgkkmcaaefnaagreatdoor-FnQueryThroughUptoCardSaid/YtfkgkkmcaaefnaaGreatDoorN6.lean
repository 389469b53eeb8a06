/-
  impl.Encode, Values.Encode.
  Values.Encode.
  THE SHELF's CONTRACTS that these proofs use, laid over this program by the kit's own command in its plain mode (lay-shelf.mjs, lay-plain.mjs), and sifted.
  Values.Encode, whole.
-/
import Derived.Test.YtfkgkkmcaaefnaaGreatDoorN3
import Derived.Maps.OwnSet
import Derived.Maps.RangeWalk
import Derived.Sort.KeysCollected
import Derived.Sort.OwnSorted
import Derived.StringKeys
import Derived.Carry
import Derived.Shelf.Sort.Plain
import Derived.Test.YtfkgkkmcaaefnaaGreatDoorProg
import Derived.Laws.MakeOwn
set_option linter.unusedSimpArgs false
set_option linter.unusedVariables false
namespace Go.Proofs.YtfkgkkmcaaefnaaGreatDoor.Wk
open Go.RowKit Go.Proofs.YtfkgkkmcaaefnaaGreatDoor.Pu Go.Maps

/-- an element of a map of slices, told by itself -/
def tokR (v : Value) : Option (DataW Value × List MemPlace) := match v with | .slice a n c => some (.held (.slice a n c), []) | _ => none
theorem tok_inv {v : Value} {y : DataW Value × List MemPlace} (h : tokR v = some y) : ∃ (c : Option Addr × Nat × Nat), v = (fun c : Option Addr × Nat × Nat => Value.slice c.1 c.2.1 c.2.2) c := by
  unfold tokR at h
  split at h
  · exact ⟨(_, _, _), rfl⟩
  · cases h
theorem law9 : Keyed Tryz.prog 9 := string_keyed Tryz.underlying9
/-- the map holds these keys, with these slices -/
structure IsOf (D : DataW Value) (es : List (L × Value)) : Prop where
  ismap : IsMap D
  has_ : ∀ x, Maps.has D (.string x) = true ↔ x ∈ es.map (·.1)
  at_ : ∀ x v, (x, v) ∈ es → ∀ z, D.atKey (.string x) z = .held v
  nodup : (es.map (·.1)).Nodup
theorem isOf_nil : IsOf (.map []) [] := ⟨⟨[], rfl⟩, fun x => by simp [Maps.has], fun x v h => (by cases h), List.nodup_nil⟩
theorem isOf_put {D : DataW Value} {es : List (L × Value)} {x : L} {v : Value} (h : IsOf D es) (hx : x ∉ es.map (·.1)) : IsOf (D.put (.string x) (.held v)) (es ++ [(x, v)]) := by
  have hkl : WideAt.IsKeyLit (.string x) := by simp [WideAt.IsKeyLit]
  refine ⟨h.ismap.put _ _, fun y => ?_, fun y u hy z => ?_, ?_⟩
  · by_cases hyx : y = x
    · subst hyx
      rw [has_put_same h.ismap hkl]
      simp
    · rw [has_put_other (by simpa using hyx), h.has_ y]
      simp [hyx]
  · rcases List.mem_append.1 hy with h1 | h1
    · have hne : y ≠ x := by rintro rfl; exact hx (List.mem_map.2 ⟨_, h1, rfl⟩)
      rw [atKey_put_other (by simpa using hne)]
      exact h.at_ y u h1 z
    · rw [List.mem_singleton] at h1
      cases h1
      exact atKey_put_same h.ismap hkl _ _
  · rw [List.map_append]
    exact List.nodup_append.2 ⟨h.nodup, by simp, fun a ha b hb => by simp at hb; subst hb; exact fun e => hx (e ▸ ha)⟩
theorem isOf_set {D : DataW Value} {es : List (L × Value)} {x : L} {u v : Value} {k : Nat} (h : IsOf D es) (hk : es[k]? = some (x, u)) : IsOf (D.put (.string x) (.held v)) (es.set k (x, v)) := by
  have hkl : WideAt.IsKeyLit (.string x) := by simp [WideAt.IsKeyLit]
  have hm : (es.set k (x, v)).map (·.1) = es.map (·.1) := by
    rw [List.map_set]
    exact set_same _ _ _ (by rw [List.getElem?_map, hk]; rfl)
  refine ⟨h.ismap.put _ _, fun y => ?_, fun y w hy z => ?_, by rw [hm]; exact h.nodup⟩
  · rw [hm]
    by_cases hyx : y = x
    · subst hyx
      rw [has_put_same h.ismap hkl]
      simp only [true_iff]
      exact List.mem_map.2 ⟨_, List.mem_of_getElem? hk, rfl⟩
    · rw [has_put_other (by simpa using hyx), h.has_ y]
  · by_cases hyx : y = x
    · subst hyx
      rw [atKey_put_same h.ismap hkl]
      obtain ⟨j, hj⟩ := List.mem_iff_getElem?.1 hy
      by_cases hkj : k = j
      · subst hkj
        rw [List.getElem?_set_self (List.getElem?_eq_some_iff.1 hk).1] at hj
        cases hj; rfl
      · exfalso
        rw [List.getElem?_set_ne hkj] at hj
        have e1 : (es.map (·.1))[k]? = some y := by rw [List.getElem?_map, hk]; rfl
        have e2 : (es.map (·.1))[j]? = some y := by rw [List.getElem?_map, hj]; rfl
        exact hkj ((List.getElem?_inj (List.getElem?_eq_some_iff.1 e1).1 h.nodup).1 (e1.trans e2.symm))
    · rw [atKey_put_other (by simpa using hyx)]
      obtain ⟨j, hj⟩ := List.mem_iff_getElem?.1 hy
      by_cases hkj : k = j
      · subst hkj
        rw [List.getElem?_set_self (List.getElem?_eq_some_iff.1 hk).1] at hj
        cases hj; exact absurd rfl hyx
      · rw [List.getElem?_set_ne hkj] at hj
        exact h.at_ y w (List.mem_of_getElem? hj) z
theorem keys_of {w : World} {b n : Nat} {D : DataW Value} {es : List (L × Value)} (hown : w.ownsMap Tryz.prog 9 tokR b n D) (h : IsOf D es) : (es.map (·.1)).Perm (strKeys D) := by
  obtain ⟨ds, hD, hpw, _⟩ := hown.entries law9
  obtain ⟨ds', hD', hko⟩ := hown.keysOf
  obtain rfl : ds = ds' := by rw [hD] at hD'; simpa using hD'
  subst hD
  exact perm_strKeys hpw (fun p hp => by obtain ⟨v, hv⟩ := hko p hp; obtain ⟨x, _, hx, _⟩ := Maps.keyOf_str Tryz.underlying9 hv; exact ⟨x, hx⟩) h.nodup (fun x => (h.has_ x).symm)
theorem size_of {w : World} {b n : Nat} {D : DataW Value} {es : List (L × Value)} (hown : w.ownsMap Tryz.prog 9 tokR b n D) (h : IsOf D es) : Maps.size D = es.length := by
  have hp := (keys_of hown h).length_eq
  obtain ⟨ds, hD, _⟩ := hown.entries law9
  rw [List.length_map] at hp
  rw [hp, hD]
  simp [strKeys, Maps.size]
theorem zero39 (w : World) : (zeroValue 39).run Tryz.prog w = .ok (.slice none 0 0) w := by kernel_rfl
theorem look_of {w : World} {b n : Nat} {D : DataW Value} {es : List (L × Value)} (hown : w.ownsMap Tryz.prog 9 tokR b n D) (h : IsOf D es) {key : ByteArray} (hk : key.size ≤ maxLen) {a : Option Addr} {m c : Nat} (hv : (key.data.toList, Value.slice a m c) ∈ es) :
    (Instr.lookup 77 (.map (some b)) (.string key) false).run Tryz.prog w = .ok (.slice a m c) w := by
  obtain ⟨v, ps, h1, h2⟩ := hown.lookup law9 Tryz.underlying77 (z := .slice none 0 0) (zero39 w) (zd := .held (.slice none 0 0)) (zp := []) rfl (WideMaps.keyOf_string_mk Tryz.underlying9 hk)
  rw [h.at_ _ _ hv] at h2
  obtain ⟨⟨a', m', c'⟩, rfl⟩ := tok_inv h2
  simp only [tokR, Option.some.injEq, Prod.mk.injEq, DataW.held.injEq, Value.slice.injEq] at h2
  obtain ⟨⟨rfl, rfl, rfl⟩, -⟩ := h2
  exact h1
def entT (qs : List TripB) : List (L × Value) := qs.map fun q => (q.1.data.toList, q.2.2)
def putT (qs : List TripB) : DataW Value := qs.foldl (fun D q => D.put (.string q.1.data.toList) (.held q.2.2)) (.map [])
theorem putT_next {qs : List TripB} {k : Nat} {q : TripB} (h : qs[k]? = some q) : putT (qs.take (k + 1)) = (putT (qs.take k)).put (.string q.1.data.toList) (.held q.2.2) := by
  unfold putT
  rw [List.take_add_one, h, Option.toList_some, List.foldl_append]
  rfl
theorem blt_irr (a : List UInt8) : Op.bytesLess a a = false := by
  rw [bytesLess_eq, decide_eq_false_iff_not]; exact List.lt_irrefl a
theorem sorted_nodup {l : List L} (h : l.Pairwise fun a b => Op.bytesLess a b = true) : l.Nodup := by
  refine h.imp ?_
  intro a b hab e
  rw [e, blt_irr] at hab
  cases hab
theorem isOf_putT (qs : List TripB) (h : (qs.map fun q => q.1.data.toList).Nodup) : IsOf (putT qs) (entT qs) := by
  have gen : ∀ k, IsOf (putT (qs.take k)) (entT (qs.take k)) := by
    intro k
    induction k with
    | zero => exact isOf_nil
    | succ k ih =>
      cases hq : qs[k]? with
      | none =>
        rw [List.take_add_one, hq]
        simpa using ih
      | some q =>
        rw [putT_next hq]
        have he : entT (qs.take (k + 1)) = entT (qs.take k) ++ [(q.1.data.toList, q.2.2)] := by
          unfold entT
          rw [List.take_add_one, hq, Option.toList_some, List.map_append]
          rfl
        rw [he]
        refine isOf_put ih (fun hm => ?_)
        have h2 := h
        rw [← List.take_append_drop k qs, List.map_append, List.nodup_append] at h2
        have hd : q.1.data.toList ∈ (qs.drop k).map fun q => q.1.data.toList := by
          refine List.mem_map.2 ⟨q, ?_, rfl⟩
          have : (qs.drop k)[0]? = some q := by rw [List.getElem?_drop]; exact hq
          exact List.mem_of_getElem? this
        refine h2.2.2 _ ?_ _ hd rfl
        unfold entT at hm
        rw [List.map_map] at hm
        exact hm
  have := gen qs.length
  rwa [List.take_length] at this

set_option maxHeartbeats 2000000 in
set_option maxRecDepth 100000 in
theorem iencode_of (B : Nat) (v : Value) (qs : List TripB) (w : World) (F : L) (h : OwnP B w v qs) (hv : qs = [] → v = .slice none 0 0) (hn : qs.length ≤ 100000) (hk : ∀ q ∈ qs, q.1.size ≤ 1000000000)
    (hc : ∀ (b : Nat) (w1 : World), Below w.heap.size w w1 → w1.ownsMap Tryz.prog 9 tokR b qs.length (putT qs) → Calls Tryz.prog 52 #[.map (some b)] w1 fun e w' => ∃ t : ByteArray, e = .returned (.string t) ∧ Hid (t.data.toList = F) ∧ Below w1.heap.size w1 w') :
    Calls Tryz.prog 32 #[v] w fun e w' => ∃ t : ByteArray, e = .returned (.string t) ∧ Hid (t.data.toList = F) ∧ Below w.heap.size w w' := by
  have hmm := @run_makeMap Tryz.prog
  have HCC := Lib.hid hc
  have HO := Lib.hid h
  have HK := Lib.hid hk
  have hb0 := Lib.hid ((Below.refl w.heap.size w).alloc (Nat.le_refl _) (.map #[] 0))
  have hm0 := Lib.hid (World.ownsMap_made w Tryz.prog 9 tokR)
  have hcl : Hid (∀ k q, qs[k]? = some q → w.cell? ⟨(v.ownBlock.getD 0), k * 2, none⟩ = some (.string q.1) ∧ w.cell? ⟨(v.ownBlock.getD 0), k * 2 + 1, none⟩ = some q.2.2 ∧ (v.ownBlock.getD 0) < w.heap.size ∧ ∃ a n c, q.2.2 = .slice a n c) := by
    refine Lib.hid (fun k q hq => ?_)
    obtain ⟨g, cap, rfl, _, hg, _, _, hcell, _⟩ := h.block (List.ne_nil_of_mem (List.mem_of_getElem? hq))
    obtain ⟨f1, f2⟩ := flat_at qs k q hq
    obtain ⟨ao, c, e⟩ := (strSl_of_owns (h.each q (List.mem_of_getElem? hq)).2).shape
    exact ⟨hcell _ _ f1, hcell _ _ f2, hg, _, _, _, e⟩
  obtain ⟨gb, cap, rfl, hgb⟩ : ∃ (gb : Option Addr) (cap : Nat), v = .slice gb qs.length cap ∧ Hid (0 < qs.length → gb = some ⟨(v.ownBlock.getD 0), 0, none⟩) := by
    by_cases hq : qs = []
    · rw [hv hq]; exact ⟨none, 0, by rw [hq]; rfl, Lib.hid (fun h => by rw [hq] at h; cases h)⟩
    · obtain ⟨g, cap, rfl, _⟩ := h.block hq
      exact ⟨_, cap, rfl, Lib.hid (fun _ => rfl)⟩
  generalize ((Value.slice gb qs.length cap).ownBlock.getD 0) = g at *
  generalize hN : qs.length = n at *
  have HN := Lib.hid hN
  clear hN h hv hk hc
  go_enter Tryz.func32, Tryz.ntmps32
  go_wp2
  go_loopw [9] (fun i wr => ∃ k : Nat, i = .int .i64 k ∧ k ≤ n ∧ Hid (wr.ownsMap Tryz.prog 9 tokR w.heap.size k (putT (qs.take k))) ∧ Hid (Below w.heap.size w wr)) (fun i _ => n - (intOf i).toNat)
  case atStart => exact ⟨0, rfl, by omega, hm0, hb0⟩
  case round =>
    obtain ⟨k, rfl, hk, hown, hb⟩ := hrel
    by_cases hlt : k < n
    · obtain ⟨⟨qk, qv, qx⟩, hx⟩ : ∃ x, qs[k]? = some x := ⟨_, List.getElem?_eq_getElem (by rw [HN.out]; exact hlt)⟩
      obtain ⟨c1, c2, hgl, a, m, c, e⟩ := hcl.out k _ hx
      dsimp only at e
      subst e
      obtain rfl := hgb.out (by omega)
      have d1 := (hb.out.cell (p := ⟨g, k * 2, none⟩) hgl).trans c1
      have d2 := (hb.out.cell (p := ⟨g, k * 2 + 1, none⟩) hgl).trans c2
      have hkz := HK.out _ (List.mem_of_getElem? hx)
      have hkey := WideMaps.keyOf_string_mk (P := Tryz.prog) Tryz.underlying9 (s := qk) (by unfold maxLen; dsimp only at hkz; omega)
      have HOW := Lib.hid (hown.out.alloc (.cells #[.string qk, .slice a m c] 73))
      have HBW := Lib.hid (hb.out.alloc hb.out.size (.cells #[.string qk, .slice a m c] 73))
      have HNX := Lib.hid (putT_next hx)
      dsimp only at d1 d2
      clear hx c1 c2 hkz
      go_wp2_with (at_mapUpdate; refine wpList_mapUpdate_own _ rfl _ _ _ 77 rfl 9 39 law9 Tryz.underlying77 tokR w.heap.size k _ rfl HOW.out (by unfold maxLen; omega) _ _ _ rfl rfl hkey (.held (.slice a m c)) [] rfl ?_; intro w1 hown1 hgrow1)
      have HBN := Lib.hid (HBW.out.grown hgrow1 HBW.out.size (fun j h => by cases h; exact Nat.le_refl _))
      have HON : Hid (w1.ownsMap Tryz.prog 9 tokR w.heap.size (k + 1) (putT (qs.take (k + 1)))) := Lib.hid (by rw [HNX.out]; exact hown1)
      exact ⟨⟨k + 1, by go_num, by omega, HON, HBN⟩, by simp [intOf]; omega⟩
    · have hke : k = n := by omega
      have HON : Hid (wr.ownsMap Tryz.prog 9 tokR w.heap.size n (putT qs)) := Lib.hid (by have := hown.out; rw [List.take_of_length_le (by rw [HN.out]; omega), hke] at this; exact this)
      clear hke hown
      go_wp2_with (fail)
      refine Calls.mono (HCC.out w.heap.size _ hb.out HON.out) ?_
      rintro e wx ⟨t, rfl, ht, hbx⟩
      have HBF := Lib.hid (hb.out.trans (hbx.mono hb.out.size))
      clear hbx
      go_wp2
      go_ret
      exact ⟨t, rfl, ht, HBF.out⟩

theorem lies91 : liesAt Tryz.prog Tryz.prog.depth 91 (2 / Tryz.prog.cellsOf 91) 0 91 1 = true := by kernel_rfl
set_option maxHeartbeats 1000000 in
set_option maxRecDepth 100000 in
theorem copyCheck_fresh (b : Nat) (w : World) (h0 : w.cell? ⟨b, 0, none⟩ = some (.pointer none)) (hsh : w.shape? b = some (91, 2)) (hfz : w.frozen? ⟨b, 0, none⟩ = false) :
    Calls Tryz.prog 95 #[selfP b] w fun e w' => e = .returned (.tuple #[]) ∧ w' = w.setCell ⟨b, 0, none⟩ (selfP b) := by
  obtain ⟨j, hj, hjs⟩ := Option.map_eq_some_iff.1 size91
  go_enter Tryz.func95, Tryz.ntmps95
  go_wp2
  rw [Lib.run_to_unsafe w ⟨b, 0, none⟩ Tryz.underlying88 Tryz.underlying138 hj (by rw [hjs]; decide) hsh (Nat.zero_lt_succ 1)]
  simp only [Result.andThen]
  rw [Oper.upon_value]
  go_wp2
  rw [run_callFunc_extern Tryz.func114 (by kernel_rfl) (by kernel_rfl) (by kernel_rfl) (e := Extern.AbiNoEscape.same) (by kernel_rfl)]
  rw [Lib.run_noEscape]
  simp only [Result.andThen]
  rw [Oper.upon_value]
  go_wp2
  rw [Lib.run_from_unsafe w ⟨b, 0, none⟩ Tryz.underlying138 Tryz.underlying88 hj hsh lies91]
  simp only [Result.andThen]
  rw [Oper.upon_value]
  go_wp2
  go_end0
  exact ⟨rfl, rfl⟩

end Go.Proofs.YtfkgkkmcaaefnaaGreatDoor.Wk
namespace Go.Proofs.YtfkgkkmcaaefnaaGreatDoor.Wk
open Go.RowKit Go.Proofs.YtfkgkkmcaaefnaaGreatDoor.Pu Go.Maps

/-- of the blocks below N, b alone may have turned -/
structure Frm (N b : Nat) (w w' : World) : Prop where
  os : w'.os = w.os
  tape : w'.tape = w.tape
  output : w'.output = w.output
  size : w.heap.size ≤ w'.heap.size
  block : ∀ k, k < N → k ≠ b → w'.heap[k]? = w.heap[k]?
theorem Frm.refl (N b : Nat) (w : World) : Frm N b w w := ⟨rfl, rfl, rfl, Nat.le_refl _, fun _ _ _ => rfl⟩
theorem Frm.trans {N b : Nat} {a c d : World} (h : Frm N b a c) (h2 : Frm N b c d) : Frm N b a d :=
  ⟨h2.os.trans h.os, h2.tape.trans h.tape, h2.output.trans h.output, Nat.le_trans h.size h2.size, fun k hk hne => (h2.block k hk hne).trans (h.block k hk hne)⟩
theorem Frm.of_below {N b : Nat} {w w' : World} (h : Below N w w') : Frm N b w w' := ⟨h.os, h.tape, h.output, h.size, fun k hk _ => h.block k hk⟩
theorem Frm.below {N b : Nat} {w w' : World} (h : Frm N b w w') (hb : b ≤ N) : Below b w w' := ⟨h.os, h.tape, h.output, h.size, fun k hk => h.block k (Nat.lt_of_lt_of_le hk hb) (Nat.ne_of_lt hk)⟩
/-- a builder in block b, whose bytes lie from N on -/
def BN (N b : Nat) (w : World) (cur : L) : Prop := ∃ v, w.heap[b]? = some (.cells #[selfP b, v] 91 (0, 0)) ∧ w.ownsRow N 5 1 v cur.length (Lib.byteCells cur)
theorem BN.below {N b : Nat} {w w' : World} {cur : L} (h : BN N b w cur) (hb : Below w.heap.size w w') : BN N b w' cur := by
  obtain ⟨v, h1, h2⟩ := h
  exact ⟨v, (hb.block b (Array.getElem?_eq_some_iff.1 h1).1).trans h1, owns_below h2 hb (Nat.le_refl _)⟩
theorem BN.is {N b : Nat} {w : World} {cur : L} (h : BN N b w cur) (hb : b < N) : Lib.IsBuilder 91 5 b b (Lib.byteCells cur) w := by
  obtain ⟨v, h1, h2⟩ := h
  refine Or.inr ⟨Nat.le_refl _, v, h1, by rw [Lib.byteCells_length]; exact owns_mono h2 (Nat.le_of_lt hb), fun e => ?_⟩
  have := own_ge h2 b e
  omega

set_option maxHeartbeats 2000000 in
set_option maxRecDepth 100000 in
theorem wbyteN (N b : Nat) (cur : L) (c : UInt8) (w : World) (h : BN N b w cur) (hb : b < N) (hN : N ≤ w.heap.size) (hlen : cur.length + 1 ≤ 140737488355328) :
    Calls Tryz.prog 63 #[selfP b, .int .u8 (c.toNat : Int)] w fun e w' => e = .returned .nilIface ∧ BN N b w' (cur ++ [c]) ∧ Frm N b w w' := by
  obtain ⟨i0, hi, hz0, hz1, hz2⟩ := info_parts info5
  obtain ⟨v, hbk, hown⟩ := h
  have c0 : w.cell? ⟨b, 0, none⟩ = some (selfP b) := by rw [Lib.cell_of_heap hbk]; rfl
  have c1 : w.cell? ⟨b, 1, none⟩ = some v := by rw [Lib.cell_of_heap hbk]; rfl
  have hne : v.ownBlock ≠ some b := fun e => by have := own_ge hown b e; omega
  have H := Lib.hid hbk
  clear hbk
  go_enter Tryz.func63, Tryz.ntmps63
  go_wp2_with (fail)
  refine (copyCheck_used b _ c0).mono ?_
  rintro e w1 ⟨rfl, rfl⟩
  go_wp2_with (at_builtin; refine wpList_append_own _ rfl _ _ 89 rfl N 5 i0 (.int .u8 0) 1 1 Tryz.underlying89 hi hz0 hz1 hz2 rfl (by decide) _ _ _ rfl (hown.alloc _) ⟨w1.heap.size, 0, none⟩ 1 1 [.int .u8 (c.toNat : Int)] rfl rfl ?c1 ?c2 ?c3 ?c4 ?c5 ?_)
  case c1 =>
    intro j u hj
    match j, hj with
    | 0, hj => simp at hj; subst hj; simp [Addr.add]
  case c2 => intro u hu; simp at hu; subst hu; rfl
  case c3 => unfold maxLen; omega
  case c4 => omega
  case c5 => simp; omega
  intro v' w2 hown' hgrow _
  have hlt : b < w1.heap.size := (Array.getElem?_eq_some_iff.1 H.out).1
  have hb2 : w2.heap[b]? = some (.cells #[selfP b, v] 91 (0, 0)) := by
    rw [hgrow.block b (by simp; omega) (fun e => hne e.symm), Lib.alloc_old w1 _ b hlt]
    exact H.out
  have d0 : w2.cell? ⟨b, 0, none⟩ = some (selfP b) := by rw [Lib.cell_of_heap hb2]; rfl
  have d1 : w2.cell? ⟨b, 1, none⟩ = some v := by rw [Lib.cell_of_heap hb2]; rfl
  have f1 : w2.frozen? ⟨b, 1, none⟩ = false := Lib.frozen_of_heap hb2 1
  obtain ⟨g, cap, rfl⟩ : ∃ g cap, v' = .slice (some ⟨g, 0, none⟩) (cur.length + 1) cap := by
    rcases hown'.2 with ⟨_, h0⟩ | ⟨g, cap, cur, hv, _⟩
    · omega
    · exact ⟨g, cap, hv⟩
  have HB2 := Lib.hid hb2
  have hgge := owns_ge hown'
  have HF := Lib.hid (((Below.refl N w1).alloc hN (.cells #[.int .u8 (c.toNat : Int)] 5)).grown hgrow (by simp; omega) (fun k hk => own_ge hown k hk))
  clear hb2 hgrow H
  go_wp2
  go_ret
  refine ⟨rfl, ⟨.slice (some ⟨g, 0, none⟩) (cur.length + 1) cap, blk_set HB2.out 1 _, ?_⟩, ?_⟩
  · rw [List.length_append]
    refine owns_block (w := w2) (by rw [bc_snoc]; exact hown') (fun k hk => ?_)
    have e : g = k := Option.some.inj hk
    exact blk_far rfl _ _ (by omega)
  · refine ⟨HF.out.os, HF.out.tape, HF.out.output, by simpa using HF.out.size, fun k hk hne => ?_⟩
    rw [blk_far (o := w2.heap[k]?) rfl _ _ (fun e => hne e.symm)]
    exact HF.out.block k hk

set_option maxHeartbeats 2000000 in
set_option maxRecDepth 100000 in
theorem wstringN (N b : Nat) (cur : L) (s : ByteArray) (w : World) (h : BN N b w cur) (hb : b < N) (hN : N ≤ w.heap.size) (hlen : cur.length + s.size ≤ 140737488355328) :
    Calls Tryz.prog 62 #[selfP b, .string s] w fun e w' => e = .returned (.tuple #[.int .i64 s.size, .nilIface]) ∧ BN N b w' (cur ++ s.data.toList) ∧ Frm N b w w' := by
  obtain ⟨i0, hi, hz0, hz1, hz2⟩ := info_parts info5
  obtain ⟨v, hbk, hown⟩ := h
  have c0 : w.cell? ⟨b, 0, none⟩ = some (selfP b) := by rw [Lib.cell_of_heap hbk]; rfl
  have c1 : w.cell? ⟨b, 1, none⟩ = some v := by rw [Lib.cell_of_heap hbk]; rfl
  have hne : v.ownBlock ≠ some b := fun e => by have := own_ge hown b e; omega
  have H := Lib.hid hbk
  clear hbk
  go_enter Tryz.func62, Tryz.ntmps62
  go_wp2_with (fail)
  refine (copyCheck_used b _ c0).mono ?_
  rintro e w1 ⟨rfl, rfl⟩
  go_wp2_with (at_builtin; refine Lib.wpList_append_own_string _ rfl _ _ 89 9 rfl N 5 i0 Tryz.underlying89 Tryz.underlying9 hi hz0 hz1 hz2 _ _ _ rfl hown s rfl ?c3 ?c4 ?c5 ?_)
  case c3 => unfold maxLen; omega
  case c4 => omega
  case c5 => omega
  intro v' w2 hown' hgrow _
  have hlt : b < w1.heap.size := (Array.getElem?_eq_some_iff.1 H.out).1
  have hb2 : w2.heap[b]? = some (.cells #[selfP b, v] 91 (0, 0)) := by
    rw [hgrow.block b hlt (fun e => hne e.symm)]
    exact H.out
  have d0 : w2.cell? ⟨b, 0, none⟩ = some (selfP b) := by rw [Lib.cell_of_heap hb2]; rfl
  have d1 : w2.cell? ⟨b, 1, none⟩ = some v := by rw [Lib.cell_of_heap hb2]; rfl
  have f1 : w2.frozen? ⟨b, 1, none⟩ = false := Lib.frozen_of_heap hb2 1
  have hgge := own_ge hown'
  obtain ⟨ao, n', cap, rfl⟩ : ∃ ao n' cap, v' = .slice ao n' cap := by
    rcases hown'.2 with ⟨hv, _⟩ | ⟨g, cap, cur, hv, _⟩
    · exact ⟨_, _, _, hv⟩
    · exact ⟨_, _, _, hv⟩
  have HB2 := Lib.hid hb2
  have HF := Lib.hid ((Below.refl N w1).grown hgrow hN (fun k hk => own_ge hown k hk))
  clear hb2 hgrow H
  go_wp2
  go_ret2
  refine ⟨rfl, ⟨.slice ao n' cap, blk_set HB2.out 1 _, ?_⟩, ?_⟩
  · refine owns_block (w := w2) (by simpa [Lib.strCells, Lib.byteCells, size_len] using hown') (fun k hk => ?_)
    have := hgge k hk
    exact blk_far rfl _ _ (by omega)
  · refine ⟨HF.out.os, HF.out.tape, HF.out.output, by simpa using HF.out.size, fun k hk hne => ?_⟩
    rw [blk_far (o := w2.heap[k]?) rfl _ _ (fun e => hne e.symm)]
    exact HF.out.block k hk
set_option maxHeartbeats 2000000 in
set_option maxRecDepth 100000 in
/-- WriteString at a builder that was never written -/
theorem wstring_freshN (N b : Nat) (s : ByteArray) (w : World) (hb : b < N) (hbk : w.heap[b]? = some (.cells #[.pointer none, .slice none 0 0] 91 (0, 0))) (hlen : s.size ≤ 140737488355328) (hN : N ≤ w.heap.size) :
    Calls Tryz.prog 62 #[selfP b, .string s] w fun e w' => e = .returned (.tuple #[.int .i64 s.size, .nilIface]) ∧ BN N b w' s.data.toList ∧ Frm N b w w' := by
  obtain ⟨i0, hi, hz0, hz1, hz2⟩ := info_parts info5
  have c0 : w.cell? ⟨b, 0, none⟩ = some (.pointer none) := by rw [Lib.cell_of_heap hbk]; rfl
  have hsh : w.shape? b = some (91, 2) := by simp [World.shape?, hbk]
  have hfz : w.frozen? ⟨b, 0, none⟩ = false := Lib.frozen_of_heap hbk 0
  have H := Lib.hid hbk
  clear hbk
  go_enter Tryz.func62, Tryz.ntmps62
  go_wp2_with (fail)
  refine (copyCheck_fresh b _ c0 hsh hfz).mono ?_
  rintro e w1 ⟨rfl, hw1⟩
  have HBw := Lib.hid (show Frm N b w w1 by
    rw [hw1]
    exact ⟨rfl, rfl, rfl, by simp, fun k hk hne => blk_far rfl _ _ (fun e => hne e.symm)⟩)
  have hb1 : w1.heap[b]? = some (.cells #[selfP b, .slice none 0 0] 91 (0, 0)) := by rw [hw1]; exact blk_set H.out 0 (selfP b)
  clear hw1 c0 hsh hfz
  have d1a : w1.cell? ⟨b, 1, none⟩ = some (.slice none 0 0) := by rw [Lib.cell_of_heap hb1]; rfl
  have hown : w1.ownsRow N 5 1 (.slice none 0 0) 0 [] := ⟨rfl, Or.inl ⟨rfl, rfl⟩⟩
  have hB1 : N ≤ w1.heap.size := Nat.le_trans hN HBw.out.size
  have H1 := Lib.hid hb1
  clear hb1
  go_wp2_with (at_builtin; refine Lib.wpList_append_own_string _ rfl _ _ 89 9 rfl N 5 i0 Tryz.underlying89 Tryz.underlying9 hi hz0 hz1 hz2 _ _ _ rfl hown s rfl ?c3 ?c4 ?c5 ?_)
  case c3 => unfold maxLen; omega
  case c4 => omega
  case c5 => omega
  intro v' w2 hown' hgrow _
  have hlt : b < w1.heap.size := (Array.getElem?_eq_some_iff.1 H1.out).1
  have hb2 : w2.heap[b]? = some (.cells #[selfP b, .slice none 0 0] 91 (0, 0)) := by
    rw [hgrow.block b hlt (by intro e; cases e)]
    exact H1.out
  have d0 : w2.cell? ⟨b, 0, none⟩ = some (selfP b) := by rw [Lib.cell_of_heap hb2]; rfl
  have d1 : w2.cell? ⟨b, 1, none⟩ = some (.slice none 0 0) := by rw [Lib.cell_of_heap hb2]; rfl
  have f1 : w2.frozen? ⟨b, 1, none⟩ = false := Lib.frozen_of_heap hb2 1
  have hgge := own_ge hown'
  obtain ⟨ao, n', cap, rfl⟩ : ∃ ao n' cap, v' = .slice ao n' cap := by
    rcases hown'.2 with ⟨hv, _⟩ | ⟨g, cap, cur, hv, _⟩
    · exact ⟨_, _, _, hv⟩
    · exact ⟨_, _, _, hv⟩
  have HB2 := Lib.hid hb2
  have HF := Lib.hid ((Below.refl N w1).grown hgrow hB1 (fun k hk => by cases hk))
  clear hb2 hgrow H H1
  go_wp2
  go_ret2
  refine ⟨rfl, ⟨.slice ao n' cap, blk_set HB2.out 1 _, ?_⟩, HBw.out.trans ?_⟩
  · refine owns_block (w := w2) (by simpa [Lib.strCells, Lib.byteCells, size_len] using hown') (fun k hk => ?_)
    have := hgge k hk
    exact blk_far rfl _ _ (by omega)
  · refine ⟨HF.out.os, HF.out.tape, HF.out.output, by simpa using HF.out.size, fun k hk hne => ?_⟩
    rw [blk_far (o := w2.heap[k]?) rfl _ _ (fun e => hne e.symm)]
    exact HF.out.block k hk
end Go.Proofs.YtfkgkkmcaaefnaaGreatDoor.Wk
namespace Go.Proofs
open Go.Shelf
def Tryz.lays190_ren : Go.Shelf.Ren := ⟨fun | 190 => 81 | 125 => 105 | 258 => 104 | 128 => 130 | 129 => 131 | 302 => 121 | 303 => 122 | 304 => 123 | 305 => 124 | 306 => 125 | 307 => 126 | 308 => 127 | 309 => 128 | 310 => 129 | 333 => 146 | 329 => 147 | 330 => 148 | 334 => 149 | 335 => 150 | 336 => 151 | 344 => 157 | n => n, fun | 31 => 39 | 9 => 9 | 3 => 3 | 46 => 69 | 0 => 0 | 51 => 152 | 53 => 154 | 4 => 4 | 183 => 145 | 182 => 144 | 131 => 149 | 5 => 5 | 218 => 180 | 222 => 184 | 228 => 193 | 229 => 194 | n => n, fun | n => n⟩
theorem Tryz.lays190 : Go.Proofs.Lays.n190 Tryz.prog Tryz.lays190_ren := {
  mixed := by kernel_rfl
  f125 := Tryz.func105.trans (congrArg some (by kernel_rfl))
  f128 := Tryz.func130.trans (congrArg some (by kernel_rfl))
  f129 := Tryz.func131.trans (congrArg some (by kernel_rfl))
  f190 := Tryz.func81.trans (congrArg some (by kernel_rfl))
  f258 := Tryz.func104.trans (congrArg some (by kernel_rfl))
  f302 := Tryz.func121.trans (congrArg some (by kernel_rfl))
  f303 := Tryz.func122.trans (congrArg some (by kernel_rfl))
  f304 := Tryz.func123.trans (congrArg some (by kernel_rfl))
  f305 := Tryz.func124.trans (congrArg some (by kernel_rfl))
  f306 := Tryz.func125.trans (congrArg some (by kernel_rfl))
  f307 := Tryz.func126.trans (congrArg some (by kernel_rfl))
  f308 := Tryz.func127.trans (congrArg some (by kernel_rfl))
  f309 := Tryz.func128.trans (congrArg some (by kernel_rfl))
  f310 := Tryz.func129.trans (congrArg some (by kernel_rfl))
  f329 := Tryz.func147.trans (congrArg some (by kernel_rfl))
  f330 := Tryz.func148.trans (congrArg some (by kernel_rfl))
  f333 := Tryz.func146.trans (congrArg some (by kernel_rfl))
  f334 := Tryz.func149.trans (congrArg some (by kernel_rfl))
  f335 := Tryz.func150.trans (congrArg some (by kernel_rfl))
  f336 := Tryz.func151.trans (congrArg some (by kernel_rfl))
  f344 := Tryz.func157.trans (congrArg some (by kernel_rfl))
  t0 := Tryz.underlying0
  a0 := Tryz.isAgg0
  z0 := Tryz.sizeOf0
  v0 := Tryz.zeroValue0
  t3 := Tryz.underlying3
  a3 := Tryz.isAgg3
  z3 := Tryz.sizeOf3
  v3 := Tryz.zeroValue3
  t4 := Tryz.underlying4
  a4 := Tryz.isAgg4
  z4 := Tryz.sizeOf4
  v4 := Tryz.zeroValue4
  t5 := Tryz.underlying5
  a5 := Tryz.isAgg5
  z5 := Tryz.sizeOf5
  v5 := Tryz.zeroValue5
  t9 := Tryz.underlying9
  a9 := Tryz.isAgg9
  z9 := Tryz.sizeOf9
  v9 := Tryz.zeroValue9
  t31 := Tryz.underlying39
  a31 := Tryz.isAgg39
  z31 := Tryz.sizeOf39
  v31 := Tryz.zeroValue39
  t46 := Tryz.underlying69
  a46 := Tryz.isAgg69
  z46 := Tryz.sizeOf69
  v46 := Tryz.zeroValue69
  t51 := Tryz.underlying152
  a51 := Tryz.isAgg152
  z51 := Tryz.sizeOf152
  v51 := Tryz.zeroValue152
  t53 := Tryz.underlying154
  a53 := Tryz.isAgg154
  z53 := Tryz.sizeOf154
  v53 := Tryz.zeroValue154
  t131 := Tryz.underlying149
  a131 := Tryz.isAgg149
  z131 := Tryz.sizeOf149
  v131 := Tryz.zeroValue149
  t182 := Tryz.underlying144
  a182 := Tryz.isAgg144
  z182 := Tryz.sizeOf144
  v182 := Tryz.zeroValue144
  t183 := Tryz.underlying145
  a183 := Tryz.isAgg145
  z183 := Tryz.sizeOf145
  v183 := Tryz.zeroValue145
  t218 := Tryz.underlying180
  a218 := Tryz.isAgg180
  z218 := Tryz.sizeOf180
  v218 := Tryz.zeroValue180
  t222 := Tryz.underlying184
  a222 := Tryz.isAgg184
  z222 := Tryz.sizeOf184
  v222 := Tryz.zeroValue184
  t228 := Tryz.underlying193
  a228 := Tryz.isAgg193
  z228 := Tryz.sizeOf193
  v228 := Tryz.zeroValue193
  t229 := Tryz.underlying194
  a229 := Tryz.isAgg194
  z229 := Tryz.sizeOf194
  v229 := Tryz.zeroValue194 }
open Go.Sort Go.RowKit in
theorem Tryz.slices_Sort_string (blk off cap : Nat) (ss : List (List UInt8)) (w : World) (hH : Holds encStr w blk off ss.toArray) (hblk : blk < w.heap.size) (hsz : ss.length < 4611686018427387904) :
    Calls Tryz.prog 81 #[.slice (some ⟨blk, off, none⟩) ss.length cap] w fun e w' =>
      e = .returned (.tuple #[]) ∧ ∃ n os, w' = grow (putRow encStr (Sort.ahead w n) blk off (ss.mergeSort fun x y => decide (x ≤ y)).toArray) os := Any.slices_Sort_string Tryz.lays190 blk off cap ss w hH hblk hsz
end Go.Proofs
namespace Go.Proofs.YtfkgkkmcaaefnaaGreatDoor.Wk
open Go.RowKit Go.Proofs.YtfkgkkmcaaefnaaGreatDoor.Pu Go.Maps

def setF (k : L) (ys : List ByteArray) : List L := ys.map fun y => escF 32 k ++ [61] ++ escF 32 y.data.toList
def settings (ps : List PairB) : List L := ps.flatMap fun p => setF p.1.data.toList p.2
def addS (out x : L) : L := out ++ (if out = [] then [] else [38]) ++ x
def encF (ps : List PairB) : L := (settings ps).foldl addS []
def Bld (w : World) (b : Nat) : Prop := w.heap[b]? = some (.cells #[.pointer none, .slice none 0 0] 91 (0, 0))
def KeysAt (w : World) (g n : Nat) (ss : List L) : Prop := ∃ cur : Array Value, w.heap[g]? = some (.cells cur 9 (0, 0)) ∧ cur.size = n ∧ cur.toList.take ss.length = ss.map encStr

theorem escF_len3 (m : Nat) (l : L) : (escF m l).length ≤ 3 * l.length := by
  rw [escF_len]
  have : hxN m l ≤ l.length := List.countP_le_length
  omega
theorem settings_len (ps : List PairB) : (settings ps).length = (ps.map fun p => p.2.length).sum := by
  unfold settings
  induction ps with
  | nil => rfl
  | cons p ps ih => rw [List.flatMap_cons, List.length_append, ih, List.map_cons, List.sum_cons]; unfold setF; rw [List.length_map]
theorem fold_len (C : Nat) : ∀ (ss : List L) (acc : L), (∀ x ∈ ss, x.length ≤ C) → (ss.foldl addS acc).length ≤ acc.length + ss.length * (C + 1)
  | [], acc, _ => by simp
  | x :: ss, acc, h => by
    rw [List.foldl_cons]
    refine Nat.le_trans (fold_len C ss _ (fun y hy => h y (List.mem_cons_of_mem _ hy))) ?_
    have h1 := h x List.mem_cons_self
    have h2 : (addS acc x).length ≤ acc.length + 1 + C := by
      unfold addS
      split <;> simp <;> omega
    rw [List.length_cons, Nat.add_mul]
    omega
/-- what was written up to a setting -/
def upto (qs : List TripB) (k m : Nat) (q : TripB) : List L := settings (plainT (qs.take k)) ++ setF q.1.data.toList (q.2.1.take m)
theorem upto_len {qs : List TripB} {k m : Nat} {q : TripB} (hk : qs[k]? = some q) : (upto qs k m q).length ≤ (qs.map fun q => q.2.1.length).sum := by
  unfold upto
  rw [List.length_append, settings_len]
  have h1 : (qs.map fun q => q.2.1.length).sum = ((qs.take k).map fun q => q.2.1.length).sum + ((qs.drop k).map fun q => q.2.1.length).sum := by
    conv => lhs; rw [← List.take_append_drop k qs, List.map_append, List.sum_append]
  have hd : qs.drop k = q :: qs.drop (k + 1) := by
    obtain ⟨hl, rfl⟩ := List.getElem?_eq_some_iff.1 hk
    exact List.drop_eq_getElem_cons hl
  rw [h1, hd, List.map_cons, List.sum_cons]
  unfold plainT setF
  rw [List.map_map, List.length_map, List.length_take]
  have e : ((fun p : PairB => p.2.length) ∘ fun q : TripB => (q.1, q.2.1)) = fun q : TripB => q.2.1.length := rfl
  rw [e]
  omega
theorem upto_el {M : Nat} {qs : List TripB} {k m : Nat} {q : TripB} (hk : qs[k]? = some q) (hs : ∀ q ∈ qs, q.1.size ≤ M ∧ ∀ y ∈ q.2.1, y.size ≤ M) : ∀ x ∈ upto qs k m q, x.length ≤ 6 * M + 1 := by
  have one : ∀ p ∈ qs, ∀ ys : List ByteArray, (∀ y ∈ ys, y ∈ p.2.1) → ∀ x ∈ setF p.1.data.toList ys, x.length ≤ 6 * M + 1 := by
    intro p hp ys hys x hx
    obtain ⟨y, hy, rfl⟩ := List.mem_map.1 hx
    have h1 := (hs p hp).1
    have h2 := (hs p hp).2 y (hys y hy)
    have h3 := escF_len3 32 p.1.data.toList
    have h4 := escF_len3 32 y.data.toList
    rw [size_len] at h3 h4
    simp only [List.length_append, List.length_singleton]
    omega
  intro x hx
  rcases List.mem_append.1 hx with h1 | h1
  · unfold settings plainT at h1
    obtain ⟨p, hp, hx⟩ := List.mem_flatMap.1 h1
    obtain ⟨q', hq', rfl⟩ := List.mem_map.1 hp
    exact one q' (List.mem_of_mem_take hq') _ (fun y h => h) x hx
  · exact one q (List.mem_of_getElem? hk) _ (fun y h => List.mem_of_mem_take h) x h1
theorem upto_next {qs : List TripB} {k m : Nat} {q : TripB} {y : ByteArray} (hy : q.2.1[m]? = some y) : (upto qs k (m + 1) q).foldl addS [] = addS ((upto qs k m q).foldl addS []) (escF 32 q.1.data.toList ++ [61] ++ escF 32 y.data.toList) := by
  unfold upto setF
  rw [List.take_add_one, hy, Option.toList_some, List.map_append, ← List.append_assoc, List.foldl_append]
  rfl
theorem upto_zero (qs : List TripB) (k : Nat) (q : TripB) : upto qs k 0 q = settings (plainT (qs.take k)) := by
  unfold upto setF; simp
theorem upto_full {qs : List TripB} {k : Nat} {q : TripB} (hk : qs[k]? = some q) : upto qs k q.2.1.length q = settings (plainT (qs.take (k + 1))) := by
  unfold upto settings plainT
  rw [List.take_length, List.take_add_one, hk, Option.toList_some, List.map_append, List.flatMap_append]
  simp
theorem sorted_keys {qs : List TripB} {D : DataW Value} {ss : List L} {w : World} {b n : Nat} (hsrt : (qs.map fun q => q.1.toList).Pairwise fun a b => Op.bytesLess a b = true) (hown : w.ownsMap Tryz.prog 9 tokR b n D) (hI : IsOf D (entT qs)) (hp : ss.Perm (strKeys D)) :
    (ss.mergeSort fun x y => decide (x ≤ y)) = qs.map fun q => q.1.data.toList := by
  have h1 := keys_of hown hI
  have h2 : (entT qs).map (·.1) = qs.map fun q => q.1.data.toList := by unfold entT; rw [List.map_map]; rfl
  rw [h2] at h1
  have h3 := mergeSort_of_perm (hp.trans h1.symm)
  rw [show (fun x y : L => decide (x ≤ y)) = leB from rfl, h3]
  refine List.mergeSort_of_pairwise ?_
  have h4 : (qs.map fun q => q.1.data.toList).Pairwise fun a b => Op.bytesLess a b = true := by simpa only [toList_data] using hsrt
  refine h4.imp ?_
  intro a b hab
  rw [bytesLess_eq, decide_eq_true_eq] at hab
  simp only [leB, decide_eq_true_eq]
  exact List.le_of_lt hab
/-- a builder, written or not -/
def BS (N b : Nat) (w : World) (out : L) : Prop := (out = [] ∧ Bld w b) ∨ BN N b w out
theorem BS.is {N b : Nat} {w : World} {out : L} (h : BS N b w out) (hb : b < N) : Lib.IsBuilder 91 5 b b (Lib.byteCells out) w := by
  rcases h with ⟨rfl, h⟩ | h
  · exact Or.inl ⟨Nat.le_refl _, .slice none 0 0, h, ⟨rfl, Or.inl ⟨rfl, rfl⟩⟩, by simp [Value.ownBlock]⟩
  · exact h.is hb
theorem BS.below {N b : Nat} {w w' : World} {out : L} (h : BS N b w out) (hb : Below w.heap.size w w') : BS N b w' out := by
  rcases h with ⟨rfl, h⟩ | h
  · exact Or.inl ⟨rfl, (hb.block b (Array.getElem?_eq_some_iff.1 h).1).trans h⟩
  · exact Or.inr (h.below hb)
theorem bs_str (N b : Nat) (out : L) (s : ByteArray) (w : World) (h : BS N b w out) (hb : b < N) (hN : N ≤ w.heap.size) (hlen : out.length + s.size ≤ 140737488355328) :
    Calls Tryz.prog 62 #[selfP b, .string s] w fun e w' => e = .returned (.tuple #[.int .i64 s.size, .nilIface]) ∧ BN N b w' (out ++ s.data.toList) ∧ Frm N b w w' := by
  rcases h with ⟨rfl, h⟩ | h
  · exact wstring_freshN N b s w hb h (by simpa using hlen) hN
  · exact wstringN N b out s w h hb hN hlen
set_option maxHeartbeats 1000000 in
set_option maxRecDepth 100000 in
theorem qescape_any (s : ByteArray) (w : World) (hT : Tab w) (hs : s.size ≤ 40000000000000) :
    Calls Tryz.prog 82 #[.string s] w fun e w' => ∃ t : ByteArray, e = .returned (.string t) ∧ Hid (t.data.toList = escF 32 s.data.toList) ∧ Below w.heap.size w w' := by
  go_enter Tryz.func82, Tryz.ntmps82
  go_wp2_with (fail)
  refine Calls.mono (escape_any s 32 w hT (by decide) hs) ?_
  rintro e w1 ⟨t, rfl, ht, hb⟩
  go_wp2
  go_ret
  exact ⟨t, rfl, ht, hb⟩
theorem owns_map_of {w w' : World} {b n : Nat} {D : DataW Value} (h : w.ownsMap Tryz.prog 9 tokR b n D) (hb : w'.heap[b]? = w.heap[b]?) : w'.ownsMap Tryz.prog 9 tokR b n D := by
  obtain ⟨es, clock, h1, h2⟩ := h
  exact ⟨es, clock, hb.trans h1, h2⟩
theorem grown_set (w : World) (g i : Nat) (v : Value) : w.grownBy (w.setCell ⟨g, i, none⟩ v) (some g) :=
  ⟨rfl, rfl, rfl, by simp, fun k hk hne => blk_far rfl _ _ (fun e => hne (by rw [e]))⟩
theorem KeysAt.grown {w w' : World} {g n : Nat} {ss : List L} {row : Option Nat} (h : KeysAt w g n ss) (hg : w.grownBy w' row) (hne : some g ≠ row) : KeysAt w' g n ss := by
  obtain ⟨cur, h1, h2, h3⟩ := h
  exact ⟨cur, (hg.block g (Array.getElem?_eq_some_iff.1 h1).1 hne).trans h1, h2, h3⟩
theorem KeysAt.cell {w : World} {g n : Nat} {ss : List L} (h : KeysAt w g n ss) {i : Nat} (hi : i < n) : ∃ v, w.cell? ⟨g, i, none⟩ = some v := by
  obtain ⟨cur, h1, h2, h3⟩ := h
  exact ⟨cur[i], by rw [Lib.cell_of_heap h1, Array.getElem?_eq_getElem]⟩
theorem KeysAt.free {w : World} {g n : Nat} {ss : List L} (h : KeysAt w g n ss) (i : Nat) : w.frozen? ⟨g, i, none⟩ = false := by
  obtain ⟨cur, h1, h2, h3⟩ := h
  exact Lib.frozen_of_heap h1 i
theorem KeysAt.snoc {w : World} {g n : Nat} {ss : List L} (h : KeysAt w g n ss) (hi : ss.length < n) (x : L) : KeysAt (w.setCell ⟨g, ss.length, none⟩ (encStr x)) g n (ss ++ [x]) := by
  obtain ⟨cur, h1, h2, h3⟩ := h
  refine ⟨_, blk_set h1 ss.length (encStr x), by rw [Array.size_setIfInBounds]; exact h2, ?_⟩
  have hl : cur.toList.length = n := by rw [Array.length_toList]; exact h2
  rw [Array.toList_setIfInBounds, List.length_append, List.length_singleton, List.map_append, List.take_add_one, List.take_set, List.set_eq_of_length_le (by rw [List.length_take]; omega), h3, List.getElem?_set_self (by omega)]
  rfl
set_option maxHeartbeats 8000000 in
set_option maxRecDepth 100000 in
theorem vencode_any (M : Nat) (b : Nat) (qs : List TripB) (w : World) (hT : Tab w) (hown : w.ownsMap Tryz.prog 9 tokR b qs.length (putT qs)) (hsrt : (qs.map fun q => q.1.toList).Pairwise fun a b => Op.bytesLess a b = true)
    (hn : qs.length ≤ 2000) (hM : M ≤ 10000000) (hs : ∀ q ∈ qs, StrSl w q.2.2 q.2.1 ∧ q.2.1.length ≤ 2000 ∧ q.1.size ≤ M ∧ ∀ y ∈ q.2.1, y.size ≤ M) (htot : (qs.map fun q => q.2.1.length).sum ≤ 2000) :
    Calls Tryz.prog 52 #[.map (some b)] w fun e w' => ∃ t : ByteArray, e = .returned (.string t) ∧ Hid (t.data.toList = encF (plainT qs)) ∧ Below w.heap.size w w' := by
  have hnd : (qs.map fun q => q.1.data.toList).Nodup := by
    have := sorted_nodup hsrt
    simpa only [toList_data] using this
  have HI := Lib.hid (isOf_putT qs hnd)
  have hsz : Maps.size (putT qs) = qs.length := by rw [size_of hown HI.out]; unfold entT; rw [List.length_map]
  have hbl := hown.lt
  have HOW := Lib.hid hown
  have HT := Lib.hid hT
  have HS := Lib.hid hs
  have HSR := Lib.hid hsrt
  have HTO := Lib.hid htot
  obtain ⟨i9, hi, hz0, hz1, hz2⟩ := info_parts info9
  have hmk : ∀ (w : World) (n : Nat), n ≤ 2000 → (Instr.makeSlice 39 (.int .i64 (n : Int)) (.int .i64 (n : Int))).run Tryz.prog w = .ok (.slice (some ⟨w.heap.size, 0, none⟩) n n) (w.alloc (.cells (madeCells (Value.string ⟨#[]⟩).cells (n * 1)) 9)) := by
    intro w n hn
    have := run_makeSlice (P := Tryz.prog) w 39 9 i9 _ Tryz.underlying39 hi hz0 .i64 .i64 n n (by omega) (by omega) (by rw [hz1]; simp; omega) (by rw [hz2]; omega) (by omega)
    simpa [hz1] using this
  generalize hN : qs.length = n at *
  have HN := Lib.hid hN
  have hmk1 := fun w : World => hmk w n hn
  clear hN hnd hown hT hs hsrt htot hmk
  generalize hD : putT qs = D at *
  clear hD
  by_cases h0 : n = 0
  · subst h0
    have hq : qs = [] := List.length_eq_zero_iff.1 HN.out
    go_enter Tryz.func52, Tryz.ntmps52
    go_wp2_with (at_len; refine wpList_len_own _ rfl _ 77 rfl 9 39 Tryz.underlying77 _ b 0 _ rfl HOW.out ?_; rw [hsz])
    go_ret
    exact ⟨⟨#[]⟩, rfl, Lib.hid (by rw [hq]; rfl), Below.refl _ _⟩
  have hn0 : ((n : Int) == 0) = false := by rw [beq_eq_false_iff_ne]; omega
  go_enter Tryz.func52, Tryz.ntmps52
  go_wp2_with (first
    | (at_len; refine wpList_len_own _ rfl _ 77 rfl 9 39 Tryz.underlying77 _ b n _ rfl HOW.out ?_; rw [hsz])
    | (at_len; refine wpList_len_own _ rfl _ 77 rfl 9 39 Tryz.underlying77 _ b n _ rfl (HOW.out.alloc _) ?_; rw [hsz])
    | (at_range; refine wpList_range_own _ rfl _ 77 rfl 9 39 law9 Tryz.underlying77 tokR b n D rfl ((HOW.out.alloc _).alloc _) ?_; intro w0 hrg0 hg0 hs0))
  have hr : ((w.alloc (Obj.cells #[Value.pointer none, Value.slice none 0 0] 91)).alloc (Obj.cells (madeCells #[Value.string ⟨#[]⟩] n) 9)).heap.size = w.heap.size + 2 := by simp
  have HB0 : Hid (Below w.heap.size w w0) := Lib.hid ((((Below.refl w.heap.size w).alloc (Nat.le_refl _) (.cells #[.pointer none, .slice none 0 0] 91)).alloc (by simp) (.cells (madeCells #[.string ⟨#[]⟩] n) 9)).grown hg0 (by simp; omega) (fun k h => by cases h))
  have HBl : Hid (Bld w0 w.heap.size) := Lib.hid (by
    have h1 := blk_below (blk_new w (.cells #[.pointer none, .slice none 0 0] 91)) ((Below.refl (w.alloc (.cells #[.pointer none, .slice none 0 0] 91)).heap.size (w.alloc (.cells #[.pointer none, .slice none 0 0] 91))).alloc (Nat.le_refl _) (.cells (madeCells #[.string ⟨#[]⟩] n) 9)) (by simp)
    exact (hg0.block _ (by rw [hr]; omega) (by simp)).trans h1)
  have HKs : Hid (KeysAt w0 (w.heap.size + 1) n []) := Lib.hid (by
    refine ⟨madeCells #[.string ⟨#[]⟩] n, ?_, size_madeCells _ _, rfl⟩
    have h1 := blk_new (w.alloc (.cells #[.pointer none, .slice none 0 0] 91)) (.cells (madeCells #[.string ⟨#[]⟩] n) 9)
    rw [show (w.alloc (.cells #[.pointer none, .slice none 0 0] 91)).heap.size = w.heap.size + 1 by simp] at h1
    exact (hg0.block _ (by rw [hr]; omega) (by simp)).trans h1)
  rw [hr] at hrg0
  rw [hr]
  have HRG := Lib.hid hrg0
  have hs1 : w0.heap.size = w.heap.size + 3 := by rw [hs0, hr]
  clear hr hg0 hs0 hmk1 hrg0
  go_frame
  go_loopw [5] (fun i wr => ∃ (left : Lit → Bool) (cnt : Nat) (ss : List L), i = .int .i64 (ss.length : Nat) ∧ ss.length + cnt ≤ n ∧ Hid (wr.ranges Tryz.prog 9 tokR b (w.heap.size + 2) n D left cnt) ∧ Hid (Collected D left ss) ∧
      Hid (KeysAt wr (w.heap.size + 1) n ss) ∧ Hid (Bld wr w.heap.size) ∧ Hid (Below w.heap.size w wr) ∧ wr.heap.size = w.heap.size + 3)
    (fun _ wr => wr.rangeLeft b (w.heap.size + 2))
  case atStart => exact ⟨_, _, [], rfl, by rw [hsz]; simp, HRG, Lib.hid (Collected.start D), HKs, HBl, HB0, hs1⟩
  case round =>
    clear HRG HKs HBl HB0 hs1
    obtain ⟨left, cnt, ss, rfl, hle, hrg, hC, hKs, hBl, hb, hsw⟩ := hrel
    go_wp2_with (first
      | (at_next; refine wpList_next_ranges _ rfl _ rfl 9 law9 tokR encStr (fun c : Option Addr × Nat × Nat => Value.slice c.1 c.2.1 c.2.2) (fun key kl hk => by obtain ⟨x, hx, _⟩ := Maps.keyOf_str Tryz.underlying9 hk; exact ⟨x, hx⟩) (fun v y hv => tok_inv hv) b (w.heap.size + 2) n _ _ _ rfl hrg.out ?_ ?_))
    · intro hc0 hl0
      have hp := hC.out.perm HOW.out law9 Tryz.underlying9 hl0
      have hlen : ss.length = n := by
        have h1 := hp.length_eq
        have h2 := (keys_of HOW.out HI.out).length_eq
        unfold entT at h2
        rw [List.length_map, List.length_map] at h2
        have h3 := HN.out
        omega
      have HSK := Lib.hid (sorted_keys HSR.out HOW.out HI.out hp)
      obtain ⟨cur, hk1, hk2, hk3⟩ := hKs.out
      have hhold := holds_of_block hk1 hk3
      have hlt2 : w.heap.size + 1 < wr.heap.size := by omega
      have hso := Tryz.slices_Sort_string (w.heap.size + 1) 0 n ss wr hhold hlt2 (by omega)
      rw [hlen] at hso
      have HSO := Lib.hid hso
      have HK1 := Lib.hid hk1
      clear hp hk3 hhold hso hrg hC hKs hk1 hl0 hc0
      go_wp2_with (fail)
      refine Calls.mono HSO.out ?_
      rintro e ws ⟨rfl, q, os, hws⟩
      have HG := Lib.hid (show wr.grownBy ws (some (w.heap.size + 1)) by rw [hws]; exact grownBy_sorted _)
      have HKS : Hid (KeysAt ws (w.heap.size + 1) n (qs.map fun q => q.1.data.toList)) := Lib.hid (by
        rw [hws, HSK.out]
        refine ⟨_, heap_sorted _ HK1.out, by simp [Sort.putCells, hk2], take_putCells _ _ (by rw [List.length_map, HN.out, hk2]; exact Nat.le_refl _)⟩)
      have HBS : Hid (Bld ws w.heap.size) := Lib.hid ((HG.out.block _ (by omega) (by simp)).trans hBl.out)
      have HBW : Hid (Below w.heap.size w ws) := Lib.hid (hb.out.grown HG.out (by omega) (fun k h => by cases h; omega))
      have hsws : w.heap.size + 3 ≤ ws.heap.size := by have := HG.out.size; omega
      have hF0 := Frm.refl ws.heap.size w.heap.size ws
      clear hws HSO HK1 hBl hb hk2 HG
      rw [hlen]
      clear hlen hle HSK hsw hlt2
      go_wp2
      go_loopw [35] (fun i wx => ∃ (k : Nat) (out : L), i = .int .i64 k ∧ k ≤ n ∧ Hid (out = (settings (plainT (qs.take k))).foldl addS []) ∧ Hid (BS ws.heap.size w.heap.size wx out) ∧ Hid (Frm ws.heap.size w.heap.size ws wx)) (fun i _ => n - (intOf i).toNat)
      case atStart => exact ⟨0, [], rfl, by omega, Lib.hid rfl, Lib.hid (Or.inl ⟨rfl, HBS.out⟩), Lib.hid hF0⟩
      case round =>
        clear HBS hF0
        obtain ⟨k, out, rfl, hk, hout, hbs, hfr⟩ := hrel
        have HBx := Lib.hid (HBW.out.trans ((hfr.out.below (by omega)).mono (Nat.le_refl _)))
        by_cases hlt : k < n
        · obtain ⟨⟨key, ys, x⟩, hx⟩ : ∃ x, qs[k]? = some x := ⟨_, List.getElem?_eq_getElem (by rw [HN.out]; exact hlt)⟩
          obtain ⟨s1, s2, s3, s4⟩ := HS.out _ (List.mem_of_getElem? hx)
          obtain ⟨ao, cp, e1⟩ := s1.shape
          dsimp only at s1 s2 s3 s4 e1
          subst e1
          have c1 : wr.cell? ⟨w.heap.size + 1, k, none⟩ = some (.string key) := by
            obtain ⟨cur2, g1, g2, g3⟩ := HKS.out
            rw [Lib.cell_of_heap ((hfr.out.block _ (by omega) (by omega)).trans g1), ← Array.getElem?_toList]
            have h1 : (cur2.toList.take (qs.map fun q => q.1.data.toList).length)[k]? = ((qs.map fun q => q.1.data.toList).map encStr)[k]? := by rw [g3]
            rw [List.getElem?_take_of_lt (by rw [List.length_map, HN.out]; exact hlt), List.getElem?_map, List.getElem?_map, hx] at h1
            exact h1
          have HOx : wr.ownsMap Tryz.prog 9 tokR b n D := owns_map_of HOW.out (HBx.out.block b hbl)
          have hlook := look_of HOx HI.out (key := key) (a := ao) (m := ys.length) (c := cp) (by unfold maxLen; omega) (by unfold entT; exact List.mem_map.2 ⟨_, List.mem_of_getElem? hx, rfl⟩)
          have HX := Lib.hid hx
          have S1 := Lib.hid s1
          have S4 := Lib.hid s4
          have hbsx := Lib.hid (HT.out.up HBx.out HT.out.pos)
          have hNx := hfr.out.size
          clear hx HOx s1 s4
          go_wp2_with (fail)
          refine Calls.mono (qescape_any key _ hbsx.out (by omega)) ?_
          rintro e wa ⟨ek, rfl, hek, hba⟩
          have HFa := Lib.hid (hfr.out.trans (Frm.of_below (hba.mono hNx)))
          have HSa := Lib.hid (hbs.out.below hba)
          have hNa : ws.heap.size ≤ wa.heap.size := Nat.le_trans hNx hba.size
          have hekz : ek.size ≤ 3 * M := by have h1 := escF_len3 32 key.data.toList; rw [← hek.out, size_len, size_len] at h1; omega
          have HU0 : Hid (out = (upto qs k 0 (key, ys, .slice ao ys.length cp)).foldl addS []) := Lib.hid (by rw [upto_zero]; exact hout.out)
          clear hba c1 hlook hfr hbs HBx hbsx hNx hout
          go_wp2
          go_loopw [46] (fun i wx => ∃ (m : Nat) (out : L), i = .int .i64 m ∧ m ≤ ys.length ∧ Hid (out = (upto qs k m (key, ys, .slice ao ys.length cp)).foldl addS []) ∧ Hid (BS ws.heap.size w.heap.size wx out) ∧ Hid (Frm ws.heap.size w.heap.size ws wx)) (fun i _ => ys.length - (intOf i).toNat)
          case atStart => exact ⟨0, out, rfl, by omega, HU0, HSa, HFa⟩
          case round =>
            clear HU0 HSa HFa hNa
            obtain ⟨m, out, rfl, hm, hout, hbs, hfr⟩ := hrel
            by_cases hml : m < ys.length
            · obtain ⟨y, hy⟩ : ∃ y, ys[m]? = some y := ⟨_, List.getElem?_eq_getElem hml⟩
              have HBx := Lib.hid (HBW.out.trans ((hfr.out.below (by omega)).mono (Nat.le_refl _)))
              obtain ⟨p1, q1, rfl, r1, t1⟩ := S1.out.at hy
              have c1 := (HBx.out.cell (p := ⟨p1, q1 + m, none⟩) r1).trans t1
              have hyz := S4.out y (List.mem_of_getElem? hy)
              have hnx := Lib.hid (upto_next (k := k) (qs := qs) (q := (key, ys, .slice (some ⟨p1, q1, none⟩) ys.length cp)) hy)
              have hol : out.length ≤ 2000 * (6 * M + 2) := by
                have h1 := fold_len (6 * M + 1) (upto qs k m (key, ys, .slice (some ⟨p1, q1, none⟩) ys.length cp)) [] (upto_el HX.out (fun q hq => ⟨(HS.out q hq).2.2.1, (HS.out q hq).2.2.2⟩))
                have h2 := upto_len (m := m) HX.out
                rw [← hout.out] at h1
                have h3 := HTO.out
                have h4 : (upto qs k m (key, ys, .slice (some ⟨p1, q1, none⟩) ys.length cp)).length * (6 * M + 1 + 1) ≤ 2000 * (6 * M + 2) := Nat.mul_le_mul (Nat.le_trans h2 h3) (Nat.le_refl _)
                simp only [List.length_nil, Nat.zero_add] at h1
                exact Nat.le_trans h1 h4
              have hlen := Tryz.Builder_Len w.heap.size w.heap.size (Lib.byteCells out) wr (hbs.out.is (by omega))
              rw [Lib.byteCells_length] at hlen
              have HLN := Lib.hid hlen
              have hNx := hfr.out.size
              have hTx := Lib.hid (HT.out.up HBx.out HT.out.pos)
              clear hlen hy t1
              go_wp2_with (fail)
              refine Calls.mono HLN.out ?_
              rintro e wb ⟨rfl, rfl⟩
              by_cases hq : out = []
              · have hq0 : out.length = 0 := by rw [hq]; rfl
                go_wp2_with (fail)
                refine Calls.mono (bs_str ws.heap.size w.heap.size out ek wb hbs.out (by omega) hNx (by first | omega | (simp only [List.length_append, size_len, List.length_singleton]; omega))) ?_
                rintro e w3 ⟨rfl, hb3, hf3⟩
                have HB3 := Lib.hid hb3
                have HF3 := Lib.hid (hfr.out.trans hf3)
                have hN3 := HF3.out.size
                clear hb3 hf3
                go_wp2_with (fail)
                refine Calls.mono (wbyteN ws.heap.size w.heap.size _ 61 w3 HB3.out (by omega) hN3 (by first | omega | (simp only [List.length_append, size_len, List.length_singleton]; omega))) ?_
                rintro e w4 ⟨rfl, hb4, hf4⟩
                have HB4 := Lib.hid hb4
                have HF4 := Lib.hid (HF3.out.trans hf4)
                have hN4 := HF4.out.size
                have hT4 := Lib.hid (HT.out.up (HBW.out.trans ((HF4.out.below (by omega)).mono (Nat.le_refl _))) HT.out.pos)
                clear hb4 hf4 HB3 HF3
                go_wp2_with (fail)
                refine Calls.mono (qescape_any y _ hT4.out (by omega)) ?_
                rintro e w5 ⟨ev, rfl, hev, hb5⟩
                have HB5 := Lib.hid (HB4.out.below hb5)
                have HF5 := Lib.hid (HF4.out.trans (Frm.of_below (hb5.mono hN4)))
                have hN5 := HF5.out.size
                have hevz : ev.size ≤ 3 * M := by have h1 := escF_len3 32 y.data.toList; rw [← hev.out, size_len, size_len] at h1; omega
                clear hb5 HB4 HF4 hT4
                go_wp2_with (fail)
                refine Calls.mono (wstringN ws.heap.size w.heap.size _ ev _ HB5.out (by omega) hN5 (by first | omega | (simp only [List.length_append, size_len, List.length_singleton]; omega))) ?_
                rintro e w6 ⟨rfl, hb6, hf6⟩
                have HB6 : Hid (BS ws.heap.size w.heap.size w6 ((upto qs k (m + 1) (key, ys, .slice (some ⟨p1, q1, none⟩) ys.length cp)).foldl addS [])) := Lib.hid (Or.inr (by
                  rw [hnx.out, ← hout.out]
                  have hb7 := hb6
                  rw [hev.out, hek.out] at hb7
                  unfold addS
                  rw [if_pos hq]
                  simpa using hb7))
                have HF6 := Lib.hid (HF5.out.trans hf6)
                clear hb6 hf6 HB5 HF5
                go_wp2
                exact ⟨⟨m + 1, _, by go_num, by omega, Lib.hid rfl, HB6, HF6⟩, by simp [intOf]; omega⟩
              · have hq0 : 0 < out.length := List.length_pos_iff.2 hq
                have hbn : BN ws.heap.size w.heap.size wb out := by
                  rcases hbs.out with ⟨e, _⟩ | h
                  · exact absurd e hq
                  · exact h
                go_wp2_with (fail)
                refine Calls.mono (wbyteN ws.heap.size w.heap.size out 38 wb hbn (by omega) hNx (by omega)) ?_
                rintro e w2 ⟨rfl, hb2, hf2⟩
                have HB2 : Hid (BS ws.heap.size w.heap.size w2 (out ++ [38])) := Lib.hid (Or.inr hb2)
                have HF2 := Lib.hid (hfr.out.trans hf2)
                have hN2 := HF2.out.size
                clear hb2 hf2 hbn
                go_wp2_with (fail)
                refine Calls.mono (bs_str ws.heap.size w.heap.size (out ++ [38]) ek w2 HB2.out (by omega) hN2 (by first | omega | (simp only [List.length_append, size_len, List.length_singleton]; omega))) ?_
                rintro e w3 ⟨rfl, hb3, hf3⟩
                have HB3 := Lib.hid hb3
                have HF3 := Lib.hid (HF2.out.trans hf3)
                have hN3 := HF3.out.size
                clear hb3 hf3
                go_wp2_with (fail)
                refine Calls.mono (wbyteN ws.heap.size w.heap.size _ 61 w3 HB3.out (by omega) hN3 (by first | omega | (simp only [List.length_append, size_len, List.length_singleton]; omega))) ?_
                rintro e w4 ⟨rfl, hb4, hf4⟩
                have HB4 := Lib.hid hb4
                have HF4 := Lib.hid (HF3.out.trans hf4)
                have hN4 := HF4.out.size
                have hT4 := Lib.hid (HT.out.up (HBW.out.trans ((HF4.out.below (by omega)).mono (Nat.le_refl _))) HT.out.pos)
                clear hb4 hf4 HB3 HF3
                go_wp2_with (fail)
                refine Calls.mono (qescape_any y _ hT4.out (by omega)) ?_
                rintro e w5 ⟨ev, rfl, hev, hb5⟩
                have HB5 := Lib.hid (HB4.out.below hb5)
                have HF5 := Lib.hid (HF4.out.trans (Frm.of_below (hb5.mono hN4)))
                have hN5 := HF5.out.size
                have hevz : ev.size ≤ 3 * M := by have h1 := escF_len3 32 y.data.toList; rw [← hev.out, size_len, size_len] at h1; omega
                clear hb5 HB4 HF4 hT4
                go_wp2_with (fail)
                refine Calls.mono (wstringN ws.heap.size w.heap.size _ ev _ HB5.out (by omega) hN5 (by first | omega | (simp only [List.length_append, size_len, List.length_singleton]; omega))) ?_
                rintro e w6 ⟨rfl, hb6, hf6⟩
                have HB6 : Hid (BS ws.heap.size w.heap.size w6 ((upto qs k (m + 1) (key, ys, .slice (some ⟨p1, q1, none⟩) ys.length cp)).foldl addS [])) := Lib.hid (Or.inr (by
                  rw [hnx.out, ← hout.out]
                  have hb7 := hb6
                  rw [hev.out, hek.out] at hb7
                  unfold addS
                  rw [if_neg hq]
                  simpa using hb7))
                have HF6 := Lib.hid (HF5.out.trans hf6)
                clear hb6 hf6 HB5 HF5
                go_wp2
                exact ⟨⟨m + 1, _, by go_num, by omega, Lib.hid rfl, HB6, HF6⟩, by simp [intOf]; omega⟩
            · have hme : m = ys.length := by omega
              have HU : Hid (out = (settings (plainT (qs.take (k + 1)))).foldl addS []) := Lib.hid (by rw [← upto_full HX.out, ← hme]; exact hout.out)
              clear hme hout
              go_wp2
              exact ⟨⟨k + 1, out, by go_num, by omega, HU, hbs, hfr⟩, by simp [intOf]; omega⟩
        · have hke : k = n := by omega
          have HU : Hid (out = encF (plainT qs)) := Lib.hid (by unfold encF; have h1 := hout.out; rw [List.take_of_length_le (by rw [HN.out]; omega)] at h1; exact h1)
          have hstr := Tryz.Builder_String_any w.heap.size w.heap.size out wr (hbs.out.is (by omega)) HBx.out.size
          have HST := Lib.hid hstr
          clear hke hout hstr hbs
          go_wp2_with (fail)
          refine Calls.mono HST.out ?_
          rintro e wy ⟨rfl, hby⟩
          have HF := Lib.hid (HBx.out.trans hby)
          clear hby
          go_wp2
          go_ret
          exact ⟨_, rfl, Lib.hid (by rw [HU.out]), HF.out⟩
    · intro x ca cm cc kl yd yp w2 cnt2 hkey hlk hv hat hrg2 hlt hg2 hs2 hen
      obtain ⟨x', ex, rfl, _⟩ := Maps.keyOf_str Tryz.underlying9 hkey
      obtain rfl : x = x' := encStr_inj ex
      have hK2 := Lib.hid (hKs.out.grown hg2 (by simp))
      obtain ⟨v0, c1⟩ := hK2.out.cell (i := ss.length) (by omega)
      have f1 := hK2.out.free ss.length
      have HK3 := Lib.hid (hK2.out.snoc (by omega) x)
      have HR3 := Lib.hid (hrg2.kept (grown_set w2 (w.heap.size + 1) ss.length (encStr x)) (by simp; omega) (by simp))
      have HC3 := Lib.hid (hC.out.step hlk hat)
      have HB3 : Hid (Bld (w2.setCell ⟨w.heap.size + 1, ss.length, none⟩ (encStr x)) w.heap.size) := Lib.hid (blk_far ((hg2.block _ (by omega) (by simp)).trans hBl.out) _ _ (by omega))
      have HB4 : Hid (Below w.heap.size w (w2.setCell ⟨w.heap.size + 1, ss.length, none⟩ (encStr x))) := Lib.hid ((hb.out.grown hg2 (by omega) (fun k h => by cases h; omega)).setCell (p := ⟨w.heap.size + 1, ss.length, none⟩) (by show _ ≤ w.heap.size + 1; omega) _)
      have HL3 := Lib.hid (show (w2.setCell ⟨w.heap.size + 1, ss.length, none⟩ (encStr x)).rangeLeft b (w.heap.size + 2) < wr.rangeLeft b (w.heap.size + 2) by rw [HR3.out.left_eq, hrg.out.left_eq]; exact hlt)
      have hs3 : (w2.setCell ⟨w.heap.size + 1, ss.length, none⟩ (encStr x)).heap.size = w.heap.size + 3 := by simp; exact hs2
      simp only [encStr] at hen HK3 HR3 HB3 HB4 HL3 hs3 ⊢
      clear hkey hlk hv hat hrg2 hg2 hs2 hK2 ex
      go_wp2
      exact ⟨⟨_, cnt2, ss ++ [x], by simp, by simp; omega, HR3, HC3, HK3, HB3, HB4, hs3⟩, HL3.out⟩
/-- impl.Encode, of an own list -/
theorem iencode_any {B M : Nat} (v : Value) (qs : List TripB) (w : World) (hT : Tab w) (h : OwnP B w v qs) (hv : qs = [] → v = .slice none 0 0) (hg : Good M 2000 qs) (hM : M ≤ 10000000) :
    Calls Tryz.prog 32 #[v] w fun e w' => ∃ t : ByteArray, e = .returned (.string t) ∧ Hid (t.data.toList = encF (plainT qs)) ∧ Below w.heap.size w w' := by
  obtain ⟨l1, l2⟩ := good_len hg h
  refine iencode_of B v qs w _ h hv (by omega) (fun q hq => by have := (hg.siz q hq).1; omega) (fun b w1 hb hown => ?_)
  exact vencode_any M b qs w1 (hT.up hb hT.pos) hown hg.srt (by omega) hM (fun q hq => ⟨(strSl_of_owns (h.each q hq).2).below hb, l2 q hq, hg.siz q hq⟩) hg.tot
end Go.Proofs.YtfkgkkmcaaefnaaGreatDoor.Wk
