/-
  THE WALKS of Element, Clean, HasHost, zzFits4.
  PLAIN: a path that path.Join has cleaned; escaped bytes; user information that was written anew.
  PLAIN: what JoinPath makes of a path; escaped bytes; an authority that was written anew.
-/
import Derived.Test.YtfkgkkmcaaefnaaGreatDoorS7
import Derived.Test.YtfkgkkmcaaefnaaGreatDoorQ8
import Derived.BigQuiet
import Derived.Test.YtfkgkkmcaaefnaaGreatDoorPz
import Derived.Lib.JoinSame2
import Derived.Test.YtfkgkkmcaaefnaaGreatDoorI11
import Derived.Test.YtfkgkkmcaaefnaaGreatDoorI14
set_option linter.unusedSimpArgs false
set_option linter.unusedVariables false
namespace Go.Proofs.YtfkgkkmcaaefnaaGreatDoor.Wk
open Go.RowKit Go.Proofs.YtfkgkkmcaaefnaaGreatDoor.Pu

/-- Element, a byte -/
def elC (c : UInt8) : L := if unresN c.toNat || c.toNat == 47 then [c] else [37, upx (c.toNat / 16), upx (c.toNat % 16)]
def elemF (s : L) : L := s.flatMap elC
theorem elemF_snoc (l : L) (c : UInt8) : elemF (l ++ [c]) = elemF l ++ elC c := by unfold elemF; rw [List.flatMap_append]; simp
theorem elC_len (c : UInt8) : (elC c).length ≤ 3 := by unfold elC; split <;> simp
theorem elemF_len : ∀ l : L, (elemF l).length ≤ 3 * l.length
  | [] => Nat.le_refl _
  | c :: r => by
    have h1 := elemF_len r
    have h2 := elC_len c
    unfold elemF at *
    rw [List.flatMap_cons, List.length_append, List.length_cons]; omega

theorem app_toList (a b : ByteArray) : (a ++ b).data.toList = a.data.toList ++ b.data.toList := by
  rw [ByteArray.data_append, Array.toList_append]
theorem ext_one (s : ByteArray) (k : Nat) (h : k < s.size) : (s.extract k (k + 1)).data.toList = [s[k]] := by
  rw [ext_toList]
  have := List.drop_eq_getElem_cons (l := s.data.toList.take (k + 1)) (i := k) (by rw [List.length_take, size_len]; omega)
  rw [this, List.drop_eq_nil_of_le (by rw [List.length_take]; omega)]
  simp
  rfl
theorem hex_ext : ∀ n : Fin 16, ((⟨#[48, 49, 50, 51, 52, 53, 54, 55, 56, 57, 65, 66, 67, 68, 69, 70]⟩ : ByteArray).extract n.1 (n.1 + 1)).data.toList = [upx n.1] := by decide +kernel
theorem el_app (t : ByteArray) (a b : Nat) (ha : a < 16) (hb : b < 16) :
    (t ++ ((⟨#[37]⟩ : ByteArray) ++ (⟨#[48, 49, 50, 51, 52, 53, 54, 55, 56, 57, 65, 66, 67, 68, 69, 70]⟩ : ByteArray).extract a (a + 1) ++ (⟨#[48, 49, 50, 51, 52, 53, 54, 55, 56, 57, 65, 66, 67, 68, 69, 70]⟩ : ByteArray).extract b (b + 1))).data.toList = t.data.toList ++ [37, upx a, upx b] := by
  rw [app_toList, app_toList, app_toList, hex_ext ⟨a, ha⟩, hex_ext ⟨b, hb⟩]; rfl
set_option maxHeartbeats 2000000 in
set_option maxRecDepth 100000 in
theorem element_any (s : ByteArray) (w : World) (hs : s.size ≤ 1000000000000) :
    Calls Tryz.prog 25 #[.string s] w fun e w' => ∃ t : ByteArray, e = .returned (.string t) ∧ Hid (t.data.toList = elemF s.data.toList) ∧ t.size ≤ 3 * s.size ∧ Below w.heap.size w w' := by
  have hb0 := Below.refl w.heap.size w
  go_enter Tryz.func25, Tryz.ntmps25
  go_wp2
  go_loopw [3, 8] (fun o i wr => ∃ (k : Nat) (t : ByteArray), o = .string t ∧ i = .int .i64 k ∧ k ≤ s.size ∧ t.size ≤ 3 * k ∧ Hid (t.data.toList = elemF (s.data.toList.take k)) ∧ Below w.heap.size w wr) (fun _ i _ => s.size - (intOf i).toNat)
  case atStart => exact ⟨0, ⟨#[]⟩, rfl, rfl, by omega, by decide, Lib.hid rfl, hb0⟩
  case round =>
    obtain ⟨k, t, rfl, rfl, hk, ht, hp, hb⟩ := hrel
    by_cases hlt : k < s.size
    · obtain ⟨wo, rfl⟩ : ∃ wo : World, wo = wr := ⟨_, rfl⟩
      have hsn := Lib.hid (take_snoc s k hlt)
      have hn : s[k].toNat < 256 := s[k].toNat_lt
      go_wp2_with (go_at_call 48; refine (unres_any _ _ hn).mono ?_; rintro e w1 ⟨rfl, hb1⟩)
      · go_roundw
        case rel => exact ⟨k + 1, _, rfl, by go_num, by omega, by rw [ByteArray.size_append, ByteArray.size_extract]; omega, Lib.hid (by rw [hsn.out, elemF_snoc, app_toList, ext_one s k hlt, hp.out]; unfold elC; rw [‹unresN s[k].toNat = true›]; rfl), bt hb ‹_›⟩
        case measure => simp [intOf]; omega
      · have h47 : s[k].toNat = 47 := toNat_of_beq (n := 47) ‹_›
        go_roundw
        case rel => exact ⟨k + 1, _, rfl, by go_num, by omega, by rw [ByteArray.size_append, ByteArray.size_extract]; omega, Lib.hid (by rw [hsn.out, elemF_snoc, app_toList, ext_one s k hlt, hp.out]; unfold elC; rw [h47]; rfl), bt hb ‹_›⟩
        case measure => simp [intOf]; omega
      · have h47 : s[k].toNat ≠ 47 := by intro h; simp [h] at *
        have hu : unresN s[k].toNat = false := by simpa using ‹¬unresN s[k].toNat = true›
        have hE : Hid (elC s[k] = [37, upx (s[k].toNat / 16), upx (s[k].toNat % 16)]) := Lib.hid (by unfold elC; rw [hu, beq_eq_false_iff_ne.2 h47]; rfl)
        have hand := u8_and15 (x := (s[k].toNat : Int)) (by omega) (by omega)
        have hi1 : s[k].toNat / 16 < 16 := by omega
        have hi2 : s[k].toNat % 16 < 16 := by omega
        clear h47 hu
        go_quiet (fail)
        go_wp2
        go_roundw
        case rel =>
          have ha := el_app t _ _ hi1 hi2
          exact ⟨k + 1, _, rfl, by go_num, by omega, by rw [← size_len, ha, List.length_append, size_len]; simp; omega, Lib.hid (by rw [ha, hsn.out, elemF_snoc, hp.out, hE.out]), bdN (bt hb ‹_›) _⟩
        case measure => simp [intOf]; omega
    · have he : k = s.size := by omega
      subst he
      go_wp2
      go_ret
      exact ⟨_, rfl, Lib.hid (by rw [hp.out, ← size_len, List.take_length]), ht, hb⟩

set_option maxHeartbeats 2000000 in
set_option maxRecDepth 100000 in
theorem hasHost_any (r : RefB) (w : World) (hz : r.le 9223372036854770000) : Calls Tryz.prog 23 #[refV r] w fun e w' => e = .returned (.bool (!(authF r.au.data.toList).ho.isEmpty)) ∧ Below w.heap.size w w' := by
  have HB := Lib.hid ((Below.refl w.heap.size w).alloc (Nat.le_refl _) (.cells (refCells r) 25))
  obtain ⟨z1, z2, z3, z4, z5⟩ := hz
  go_enter Tryz.func23, Tryz.ntmps23
  go_wp2_with (fail)
  refine Calls.mono (auth_any r.au _ z2) ?_
  rintro e w1 ⟨hu, us, ho, ok, rfl, ha, _, _, hb1⟩
  have HB1 := HB.out.trans (hb1.mono HB.out.size)
  have HA := Lib.hid (show (authF r.au.data.toList).ho = ho.data.toList by rw [ha.out])
  clear ha hb1
  go_wp2
  go_ret
  refine ⟨ret_bool ?_, ?_⟩
  · rw [HA.out, toList_data]
  · go_grown
    exact HB1.size

set_option maxHeartbeats 2000000 in
set_option maxRecDepth 100000 in
theorem clean_any (s : ByteArray) (w : World) (hs : s.size ≤ 9223372036854770000) (h1 : ∀ k (a b : UInt8), s.data.toList[k]? = some a → s.data.toList[k + 1]? = some b → a = 47 → b ≠ 47) (h2 : dotsB s.data.toList = false) :
    Calls Tryz.prog 27 #[.string s] w fun e w' => e = .returned (.bool true) ∧ Below w.heap.size w w' := by
  have H1 := Lib.hid h1
  clear h1
  go_enter Tryz.func27, Tryz.ntmps27
  go_wp2
  go_loop [3] (fun i => ∃ k : Nat, i = .int .i64 k ∧ k ≤ s.size) (fun i => s.size - (intOf i).toNat)
  case atStart => exact ⟨0, rfl, by omega⟩
  case round =>
    obtain ⟨k, rfl, hk⟩ := hrel
    by_cases hlt : k + 1 < s.size
    · have hl0 : k < s.size := by omega
      by_cases e1 : s[k].toNat = 47
      · have e2 : s[k + 1].toNat ≠ 47 := by
          intro e
          exact H1.out k s[k] s[k + 1] (get_opt s k hl0) (get_opt s (k + 1) hlt) (UInt8.toNat_inj.1 e1) (UInt8.toNat_inj.1 e)
        have f1 : ((s[k].toNat : Int) == 47) = true := by rw [beq_iff_eq]; omega
        have f2 : ((s[k + 1].toNat : Int) == 47) = false := by rw [beq_eq_false_iff_ne]; omega
        clear e1 e2
        go_wp2
        exact ⟨⟨k + 1, by go_num, by omega⟩, by simp [intOf]; omega⟩
      · have f1 : ((s[k].toNat : Int) == 47) = false := by rw [beq_eq_false_iff_ne]; omega
        clear e1
        go_wp2
        exact ⟨⟨k + 1, by go_num, by omega⟩, by simp [intOf]; omega⟩
    · go_wp2_with (fail)
      refine Calls.mono (dots_any s _ (by omega)) ?_
      rintro e w1 ⟨rfl, hb1⟩
      rw [h2]
      go_wp2
      go_ret
      exact ⟨rfl, hb1⟩

set_option maxHeartbeats 2000000 in
set_option maxRecDepth 100000 in
theorem fits4_nil (ao : Option Addr) (c : Nat) (w : World)  :
    Calls Tryz.prog 22 #[.slice ao 0 c] w fun e w' => e = .returned (.bool true) ∧ w = w' := by
  go_enter Tryz.func22, Tryz.ntmps22
  go_wp2
  refine wp_loop_rounds 1 ?_; rw [rounds_succ]; go_wp2
  go_ret
  exact ⟨rfl, rfl⟩
set_option maxHeartbeats 2000000 in
set_option maxRecDepth 100000 in
theorem fits4_any (bk o c : Nat) (xs : List ByteArray) (w : World) (hn : xs.length ≤ 2147483647) (hcells : ∀ (j : Nat) x, xs[j]? = some x → w.cell? ⟨bk, o + j, none⟩ = some (.string x)) (hz : ∀ x ∈ xs, x.size ≤ 2147483647) :
    Calls Tryz.prog 22 #[.slice (some ⟨bk, o, none⟩) xs.length c] w fun e w' => e = .returned (.bool true) ∧ w = w' := by
  have HC := Lib.hid hcells
  have HZ := Lib.hid hz
  clear hcells hz
  generalize hN : xs.length = n at *
  have HN := Lib.hid hN
  clear hN
  go_enter Tryz.func22, Tryz.ntmps22
  go_wp2
  go_loop [10] (fun i => ∃ k : Nat, i = .int .i64 k ∧ k ≤ n) (fun i => n - (intOf i).toNat)
  case atStart => exact ⟨0, rfl, by omega⟩
  case round =>
    obtain ⟨k, rfl, hk⟩ := hrel
    by_cases hlt : k < n
    · obtain ⟨x, hx⟩ : ∃ x, xs[k]? = some x := ⟨_, List.getElem?_eq_getElem (by rw [HN.out]; exact hlt)⟩
      have hc := HC.out k x hx
      have hsz : ¬ (x.size : Int) > 2147483647 := by have := HZ.out x (List.mem_of_getElem? hx); omega
      clear hx
      go_wp2
      exact ⟨⟨k + 1, by go_num, by omega⟩, by simp [intOf]; omega⟩
    · go_wp2
      go_ret
      exact ⟨rfl, rfl⟩
end Go.Proofs.YtfkgkkmcaaefnaaGreatDoor.Wk
namespace Go.Proofs.YtfkgkkmcaaefnaaGreatDoor.Wk
open Go.RowKit Go.Proofs.YtfkgkkmcaaefnaaGreatDoor.Pu

theorem els_segs : ∀ l : L, Lib.Pa.els l = segs 47 l
  | [] => rfl
  | c :: t => by
    rw [Lib.Pa.els, segs, els_segs t]
    cases segs 47 t <;> rfl
theorem els_no : ∀ (l : L), ∀ x ∈ Lib.Pa.els l, (47 : UInt8) ∉ x
  | [], x, h => by
    rw [Lib.Pa.els, List.mem_singleton] at h
    rw [h]; simp
  | c :: t, x, h => by
    have ih := els_no t
    rw [Lib.Pa.els] at h
    by_cases hc : c = 47
    · rw [if_pos hc, List.mem_cons] at h
      rcases h with rfl | h
      · simp
      · exact ih x h
    · rw [if_neg hc] at h
      cases he : Lib.Pa.els t with
      | nil =>
        rw [he] at h
        simp only [List.mem_singleton] at h
        rw [h]; simp; exact fun e => hc e.symm
      | cons e r =>
        rw [he] at h
        simp only [List.mem_cons] at h
        rcases h with rfl | h
        · have := ih e (by rw [he]; simp)
          simp only [List.mem_cons, not_or]
          exact ⟨fun e2 => hc e2.symm, this⟩
        · exact ih x (by rw [he]; simp [h])
/-- an element of a cleaned path -/
def GoodE (x : L) : Prop := x ≠ [] ∧ isDot x = false ∧ (47 : UInt8) ∉ x
theorem fold_good : ∀ (es st : List L), (∀ x ∈ es, (47 : UInt8) ∉ x) → (∀ x ∈ st, GoodE x) → ∀ x ∈ es.foldl (Lib.Pa.cleanStep true) st, GoodE x ∧ (x ∈ es ∨ x ∈ st)
  | [], st, _, hs, x, hx => ⟨hs x hx, Or.inr hx⟩
  | e :: r, st, he, hs, x, hx => by
    rw [List.foldl_cons] at hx
    have key : (∀ y ∈ Lib.Pa.cleanStep true st e, GoodE y ∧ (y = e ∨ y ∈ st)) := by
      intro y hy
      unfold Lib.Pa.cleanStep at hy
      by_cases h1 : e = [] ∨ e = [46]
      · rw [if_pos h1] at hy; exact ⟨hs y hy, Or.inr hy⟩
      · rw [if_neg h1] at hy
        by_cases h2 : e = [46, 46]
        · rw [if_pos h2] at hy
          cases st with
          | nil => simp at hy
          | cons a t =>
            simp only at hy
            by_cases h3 : a = [46, 46]
            · have := (hs a (by simp)).2.1
              rw [h3] at this; exact absurd this (by decide)
            · rw [if_neg h3] at hy
              exact ⟨hs y (by simp [hy]), Or.inr (by simp [hy])⟩
        · rw [if_neg h2, List.mem_cons] at hy
          rcases hy with rfl | hy
          · refine ⟨⟨fun h => h1 (Or.inl h), ?_, he y (by simp)⟩, Or.inl rfl⟩
            unfold isDot
            rw [Bool.or_eq_false_iff, beq_eq_false_iff_ne, beq_eq_false_iff_ne]
            exact ⟨fun h => h1 (Or.inr h), h2⟩
          · exact ⟨hs y hy, Or.inr hy⟩
    obtain ⟨g1, g2⟩ := fold_good r _ (fun y hy => he y (by simp [hy])) (fun y hy => (key y hy).1) x hx
    refine ⟨g1, ?_⟩
    rcases g2 with h | h
    · exact Or.inl (by simp [h])
    · rcases (key x h).2 with h | h
      · exact Or.inl (by simp [h])
      · exact Or.inr h

abbrev J (G : List L) : L := ([47] : L).intercalate G
theorem slashed_cons (x : L) (G : List L) : slashed (x :: G) = 47 :: (x ++ slashed G) := by unfold slashed; rw [List.flatMap_cons]; rfl
theorem J_slash : ∀ (G : List L), G ≠ [] → 47 :: J G = slashed G
  | [], h => absurd rfl h
  | [x], _ => by simp [J, slashed, List.intercalate]
  | x :: y :: r, _ => by
    have := J_slash (y :: r) (by simp)
    rw [show J (x :: y :: r) = x ++ 47 :: J (y :: r) from Lib.Pa.J_cons x y r, this, slashed_cons x]
theorem J_nil : J [] = [] := rfl
theorem J_ch {more : L} (h47 : okN more 47 = true) : ∀ (G : List L), (∀ x ∈ G, charsB more true x = true) → charsB more true (J G) = true
  | [], _ => rfl
  | [x], h => by rw [show J [x] = x from Lib.Pa.J_one x]; exact h x (by simp)
  | x :: y :: r, h => by
    rw [show J (x :: y :: r) = x ++ 47 :: J (y :: r) from Lib.Pa.J_cons x y r]
    refine ch_app _ _ (h x (by simp)) ?_
    rw [ch_else _ _ _ _ (by decide), J_ch h47 (y :: r) (fun z hz => h z (by simp [hz])), Bool.and_true]
    exact h47
/-- no two slashes -/
def noSS : L → Bool
  | a :: b :: r => !(a == 47 && b == 47) && noSS (b :: r)
  | _ => true
theorem noSS_seg : ∀ (x r : L), x ≠ [] → (47 : UInt8) ∉ x → noSS r = true → noSS (x ++ r) = true
  | [], _, h, _, _ => absurd rfl h
  | [a], r, _, h, hr => by
    have ha : a ≠ 47 := fun e => h (by simp [e])
    cases r with
    | nil => rfl
    | cons b t => rw [List.singleton_append, noSS, hr, show (a == 47) = false from beq_eq_false_iff_ne.2 ha]; rfl
  | a :: b :: t, r, _, h, hr => by
    have ha : a ≠ 47 := fun e => h (by simp [e])
    have := noSS_seg (b :: t) r (by simp) (fun hm => h (by simp only [List.mem_cons] at hm ⊢; exact Or.inr hm)) hr
    rw [List.cons_append, List.cons_append, noSS, show (a == 47) = false from beq_eq_false_iff_ne.2 ha]
    rw [List.cons_append] at this
    rw [this]; rfl
theorem noSS_slashed : ∀ (G : List L) (r : L), (∀ x ∈ G, GoodE x) → noSS r = true → noSS (slashed G ++ r) = true
  | [], r, _, hr => hr
  | x :: G, r, h, hr => by
    obtain ⟨h1, h2, h3⟩ := h x (by simp)
    have ih := noSS_slashed G r (fun y hy => h y (by simp [hy])) hr
    have := noSS_seg x (slashed G ++ r) h1 h3 ih
    unfold slashed at *
    rw [List.flatMap_cons, List.append_assoc, List.cons_append]
    cases x with
    | nil => exact absurd rfl h1
    | cons a t =>
      have ha : a ≠ 47 := fun e => h3 (by simp [e])
      rw [List.cons_append] at this ⊢
      rw [noSS, this, show (a == 47) = false from beq_eq_false_iff_ne.2 ha]; simp
theorem noSS_at : ∀ (l : L), noSS l = true → ∀ (k : Nat) (a b : UInt8), l[k]? = some a → l[k + 1]? = some b → a = 47 → b ≠ 47
  | [], _, k, a, b, h, _, _ => by simp at h
  | [x], _, k, a, b, _, h, _ => by simp at h
  | x :: y :: r, h, 0, a, b, h1, h2, h3 => by
    have e1 : x = a := by simpa using h1
    have e2 : y = b := by simpa using h2
    rw [noSS, Bool.and_eq_true, Bool.not_eq_true', Bool.and_eq_false_iff] at h
    intro e
    rcases h.1 with h | h
    · rw [e1, h3] at h; exact absurd h (by decide)
    · rw [e2, e] at h; exact absurd h (by decide)
  | x :: y :: r, h, k + 1, a, b, h1, h2, h3 => by
    rw [noSS, Bool.and_eq_true] at h
    exact noSS_at (y :: r) h.2 k a b (by simpa using h1) (by simpa using h2) h3
theorem segs_slashed : ∀ (G : List L) (r : L), (∀ x ∈ G, (47 : UInt8) ∉ x) → segs 47 (slashed G ++ 47 :: r) = [] :: G ++ segs 47 r := by
  have hone : ∀ (x s : L), (47 : UInt8) ∉ x → segs 47 (x ++ 47 :: s) = x :: segs 47 s := by
    intro x s hx
    have e := els_segs (x ++ 47 :: s)
    rw [Lib.Pa.els_app, els_segs x, els_segs s] at e
    rw [← e, segs_last 47 x (by
      have := (idx_lt [47] x).1
      have hle := idx_le [47] x
      by_cases h : idx [47] x < x.length
      · exfalso
        obtain ⟨c, hc, hc2⟩ := List.any_eq_true.1 ((idx_lt [47] x).1 h)
        rw [inB_one] at hc2
        have : c = 47 := by simpa using hc2
        exact hx (by rw [← this]; exact hc)
      · omega)]
    rfl
  intro G
  induction G with
  | nil => intro r _; unfold slashed; rw [List.flatMap_nil, List.nil_append, segs, if_pos rfl]; rfl
  | cons x G ih =>
    intro r h
    have := ih r (fun y hy => h y (by simp [hy]))
    unfold slashed at *
    rw [List.flatMap_cons, List.append_assoc, List.cons_append, segs, if_pos rfl]
    cases G with
    | nil =>
      rw [List.flatMap_nil, List.nil_append, hone x r (h x (by simp))]; rfl
    | cons y G =>
      rw [List.flatMap_cons, List.append_assoc, List.cons_append] at this ⊢
      rw [hone x _ (h x (by simp))]
      rw [segs, if_pos rfl] at this
      rw [(List.cons.inj this).2]; rfl
/-- the path that JoinPath gives, as String writes it -/
inductive CleanP : L → Prop
  | nil : CleanP []
  | root : CleanP [47]
  | star : CleanP [47, 42]
  | plain (G : List L) (h : ∀ x ∈ G, GoodE x) (h0 : G ≠ []) : CleanP (slashed G)
  | slash (G : List L) (h : ∀ x ∈ G, GoodE x) : CleanP (slashed G ++ [47])
theorem clean_dots {p : L} (h : CleanP p) : dotsB p = false := by
  cases h with
  | nil => rfl
  | root => rfl
  | star => rfl
  | plain G h h0 =>
    obtain ⟨G', x, rfl⟩ := List.eq_nil_or_concat G |>.resolve_left h0
    have e : slashed (G' ++ [x]) = slashed G' ++ 47 :: x := by unfold slashed; rw [List.flatMap_append]; simp
    simp only [List.concat_eq_append] at h ⊢
    rw [e]
    unfold dotsB
    rw [segs_slashed G' x (fun y hy => (h y (by simp [hy])).2.2)]
    rw [List.any_append, List.any_cons]
    have hx := h x (by simp)
    have hl : segs 47 x = [x] := segs_last 47 x (by
      have hle := idx_le [47] x
      by_cases hh : idx [47] x < x.length
      · exfalso
        obtain ⟨c, hc, hc2⟩ := List.any_eq_true.1 ((idx_lt [47] x).1 hh)
        rw [inB_one] at hc2
        have : c = 47 := by simpa using hc2
        exact hx.2.2 (by rw [← this]; exact hc)
      · omega)
    rw [hl, List.any_cons, hx.2.1]
    have : G'.any isDot = false := by
      rw [Bool.eq_false_iff]; intro ha
      obtain ⟨y, hy, hd⟩ := List.any_eq_true.1 ha
      rw [(h y (by simp [hy])).2.1] at hd; cases hd
    rw [this]; rfl
  | slash G h =>
    unfold dotsB
    rw [segs_slashed G [] (fun y hy => (h y hy).2.2)]
    rw [List.any_append, List.any_cons]
    have : G.any isDot = false := by
      rw [Bool.eq_false_iff]; intro ha
      obtain ⟨y, hy, hd⟩ := List.any_eq_true.1 ha
      rw [(h y hy).2.1] at hd; cases hd
    rw [this]; rfl
theorem clean_ss {p : L} (h : CleanP p) : noSS p = true := by
  cases h with
  | nil => rfl
  | root => rfl
  | star => rfl
  | plain G h h0 =>
    have := noSS_slashed G [] h rfl
    rwa [List.append_nil] at this
  | slash G h => exact noSS_slashed G [47] h rfl
theorem clean_head {p : L} (h : CleanP p) : p = [] ∨ p[0]? = some 47 := by
  cases h with
  | nil => exact Or.inl rfl
  | root => exact Or.inr rfl
  | star => exact Or.inr rfl
  | plain G h h0 =>
    right
    cases G with
    | nil => exact absurd rfl h0
    | cons x G => unfold slashed; rw [List.flatMap_cons]; rfl
  | slash G h =>
    right
    cases G with
    | nil => rfl
    | cons x G => unfold slashed; rw [List.flatMap_cons]; rfl
end Go.Proofs.YtfkgkkmcaaefnaaGreatDoor.Wk
namespace Go.Proofs.YtfkgkkmcaaefnaaGreatDoor.Wk
open Go.RowKit Go.Proofs.YtfkgkkmcaaefnaaGreatDoor.Pu

theorem join_clean (p0 : L) (Es : List L) (h0 : p0 ≠ []) (h47 : p0[0]? = some 47) (hc0 : charsB [58, 64, 47] true p0 = true) (hce : ∀ e ∈ Es, charsB [58, 64, 47] true e = true) :
    ∃ G : List L, (∀ x ∈ G, GoodE x) ∧ (∀ x ∈ G, charsB [58, 64, 47] true x = true) ∧ Lib.Pa.join (p0 :: Es) = 47 :: J G := by
  have hf : (p0 :: Es).filter (· ≠ []) = p0 :: Es.filter (· ≠ []) := by
    rw [List.filter_cons, if_pos (by simpa using h0)]
  obtain ⟨m1, m2⟩ := Lib.Pa.J_head p0 (Es.filter (· ≠ [])) h0
  have hh : ((J (p0 :: Es.filter (· ≠ []))).head? == some 47) = true := by
    rw [show (J (p0 :: Es.filter (· ≠ []))).head? = p0.head? from m1]
    cases p0 with
    | nil => exact absurd rfl h0
    | cons a t => have : a = 47 := by simpa using h47
                  rw [this]; rfl
  have e : Lib.Pa.join (p0 :: Es) = 47 :: J ((Lib.Pa.els (J (p0 :: Es.filter (· ≠ [])))).foldl (Lib.Pa.cleanStep true) []).reverse := by
    unfold Lib.Pa.join
    rw [hf, if_neg (by simp), Lib.Pa.clean_eq_cleanEls, Lib.Pa.cleanEls_abs _ m2 hh]
  have hg := fold_good (Lib.Pa.els (J (p0 :: Es.filter (· ≠ [])))) [] (els_no _) (fun x hx => by cases hx)
  refine ⟨_, fun x hx => (hg x (List.mem_reverse.1 hx)).1, fun x hx => ?_, e⟩
  have := (hg x (List.mem_reverse.1 hx)).2
  rcases this with h | h
  · rw [els_segs] at h
    refine ch_segs (by decide) _ _ (Nat.le_refl _) ?_ x h
    refine J_ch (by decide) _ fun y hy => ?_
    rcases List.mem_cons.1 hy with rfl | hy
    · exact hc0
    · exact hce y ((List.mem_filter.1 hy).1)
  · cases h
/-- a path ends with a slash -/
def endsB (p : L) : Bool := decide (p.getLast? = some 47)
/-- the path that joinPath hands to setPath -/
def jPath (p : L) (Es : List L) (ls : Bool) : L :=
  let c := Lib.Pa.join ((if p = [] then [47] else p) :: Es)
  let q := if p = [] then c.drop 1 else c
  if (ls && !endsB q) = true then q ++ [47] else q
/-- as EscapedPath tells it -/
def starP (q : L) : L := if q = [37, 50, 65] then [42] else q
/-- as String writes it behind a host -/
def rootP (q : L) : L := (if q ≠ [] ∧ q[0]? ≠ some 47 then [47] else []) ++ q
theorem last_slashed (G : List L) (h : ∀ x ∈ G, GoodE x) (h0 : G ≠ []) : (slashed G).getLast? ≠ some 47 := by
  obtain ⟨G', x, rfl⟩ := List.eq_nil_or_concat G |>.resolve_left h0
  simp only [List.concat_eq_append] at h ⊢
  have e : slashed (G' ++ [x]) = slashed G' ++ 47 :: x := by unfold slashed; rw [List.flatMap_append]; simp
  obtain ⟨g1, g2, g3⟩ := h x (by simp)
  rw [e]
  obtain ⟨y, t, rfl⟩ := List.eq_nil_or_concat x |>.resolve_left g1
  simp only [List.concat_eq_append] at g3 ⊢
  intro hl
  apply g3
  rw [show slashed G' ++ 47 :: (y ++ [t]) = (slashed G' ++ 47 :: y) ++ [t] by simp, List.getLast?_append] at hl
  simp at hl
  rw [hl]; simp
theorem J_last (G : List L) (h : ∀ x ∈ G, GoodE x) (h0 : G ≠ []) : (J G).getLast? ≠ some 47 ∧ J G ≠ [] ∧ (J G)[0]? ≠ some 47 := by
  have e := J_slash G h0
  have hl := last_slashed G h h0
  rw [← e] at hl
  have hne : J G ≠ [] := by
    cases G with
    | nil => exact absurd rfl h0
    | cons x G => exact (Lib.Pa.J_head x G (h x (by simp)).1).2
  refine ⟨?_, hne, ?_⟩
  · intro hh
    apply hl
    cases hj : J G with
    | nil => exact absurd hj hne
    | cons a t => rw [hj] at hh; rw [List.getLast?_cons_cons]; exact hh
  · cases G with
    | nil => exact absurd rfl h0
    | cons x G =>
      have hh := (Lib.Pa.J_head x G (h x (by simp)).1).1
      obtain ⟨g1, g2, g3⟩ := h x (by simp)
      cases x with
      | nil => exact absurd rfl g1
      | cons a t =>
        intro h2
        have : (J ((a :: t) :: G)).head? = some 47 := by rw [List.head?_eq_getElem?]; exact h2
        rw [show (J ((a :: t) :: G)).head? = _ from hh] at this
        have : a = 47 := by simpa using this
        exact g3 (by rw [this]; simp)
theorem join_path (p : L) (Es : List L) (ls : Bool) (hp : p = [] ∨ p[0]? = some 47) (hc : charsB [58, 64, 47] true p = true) (hce : ∀ e ∈ Es, charsB [58, 64, 47] true e = true) :
    CleanP (rootP (starP (jPath p Es ls))) ∧ charsB [58, 64, 47] true (jPath p Es ls) = true := by
  obtain ⟨G, g1, g2, g3⟩ := join_clean (if p = [] then [47] else p) Es (by split <;> simp_all) (by split <;> simp_all) (by split; rfl; exact hc) hce
  have hJ := J_ch (more := [58, 64, 47]) (by decide) G g2
  have h1 : charsB [58, 64, 47] true [47] = true := by decide
  have hcs : charsB [58, 64, 47] true (47 :: J G) = true := by rw [ch_else _ _ _ _ (by decide), hJ]; rfl
  unfold jPath
  rw [g3]
  simp only [List.drop_succ_cons, List.drop_zero]
  by_cases hpe : p = []
  · simp only [if_pos hpe]
    by_cases hG : G = []
    · subst hG
      rw [J_nil]
      cases ls
      · exact ⟨CleanP.nil, rfl⟩
      · exact ⟨CleanP.root, h1⟩
    · obtain ⟨l1, l2, l3⟩ := J_last G g1 hG
      have hen : endsB (J G) = false := decide_eq_false l1
      rw [hen]
      cases ls
      · simp only [Bool.false_and, Bool.false_eq_true, if_false]
        refine ⟨?_, hJ⟩
        unfold starP
        by_cases hs : J G = [37, 50, 65]
        · rw [if_pos hs]; exact CleanP.star
        · rw [if_neg hs]
          unfold rootP
          rw [if_pos ⟨l2, l3⟩, List.singleton_append, J_slash G hG]
          exact CleanP.plain G g1 hG
      · simp only [Bool.not_false, Bool.and_self, if_true]
        refine ⟨?_, ch_app _ _ hJ h1⟩
        have hs : J G ++ [47] ≠ [37, 50, 65] := by
          intro e
          have := congrArg List.getLast? e
          simp at this
        unfold starP
        rw [if_neg hs]
        unfold rootP
        have h0 : (J G ++ [47])[0]? ≠ some 47 := by
          cases hj : J G with
          | nil => exact absurd hj l2
          | cons a t => rw [hj] at l3; simpa using l3
        rw [if_pos ⟨by simp, h0⟩, List.singleton_append, ← List.cons_append, J_slash G hG]
        exact CleanP.slash G g1
  · simp only [if_neg hpe]
    by_cases hG : G = []
    · subst hG
      rw [J_nil]
      cases ls <;> exact ⟨CleanP.root, h1⟩
    · have hen : endsB (47 :: J G) = false := by
        rw [J_slash G hG]; exact decide_eq_false (last_slashed G g1 hG)
      rw [hen]
      cases ls
      · simp only [Bool.false_and, Bool.false_eq_true, if_false]
        refine ⟨?_, hcs⟩
        have hs : (47 :: J G) ≠ [37, 50, 65] := by intro e; cases e
        unfold starP
        rw [if_neg hs]
        unfold rootP
        rw [if_neg (by rintro ⟨_, h⟩; exact h rfl), List.nil_append, J_slash G hG]
        exact CleanP.plain G g1 hG
      · simp only [Bool.not_false, Bool.and_self, if_true]
        refine ⟨?_, ch_app _ _ hcs h1⟩
        have hs : (47 :: J G ++ [47]) ≠ [37, 50, 65] := by intro e; cases e
        unfold starP
        rw [if_neg hs]
        unfold rootP
        rw [if_neg (by rintro ⟨_, h⟩; exact h rfl), List.nil_append, J_slash G hG]
        exact CleanP.slash G g1

theorem upx_hex : ∀ n : Fin 16, isHex (upx n.1) = true := by decide
theorem esc_chars {m : Nat} {more : L} (hm : m ≠ 32) (h : ∀ n, n < 256 → escN m n = false → okN more n = true ∧ n ≠ 37) : ∀ l : L, charsB more true (escF m l) = true
  | [] => rfl
  | c :: r => by
    rw [escF_cons]
    refine ch_app _ _ ?_ (esc_chars hm h r)
    have hsp : spB m c = false := by unfold spB; rw [decide_eq_false hm, Bool.and_false]
    unfold esc1
    rw [hsp]
    have hn := c.toNat_lt
    cases he : escN m c.toNat
    · obtain ⟨h1, h2⟩ := h _ hn he
      simp only [Bool.false_eq_true, if_false]
      rw [ch_else _ _ _ _ h2, h1]; rfl
    · simp only [Bool.false_eq_true, if_false, if_true]
      rw [ch_pct _ _ _ _ _ _ (by decide), upx_hex ⟨c.toNat / 16, by omega⟩, upx_hex ⟨c.toNat % 16, by omega⟩]; rfl
theorem el_chars : ∀ l : L, charsB [58, 64, 47] true (elemF l) = true
  | [] => rfl
  | c :: r => by
    have ih := el_chars r
    unfold elemF at *
    rw [List.flatMap_cons]
    refine ch_app _ _ ?_ ih
    have hn := c.toNat_lt
    unfold elC
    cases he : (unresN c.toNat || c.toNat == 47)
    · simp only [Bool.false_eq_true, if_false]
      rw [ch_pct _ _ _ _ _ _ (by decide), upx_hex ⟨c.toNat / 16, by omega⟩, upx_hex ⟨c.toNat % 16, by omega⟩]; rfl
    · simp only [if_true]
      rw [Bool.or_eq_true, beq_iff_eq] at he
      have h37 : c.toNat ≠ 37 := by
        intro e
        rw [e] at he
        rcases he with he | he
        · exact absurd he (by decide)
        · exact absurd he (by decide)
      rw [ch_else _ _ _ _ h37]
      rcases he with he | he
      · unfold okN; rw [he]; rfl
      · rw [he]; rfl
theorem esc16_ok : ∀ n, n < 256 → escN 16 n = false → (okN [58] n = true ∧ n ≠ 37) ∧ n ≠ 64 := by decide +kernel
theorem esc16_no64 : ∀ l : L, ∀ c ∈ escF 16 l, c ≠ 64
  | [], c, h => by cases h
  | a :: r, c, h => by
    rw [escF_cons, List.mem_append] at h
    rcases h with h | h
    · have hsp : spB 16 a = false := by unfold spB; simp
      have hn := a.toNat_lt
      unfold esc1 at h
      rw [hsp] at h
      cases he : escN 16 a.toNat
      · rw [he] at h
        simp only [Bool.false_eq_true, if_false, List.mem_singleton] at h
        rw [h]; intro e
        exact (esc16_ok _ hn he).2 (by rw [e]; rfl)
      · rw [he] at h
        simp only [Bool.false_eq_true, if_false, if_true, List.mem_cons, List.mem_nil_iff, or_false] at h
        have hu : ∀ n : Fin 16, upx n.1 ≠ 64 := by decide
        rcases h with rfl | rfl | rfl
        · decide
        · exact hu ⟨a.toNat / 16, by omega⟩
        · exact hu ⟨a.toNat % 16, by omega⟩
    · exact esc16_no64 r c h
/-- user information that was written anew, ahead of a host -/
theorem auth_new {ho : L} (hu ps : Bool) (un pw : ByteArray) (hh : hostF ho = true) :
    authF (uiF hu un pw ps ++ ho) = ⟨hu, (if hu = true then escF 16 un.data.toList ++ (if ps = true then 58 :: escF 16 pw.data.toList else []) else []), ho, true⟩ := by
  cases hu
  · have e : uiF false un pw ps ++ ho = ho := by unfold uiF; simp
    rw [e]
    have hno : ¬ idx [64] ho < ho.length := by
      intro h
      exact host_no64 hh _ (List.mem_of_getElem? (idx_at 64 ho h)) rfl
    have ha1 : auth1 ho = none := by unfold auth1; rw [if_neg hno]
    unfold authF; rw [ha1]; simp only [hh]; rfl
  · obtain ⟨us, hus⟩ : ∃ us, us = escF 16 un.data.toList ++ (if ps = true then 58 :: escF 16 pw.data.toList else []) := ⟨_, rfl⟩
    have e : uiF true un pw ps ++ ho = us ++ 64 :: ho := by unfold uiF; rw [if_pos rfl, hus]; simp
    rw [e, if_pos rfl, ← hus]
    have hno : ∀ c ∈ us, c ≠ 64 := by
      intro c hc
      rw [hus, List.mem_append] at hc
      rcases hc with hc | hc
      · exact esc16_no64 _ c hc
      · cases ps
        · simp at hc
        · simp only [if_true, List.mem_cons] at hc
          rcases hc with rfl | hc
          · decide
          · exact esc16_no64 _ c hc
    have hch : charsB [58] true us = true := by
      rw [hus]
      refine ch_app _ _ (esc_chars (by decide) (fun n hn he => (esc16_ok n hn he).1) _) ?_
      cases ps
      · rfl
      · rw [if_pos rfl, ch_else _ _ _ _ (by decide), esc_chars (by decide) (fun n hn he => (esc16_ok n hn he).1)]; rfl
    have hi : idx [64] (us ++ 64 :: ho) = us.length := by
      unfold idx
      rw [tw_len _ us (64 :: ho) (List.all_eq_true.2 fun c hc => by rw [inB_one]; simpa using hno c hc) (Or.inr ⟨64, ho, rfl, by rw [inB_one]; simp⟩)]
    have ha1 : auth1 (us ++ 64 :: ho) = some (us, ho) := by
      unfold auth1
      rw [hi, if_pos (by simp)]
      simp
    unfold authF
    rw [ha1]
    simp only [hch, if_true, hh]
theorem host_of {a : L} (h : (authF a).ok = true) : hostF (authF a).ho = true := by
  by_cases hat : idx [64] a < a.length
  · have ha1 : auth1 a = some (a.take (idx [64] a), a.drop (idx [64] a + 1)) := by unfold auth1; rw [if_pos hat]
    unfold authF at h ⊢
    rw [ha1] at h ⊢
    simp only at h ⊢
    by_cases hch : charsB [58] true (a.take (idx [64] a)) = true
    · rw [if_pos hch] at h ⊢; exact h
    · rw [if_neg hch] at h; cases h
  · have ha1 : auth1 a = none := by unfold auth1; rw [if_neg hat]
    unfold authF at h ⊢
    rw [ha1] at h ⊢
    exact h
end Go.Proofs.YtfkgkkmcaaefnaaGreatDoor.Wk
