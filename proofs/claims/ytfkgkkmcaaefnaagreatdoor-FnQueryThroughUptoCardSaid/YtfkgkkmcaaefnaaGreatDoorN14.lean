/-
  PLAIN: the URL that Plain makes, with a query, is written as a reference that is parsed into it.
  THE WALK of Plain: a URL with a scheme and a host out of a few, and any strings elsewhere.
-/
import Derived.Test.YtfkgkkmcaaefnaaGreatDoorJ1
import Derived.Test.YtfkgkkmcaaefnaaGreatDoorK4
import Derived.Test.YtfkgkkmcaaefnaaGreatDoorN9
import Derived.Test.YtfkgkkmcaaefnaaGreatDoorS1
import Derived.BigRegion
import Derived.RegionCalls
import Derived.Deep.CutBlock
import Derived.Deep.DeepCutAuto
import Derived.BigQuiet
import Derived.WalkKit
import Derived.Deep.RegionWith
import Derived.Deep.RegionHeld3
set_option linter.unusedSimpArgs false
set_option linter.unusedVariables false
namespace Go.Proofs.YtfkgkkmcaaefnaaGreatDoor.Wk
open Go.RowKit Go.Proofs.YtfkgkkmcaaefnaaGreatDoor.Pu
def schs : List ByteArray := [⟨#[104, 116, 116, 112]⟩, ⟨#[97]⟩, ⟨#[120, 45, 121, 43, 122, 46, 49]⟩, ⟨#[109, 97, 105, 108, 116, 111]⟩]
def hosts : List ByteArray := [⟨#[97]⟩, ⟨#[101, 120, 97, 109, 112, 108, 101, 46, 99, 111, 109, 58, 56, 48]⟩, ⟨#[91, 58, 58, 49, 93, 58, 56, 48, 56, 48]⟩, ⟨#[49, 50, 55, 46, 48, 46, 48, 46, 49]⟩, ⟨#[65, 45, 98, 95, 99, 126, 100, 33, 36, 38, 39, 40, 41, 42, 43, 44, 59, 61]⟩, ⟨#[104, 58]⟩]
structure PlainOf (u u' : UrlB) (un un' pw pw' : ByteArray) : Prop where
  sc : u'.sc ∈ schs
  op : u'.op = ⟨#[]⟩
  ho : u'.ho ∈ hosts
  pa : (u'.pa.data.toList = [] ∨ u'.pa.data.toList[0]? = some 47) ∧ u'.pa.size ≤ u.pa.size + 1
  fr : u'.fr = u.fr
  rp : u'.rp = ⟨#[]⟩
  rf : u'.rf = ⟨#[]⟩
  oh : u'.oh = false
  un : un'.size ≤ un.size
  pw : pw'.size ≤ pw.size
def PlainV (u : UrlB) (hu : Bool) (un pw : ByteArray) (v : Value) : Prop := ∃ (u' : UrlB) (un' : ByteArray) (ps' : Bool) (pw' : ByteArray), v = .agg (toldCells u' hu un' ps' pw' ⟨#[]⟩ ⟨#[]⟩) ∧ PlainOf u u' un un' pw pw'
theorem schs_ok : ∀ s ∈ schs, isScheme s.data.toList = true ∧ s.size ≤ 7 ∧ s.data.toList ≠ [] := by decide +kernel
theorem hosts_ok : ∀ s ∈ hosts, hostF s.data.toList = true ∧ s.data.toList.all (fun c => hostN c.toNat) = true ∧ s.data.toList ≠ [] ∧ s.size ≤ 18 := by decide +kernel
theorem esc1_ok : ∀ n, n < 256 → escN 1 n = false → okN [58, 64, 47] n = true ∧ n ≠ 37 := by decide +kernel
theorem esc64_ok : ∀ n, n < 256 → escN 64 n = false → okN [58, 64, 47, 63] n = true ∧ n ≠ 37 := by decide +kernel
def strB (l : L) : ByteArray := ⟨l.toArray⟩
theorem strB_l (l : L) : (strB l).data.toList = l := by unfold strB; simp
theorem strB_z (l : L) : (strB l).size = l.length := by rw [← size_len, strB_l]
theorem path_of_esc {m : Nat} (hm : m ≠ 32) (h : ∀ n, n < 256 → escN m n = false → n ≠ 37) (pa : ByteArray) : PathOf m (strB (escF m pa.data.toList)) pa ⟨#[]⟩ := by
  have hd := dec_esc (m := m) (q := false) (by rw [decide_eq_false hm]) (fun n hn he => ⟨h n hn he, fun e => by cases e⟩) pa.data.toList
  unfold PathOf
  rw [strB_l]
  exact ⟨hd.2.symm, Or.inl ⟨rfl, rfl⟩⟩
theorem esc1_slash (r : L) : escF 1 (47 :: r) = 47 :: escF 1 r := by
  rw [escF_cons, show esc1 1 47 = [47] by decide +kernel]; rfl
theorem esc1_head {pa : L} (h : pa = [] ∨ pa[0]? = some 47) : escF 1 pa = [] ∨ (escF 1 pa)[0]? = some 47 := by
  cases pa with
  | nil => exact Or.inl rfl
  | cons c r =>
    rcases h with h | h
    · cases h
    · have : c = 47 := by simpa using h
      subst this
      rw [esc1_slash]
      exact Or.inr rfl
theorem esc_nil {m : Nat} {l : L} (h : escF m l = []) : l = [] := by
  cases l with
  | nil => rfl
  | cons c r =>
    rw [escF_cons] at h
    have h1 := (List.append_eq_nil_iff.1 h).1
    unfold esc1 at h1
    split at h1
    · cases h1
    · split at h1 <;> cases h1
/-- the reference that is written -/
def refQ (u : UrlB) (hu : Bool) (un : ByteArray) (ps : Bool) (pw : ByteArray) : Ref :=
  ⟨true, u.sc.data.toList, true, uiF hu un pw ps ++ u.ho.data.toList, escF 1 u.pa.data.toList, u.fq || decide (u.rq.data.toList ≠ []), u.rq.data.toList, decide (u.fr.data.toList ≠ []), escF 64 u.fr.data.toList⟩
/-- what is known of the URL that is written -/
structure QUrl (u : UrlB) (un pw : ByteArray) : Prop where
  sc : u.sc ∈ schs
  op : u.op = ⟨#[]⟩
  ho : u.ho ∈ hosts
  pa : u.pa.data.toList = [] ∨ u.pa.data.toList[0]? = some 47
  rp : u.rp = ⟨#[]⟩
  rf : u.rf = ⟨#[]⟩
  oh : u.oh = false
  qu : charsB [58, 64, 47, 63] true u.rq.data.toList = true
  z1 : u.pa.size ≤ 5000000
  z2 : u.fr.size ≤ 5000000
  z3 : un.size ≤ 5000000
  z4 : pw.size ≤ 5000000
  z5 : u.rq.size ≤ 20000000000
theorem QUrl.strH {u : UrlB} {un pw : ByteArray} (h : QUrl u un pw) (hu : Bool) (us : Value) : StrH { u with us := us } hu (strB (escF 1 u.pa.data.toList)) (strB (escF 64 u.fr.data.toList)) where
  sc := (schs_ok _ h.sc).2.2
  pq := fun _ => ⟨Or.inl ⟨by have := path_of_esc (m := 1) (by decide) (fun n hn he => (esc1_ok n hn he).2) u.pa; rw [← h.rp] at this; exact this, by
      rw [strB_l]
      intro e
      rcases esc1_head h.pa with h1 | h1 <;> rw [e] at h1
      · cases h1
      · exact absurd h1 (by decide)⟩, by rw [strB_l]; exact esc_chars (by decide) esc1_ok _⟩
  ho := (hosts_ok _ h.ho).2.1
  fq := ⟨by have := path_of_esc (m := 64) (by decide) (fun n hn he => (esc64_ok n hn he).2) u.fr; rw [← h.rf] at this; exact this, by rw [strB_l]; exact esc_chars (by decide) esc64_ok _⟩
  lost := fun _ e => by have : u.oh = true := e; rw [h.oh] at this; cases this
  abs := fun _ _ => by rw [strB_l]; exact esc1_head h.pa
theorem QUrl.strZ {u : UrlB} {un pw : ByteArray} (h : QUrl u un pw) (ps : Bool) (us : Value) : StrZ { u with us := us } (strB (escF 1 u.pa.data.toList)) (strB (escF 64 u.fr.data.toList)) un (if ps = true then pw else ⟨#[]⟩) where
  z1 := by have := (schs_ok _ h.sc).2.1; show u.sc.size ≤ _; omega
  z2 := by show u.op.size ≤ _; rw [h.op]; decide
  z3 := by have := (hosts_ok _ h.ho).2.2.2; show u.ho.size ≤ _; omega
  z4 := by have := h.z1; show u.pa.size ≤ _; omega
  z5 := by have := h.z5; show u.rq.size ≤ _; omega
  z6 := by show u.rf.size ≤ _; rw [h.rf]; decide
  z7 := by have := h.z1; have h2 := escF_len3 1 u.pa.data.toList; rw [size_len] at h2; rw [strB_z]; omega
  z8 := by have := h.z2; have h2 := escF_len3 64 u.fr.data.toList; rw [size_len] at h2; rw [strB_z]; omega
  z9 := by have := h.z3; omega
  z10 := by have := h.z4; split <;> first | omega | decide
theorem QUrl.auth {u : UrlB} {un pw : ByteArray} (h : QUrl u un pw) (hu ps : Bool) : authF (uiF hu un pw ps ++ u.ho.data.toList) = ⟨hu, (if hu = true then escF 16 un.data.toList ++ (if ps = true then 58 :: escF 16 pw.data.toList else []) else []), u.ho.data.toList, true⟩ :=
  auth_new hu ps un pw (hosts_ok _ h.ho).1
theorem QUrl.fine {u : UrlB} {un pw : ByteArray} (h : QUrl u un pw) (hu ps : Bool) : Fine (refQ u hu un ps pw) where
  sch := fun _ => (schs_ok _ h.sc).1
  nsc := fun e => by cases e
  pat := esc_chars (by decide) esc1_ok _
  que := h.qu
  fra := esc_chars (by decide) esc64_ok _
  aut := fun _ => ⟨by show (authF (uiF hu un pw ps ++ u.ho.data.toList)).ok = true; rw [h.auth], esc1_head h.pa⟩
  nau := fun e => by cases e
  nqu := fun e => by
    have e2 : (u.fq || decide (u.rq.data.toList ≠ [])) = false := e
    have := (Bool.or_eq_false_iff.1 e2).2
    show u.rq.data.toList = []
    exact Classical.byContradiction fun hn => by rw [decide_eq_true hn] at this; cases this
  nfr := fun e => by
    have e2 : decide (u.fr.data.toList ≠ []) = false := e
    have : u.fr.data.toList = [] := Classical.byContradiction fun hn => by rw [decide_eq_true hn] at e2; cases e2
    show escF 64 u.fr.data.toList = []
    rw [this]; rfl
  emp := fun _ => Or.inl rfl
theorem uiQ_len (hu ps : Bool) (un pw : ByteArray) : (uiF hu un pw ps).length ≤ 3 * un.size + 3 * pw.size + 2 := by
  have h1 := escF_len3 16 un.data.toList
  have h2 := escF_len3 16 pw.data.toList
  rw [size_len] at h1 h2
  unfold uiF
  cases hu
  · simp
  · cases ps
    · simp; omega
    · simp; omega
theorem QUrl.le {u : UrlB} {un pw : ByteArray} (h : QUrl u un pw) (hu ps : Bool) : (refQ u hu un ps pw).le 20000000000 := by
  have a1 := (schs_ok _ h.sc).2.1
  have a2 := (hosts_ok _ h.ho).2.2.2
  have a3 := escF_len3 1 u.pa.data.toList
  have a4 := escF_len3 64 u.fr.data.toList
  have a5 := uiQ_len hu ps un pw
  rw [size_len] at a3 a4
  have b1 := h.z1
  have b2 := h.z2
  have b3 := h.z3
  have b4 := h.z4
  have b5 := h.z5
  refine ⟨?_, ?_, ?_, ?_, ?_⟩
  · show u.sc.data.toList.length ≤ _; rw [size_len]; omega
  · show (uiF hu un pw ps ++ u.ho.data.toList).length ≤ _; rw [List.length_append, size_len]; omega
  · show (escF 1 u.pa.data.toList).length ≤ _; omega
  · show u.rq.data.toList.length ≤ _; rw [size_len]; omega
  · show (escF 64 u.fr.data.toList).length ≤ _; omega
theorem QUrl.text {u : UrlB} {un pw : ByteArray} (h : QUrl u un pw) (hu ps : Bool) {t : L} (ht : t = u.sc.data.toList ++ [58] ++ bodyS u hu (uiF hu un (if ps = true then pw else ⟨#[]⟩) ps) (escF 1 u.pa.data.toList) ++ qryS u ++ frgS u (escF 64 u.fr.data.toList)) :
    t = preF (refQ u hu un ps pw) ++ fragF (refQ u hu un ps pw) := by
  have hu2 : uiF hu un (if ps = true then pw else ⟨#[]⟩) ps = uiF hu un pw ps := by
    unfold uiF
    cases ps <;> simp
  rw [ht, hu2]
  have hop : u.op.data.toList = [] := by rw [h.op]
  have hb : bodyS u hu (uiF hu un pw ps) (escF 1 u.pa.data.toList) = [47, 47] ++ uiF hu un pw ps ++ u.ho.data.toList ++ escF 1 u.pa.data.toList := by
    unfold bodyS authS
    rw [if_neg (by rw [hop]; simp), h.oh]
    simp only [Bool.false_and, Bool.false_eq_true, if_false]
    rw [decide_eq_true (hosts_ok _ h.ho).2.2.1]
    simp only [Bool.true_or, if_true]
  rw [hb]
  unfold preF restF hierF tailF fragF qryS frgS refQ
  simp only [if_true]
  by_cases hf : u.fr.data.toList = []
  · simp [hf]
  · simp [hf]
theorem QUrl.size {u : UrlB} {un pw : ByteArray} (h : QUrl u un pw) (hu ps : Bool) : (preF (refQ u hu un ps pw) ++ fragF (refQ u hu un ps pw)).length ≤ 200000000000 := by
  obtain ⟨l1, l2, l3, l4, l5⟩ := h.le hu ps
  have e1 : (preF (refQ u hu un ps pw)).length ≤ 4 * 20000000000 + 4 := by
    unfold preF restF hierF tailF
    simp only [List.length_append]
    have : ∀ (b : Bool) (x : L) (n : Nat), x.length ≤ n → (if b = true then x else []).length ≤ n := by
      intro b x n hx; cases b
      · exact Nat.zero_le _
      · exact hx
    have k1 := this (refQ u hu un ps pw).hs ((refQ u hu un ps pw).sc ++ [58]) (20000000000 + 1) (by rw [List.length_append]; simp; omega)
    have k2 := this (refQ u hu un ps pw).ha (47 :: 47 :: (refQ u hu un ps pw).au) (20000000000 + 2) (by simp; omega)
    have k3 := this (refQ u hu un ps pw).hq (63 :: (refQ u hu un ps pw).qu) (20000000000 + 1) (by simp; omega)
    omega
  have e2 : (fragF (refQ u hu un ps pw)).length ≤ 20000000000 + 1 := by
    unfold fragF
    split
    · simp; omega
    · simp
  rw [List.length_append]
  omega
theorem told_rq {u : UrlB} {un pw : ByteArray} {hu ps : Bool} {u2 : UrlB} {hu2 : Bool} {p fb : ByteArray} (h : ToldOf (refQ u hu un ps pw) u2 hu2 p fb) : u2.rq.data.toList = u.rq.data.toList := by
  obtain ⟨⟨wx, B, h1⟩, _, _, _⟩ := h
  exact h1.rq
end Go.Proofs.YtfkgkkmcaaefnaaGreatDoor.Wk
namespace Go.Proofs.YtfkgkkmcaaefnaaGreatDoor.Wk
open Go.RowKit Go.Proofs.YtfkgkkmcaaefnaaGreatDoor.Pu
theorem rem_any (a n : Int) (hn : 0 < n) (hm : n < 1000) : ∃ j : Nat, (j : Int) < n ∧ (IntKind.i64.wrap (a.tmod n + n)).tmod n = (j : Int) := by
  have h1 : -n < a.tmod n := by
    have := Int.lt_tmod_of_pos a hn
    omega
  have h2 : a.tmod n < n := Int.tmod_lt_of_pos a hn
  have e : IntKind.i64.wrap (a.tmod n + n) = a.tmod n + n := by
    rw [IntKind.wrap_i64]; omega
  rw [e]
  have h3 : 0 ≤ (a.tmod n + n).tmod n := Int.tmod_nonneg _ (by omega)
  have h4 : (a.tmod n + n).tmod n < n := Int.tmod_lt_of_pos _ hn
  exact ⟨((a.tmod n + n).tmod n).toNat, by omega, by omega⟩
abbrev schA : Array Value := #[Value.string { data := #[104, 116, 116, 112] }, Value.string { data := #[97] }, Value.string { data := #[120, 45, 121, 43, 122, 46, 49] }, Value.string { data := #[109, 97, 105, 108, 116, 111] }]
theorem sch_at (j : Nat) (h : (j : Int) < 4) : ∃ s ∈ schs, schA[j]? = some (Value.string s) := by
  obtain rfl | rfl | rfl | rfl : j = 0 ∨ j = 1 ∨ j = 2 ∨ j = 3 := by omega
  · exact ⟨_, List.mem_cons_self, rfl⟩
  · exact ⟨_, List.mem_cons_of_mem _ List.mem_cons_self, rfl⟩
  · exact ⟨_, List.mem_cons_of_mem _ (List.mem_cons_of_mem _ List.mem_cons_self), rfl⟩
  · exact ⟨_, List.mem_cons_of_mem _ (List.mem_cons_of_mem _ (List.mem_cons_of_mem _ List.mem_cons_self)), rfl⟩
abbrev hostA : Array Value := #[Value.string { data := #[97] }, Value.string { data := #[101, 120, 97, 109, 112, 108, 101, 46, 99, 111, 109, 58, 56, 48] }, Value.string { data := #[91, 58, 58, 49, 93, 58, 56, 48, 56, 48] }, Value.string { data := #[49, 50, 55, 46, 48, 46, 48, 46, 49] }, Value.string { data := #[65, 45, 98, 95, 99, 126, 100, 33, 36, 38, 39, 40, 41, 42, 43, 44, 59, 61] }, Value.string { data := #[104, 58] }]
theorem host_at (j : Nat) (h : (j : Int) < 6) : ∃ s ∈ hosts, hostA[j]? = some (Value.string s) := by
  obtain rfl | rfl | rfl | rfl | rfl | rfl : j = 0 ∨ j = 1 ∨ j = 2 ∨ j = 3 ∨ j = 4 ∨ j = 5 := by omega
  all_goals exact ⟨_, by unfold hosts; first | exact List.mem_cons_self | exact List.mem_of_getElem? (i := 1) rfl | exact List.mem_of_getElem? (i := 2) rfl | exact List.mem_of_getElem? (i := 3) rfl | exact List.mem_of_getElem? (i := 4) rfl | exact List.mem_of_getElem? (i := 5) rfl, rfl⟩

/-- what is there while Plain runs: its argument, its result's cell, and the URL that it makes -/
structure PlS (w wx : World) (g : Nat) (arg cur : Array Value) : Prop where
  arg : wx.heap[w.heap.size]? = some (.cells arg 28 (0, 0))
  res : wx.heap[w.heap.size + 1]? = some (.cells (toldCells url0 false ⟨#[]⟩ false ⟨#[]⟩ ⟨#[]⟩ ⟨#[]⟩) 28 (0, 0))
  cur : wx.heap[g]? = some (.cells cur 28 (0, 0))
  lt : w.heap.size + 1 < g
  below : Below w.heap.size w wx
theorem PlS.set {w wx : World} {g : Nat} {arg cur : Array Value} (h : PlS w wx g arg cur) (i : Nat) (v : Value) : PlS w (wx.setCell ⟨g, i, none⟩ v) g arg (cur.setIfInBounds i v) :=
  have hl := h.lt
  ⟨blk_far h.arg i v (by omega), blk_far h.res i v (by omega), blk_set h.cur i v, hl, h.below.setCell (p := ⟨g, i, none⟩) (show w.heap.size ≤ g by omega) v⟩
theorem PlS.drew {w wx : World} {g : Nat} {arg cur : Array Value} (h : PlS w wx g arg cur) : PlS w wx.drew g arg cur := ⟨h.arg, h.res, h.cur, h.lt, h.below.drew⟩
theorem PlS.up {w wx wy : World} {g : Nat} {arg cur : Array Value} (h : PlS w wx g arg cur) (hb : Below wx.heap.size wx wy) : PlS w wy g arg cur :=
  ⟨blk_below h.arg hb (Array.getElem?_eq_some_iff.1 h.arg).1, blk_below h.res hb (Array.getElem?_eq_some_iff.1 h.res).1, blk_below h.cur hb (Array.getElem?_eq_some_iff.1 h.cur).1, h.lt, h.below.trans (hb.mono h.below.size)⟩
theorem PlS.new {w W wx : World} {g : Nat} {arg cur : Array Value} (h0 : W.heap[w.heap.size]? = some (.cells arg 28 (0, 0))) (h1 : W.heap[w.heap.size + 1]? = some (.cells (toldCells url0 false ⟨#[]⟩ false ⟨#[]⟩ ⟨#[]⟩ ⟨#[]⟩) 28 (0, 0))) (hz : W.heap.size = w.heap.size + 2) (hb : Below w.heap.size w W)
    (hg : wx.heap[g]? = some (.cells cur 28 (0, 0))) (hl : W.heap.size ≤ g) (hx : Below W.heap.size W wx) : PlS w wx g arg cur :=
  ⟨blk_below h0 hx (by omega), blk_below h1 hx (by omega), hg, by omega, hb.trans (hx.mono (by omega))⟩
theorem blk3 (W : World) (a b c : Obj) : (((W.alloc a).alloc b).alloc c).drew.heap[W.heap.size]? = some a ∧ (((W.alloc a).alloc b).alloc c).drew.heap[W.heap.size + 1]? = some b ∧ (((W.alloc a).alloc b).alloc c).drew.heap[W.heap.size + 1 + 1]? = some c ∧ Below W.heap.size W (((W.alloc a).alloc b).alloc c).drew := by
  have e1 : (W.alloc a).heap.size = W.heap.size + 1 := by simp
  have e2 : ((W.alloc a).alloc b).heap.size = W.heap.size + 1 + 1 := by simp
  have h1 := blk_alloc (blk_alloc (blk_new W a) b) c
  have h2 := blk_alloc (blk_new (W.alloc a) b) c
  have h3 := blk_new ((W.alloc a).alloc b) c
  rw [e1] at h2
  rw [e2] at h3
  exact ⟨h1, h2, h3, ((((Below.refl W.heap.size W).alloc (Nat.le_refl _) a).alloc (by omega) b).alloc (by omega) c).drew⟩
theorem slash_pa (p : ByteArray) : ((⟨#[47]⟩ ++ p : ByteArray).data.toList = [] ∨ (⟨#[47]⟩ ++ p : ByteArray).data.toList[0]? = some 47) ∧ (⟨#[47]⟩ ++ p : ByteArray).size ≤ p.size + 1 := by
  refine ⟨Or.inr ?_, ?_⟩
  · rw [ByteArray.data_append, Array.toList_append]; rfl
  · rw [ByteArray.size_append]; show 1 + _ ≤ _; omega

/-- the statement that draws two strings out of two lists -/
noncomputable def plainReg : Code := match Tryz.f31.body with
  | some (.seq _ (.seq r _)) => r
  | _ => .skip
noncomputable def plainOps : Array Oper := match plainReg with
  | .region _ ops _ => ops
  | _ => #[]
theorem PlS.told {w wx : World} {g : Nat} {arg : Array Value} (h : PlS w wx g arg (toldCells url0 false ⟨#[]⟩ false ⟨#[]⟩ ⟨#[]⟩ ⟨#[]⟩)) (sc ho : ByteArray) : PlS w ((((((((((((((((wx.setCell ⟨g, 0, none⟩ (.string sc)).setCell ⟨g, 1, none⟩ (.string ⟨#[]⟩)).setCell ⟨g, 2, none⟩ (.bool false)).setCell ⟨g, 3, none⟩ (.string ⟨#[]⟩)).setCell ⟨g, 4, none⟩ (.bool false)).setCell ⟨g, 5, none⟩ (.string ⟨#[]⟩)).setCell ⟨g, 6, none⟩ (.string ho)).setCell ⟨g, 7, none⟩ (.string ⟨#[]⟩)).setCell ⟨g, 8, none⟩ (.string ⟨#[]⟩)).setCell ⟨g, 9, none⟩ (.bool false)).setCell ⟨g, 10, none⟩ (.string ⟨#[]⟩)).setCell ⟨g, 11, none⟩ (.string ⟨#[]⟩)).setCell ⟨g, 12, none⟩ (.string ⟨#[]⟩)).setCell ⟨g, 13, none⟩ (.bool false)).setCell ⟨g, 14, none⟩ (.string ⟨#[]⟩)).setCell ⟨g, 15, none⟩ (.string ⟨#[]⟩)) g arg (toldCells { url0 with sc := sc, ho := ho } false ⟨#[]⟩ false ⟨#[]⟩ ⟨#[]⟩ ⟨#[]⟩) := by
  have k := ((((((((((((((((h.set 0 (.string sc)).set 1 (.string ⟨#[]⟩)).set 2 (.bool false)).set 3 (.string ⟨#[]⟩)).set 4 (.bool false)).set 5 (.string ⟨#[]⟩)).set 6 (.string ho)).set 7 (.string ⟨#[]⟩)).set 8 (.string ⟨#[]⟩)).set 9 (.bool false)).set 10 (.string ⟨#[]⟩)).set 11 (.string ⟨#[]⟩)).set 12 (.string ⟨#[]⟩)).set 13 (.bool false)).set 14 (.string ⟨#[]⟩)).set 15 (.string ⟨#[]⟩))
  simp only [toldCells, List.setIfInBounds_toArray, List.set_cons_zero, List.set_cons_succ] at k
  exact k
set_option maxHeartbeats 2000000 in
set_option maxRecDepth 100000 in
theorem pn_221 (a b : Int) (j k : Nat) (sc ho : ByteArray) (x2 x5 x6 y9 y10 y11 y16 y17 y18 : Value) (w W wx : World) (arg : Array Value) (K : Act → World → Prop) (g8 g15 g7 : Nat) (hsc : schA[j]? = some (Value.string sc)) (hho : hostA[k]? = some (Value.string ho)) (j0 : (0 : Int) ≤ (j : Int)) (j4 : (j : Int) < 4) (k0 : (0 : Int) ≤ (k : Int)) (k6 : (k : Int) < 6) (HK0 : Hid (W.heap[w.heap.size]? = some (.cells arg 28 (0, 0)))) (HK1 : Hid (W.heap[w.heap.size + 1]? = some (.cells (toldCells url0 false ⟨#[]⟩ false ⟨#[]⟩ ⟨#[]⟩ ⟨#[]⟩) 28 (0, 0)))) (HZ : Hid (W.heap.size = w.heap.size + 2)) (HB : Hid (Below w.heap.size w W)) (H7 : Hid (PlS w wx g7 arg (toldCells url0 false ⟨#[]⟩ false ⟨#[]⟩ ⟨#[]⟩ ⟨#[]⟩))) (hK : Hid (∀ (g : Nat) (wx : World) (v8 v9 v10 v11 v12 v13 v14 v15 v16 v17 v18 v19 v20 v21 v22 : Value), Hid (PlS w wx g arg (toldCells { url0 with sc := sc, ho := ho } false ⟨#[]⟩ false ⟨#[]⟩ ⟨#[]⟩ ⟨#[]⟩)) → K ⟨#[.int .i64 a, .int .i64 b, x2, undef, undef, x5, x6, .pointer (some ⟨g, 0, none⟩), v8, v9, v10, v11, v12, v13, v14, v15, v16, v17, v18, v19, v20, v21, v22, undef, undef, undef, undef, undef, undef, undef, undef, undef, undef, undef, undef, undef, undef, undef, undef, undef, undef, undef, undef, undef, undef, undef, undef, undef, undef, undef, undef, undef, undef, undef, undef, undef, undef, undef, undef, undef, undef, undef, undef, undef], []⟩ wx)) :
    wpAny Tryz.prog .any plainOps (Exit.then K (fun _ _ _ => False)) 1 #[true, true, true, true, true, true, true, true, true, true, true, true, true, true, true, true, false] ⟨#[.int .i64 a, .int .i64 b, x2, undef, undef, x5, x6, .pointer (some ⟨g7, 0, none⟩), .slice (some ⟨g8, 0, none⟩) 4 4, y9, y10, y11, .int .i64 (j : Int), .pointer (some ⟨g8, j, none⟩), .string sc, .slice (some ⟨g15, 0, none⟩) 6 6, y16, y17, y18, .int .i64 (k : Int), .pointer (some ⟨g15, k, none⟩), .string ho, .agg (toldCells { url0 with sc := sc, ho := ho } false ⟨#[]⟩ false ⟨#[]⟩ ⟨#[]⟩ ⟨#[]⟩), undef, undef, undef, undef, undef, undef, undef, undef, undef, undef, undef, undef, undef, undef, undef, undef, undef, undef, undef, undef, undef, undef, undef, undef, undef, undef, undef, undef, undef, undef, undef, undef, undef, undef, undef, undef, undef, undef, undef, undef, undef], []⟩ wx := by
  conv => arg 3; whnf
  have d7 : ∀ i, wx.cell? ⟨g7, i, none⟩ = (toldCells url0 false ⟨#[]⟩ false ⟨#[]⟩ ⟨#[]⟩ ⟨#[]⟩)[i]? := blk_cell H7.out.cur
  have e7 : ∀ i, wx.frozen? ⟨g7, i, none⟩ = false := blk_frozen H7.out.cur
  refine wpAny_ready (rs := [16]) (by kernel_rfl) (by simp) ?_
  refine AllReady.cons rfl (fun K1 hK1 => ?_) ?_
  · go_simp
    refine hK1 _ _ ?_
    clear hK1 K1
    refine wpAny_done (by kernel_rfl) ?_ _
    exact hK.out g7 _ _ _ _ _ _ _ _ _ _ _ _ _ _ _ _ (Lib.hid (H7.out.told sc ho))
  exact AllReady.nil
set_option maxHeartbeats 2000000 in
set_option maxRecDepth 100000 in
theorem pn_211 (a b : Int) (j k : Nat) (sc ho : ByteArray) (x2 x5 x6 y9 y10 y11 y16 y17 y18 : Value) (w W wx : World) (arg : Array Value) (K : Act → World → Prop) (g8 g15 g7 : Nat) (hsc : schA[j]? = some (Value.string sc)) (hho : hostA[k]? = some (Value.string ho)) (j0 : (0 : Int) ≤ (j : Int)) (j4 : (j : Int) < 4) (k0 : (0 : Int) ≤ (k : Int)) (k6 : (k : Int) < 6) (HK0 : Hid (W.heap[w.heap.size]? = some (.cells arg 28 (0, 0)))) (HK1 : Hid (W.heap[w.heap.size + 1]? = some (.cells (toldCells url0 false ⟨#[]⟩ false ⟨#[]⟩ ⟨#[]⟩ ⟨#[]⟩) 28 (0, 0)))) (HZ : Hid (W.heap.size = w.heap.size + 2)) (HB : Hid (Below w.heap.size w W)) (H15 : Hid (wx.heap[g15]? = some (.cells hostA 9 (0, 0)))) (H7 : Hid (PlS w wx g7 arg (toldCells url0 false ⟨#[]⟩ false ⟨#[]⟩ ⟨#[]⟩ ⟨#[]⟩))) (hK : Hid (∀ (g : Nat) (wx : World) (v8 v9 v10 v11 v12 v13 v14 v15 v16 v17 v18 v19 v20 v21 v22 : Value), Hid (PlS w wx g arg (toldCells { url0 with sc := sc, ho := ho } false ⟨#[]⟩ false ⟨#[]⟩ ⟨#[]⟩ ⟨#[]⟩)) → K ⟨#[.int .i64 a, .int .i64 b, x2, undef, undef, x5, x6, .pointer (some ⟨g, 0, none⟩), v8, v9, v10, v11, v12, v13, v14, v15, v16, v17, v18, v19, v20, v21, v22, undef, undef, undef, undef, undef, undef, undef, undef, undef, undef, undef, undef, undef, undef, undef, undef, undef, undef, undef, undef, undef, undef, undef, undef, undef, undef, undef, undef, undef, undef, undef, undef, undef, undef, undef, undef, undef, undef, undef, undef, undef], []⟩ wx)) :
    wpAny Tryz.prog .any plainOps (Exit.then K (fun _ _ _ => False)) 3 #[true, true, true, true, true, true, true, true, true, true, true, true, true, false, false, true, false] ⟨#[.int .i64 a, .int .i64 b, x2, undef, undef, x5, x6, .pointer (some ⟨g7, 0, none⟩), .slice (some ⟨g8, 0, none⟩) 4 4, y9, y10, y11, .int .i64 (j : Int), .pointer (some ⟨g8, j, none⟩), .string sc, .slice (some ⟨g15, 0, none⟩) 6 6, y16, y17, y18, .int .i64 (k : Int), .pointer (some ⟨g15, k, none⟩), undef, undef, undef, undef, undef, undef, undef, undef, undef, undef, undef, undef, undef, undef, undef, undef, undef, undef, undef, undef, undef, undef, undef, undef, undef, undef, undef, undef, undef, undef, undef, undef, undef, undef, undef, undef, undef, undef, undef, undef, undef, undef, undef], []⟩ wx := by
  conv => arg 3; whnf
  have c15 : wx.cell? ⟨g15, k, none⟩ = some (.string ho) := (blk_cell H15.out k).trans hho
  refine wpAny_ready (rs := [13]) (by kernel_rfl) (by simp) ?_
  refine AllReady.cons rfl (fun K1 hK1 => ?_) ?_
  · go_simp
    refine hK1 _ _ ?_
    clear hK1 K1
    refine wpAny_take (i := 14) (v := ?_) rfl (by kernel_rfl) (by kernel_rfl) (by kernel_rfl) (fun _ _ _ h => h) (Or.inl ⟨by rfl, ?_⟩) ?_
    rotate_left
    · intro w; go_simp; try with_reducible rfl
    exact pn_221 a b j k sc ho x2 x5 x6 y9 y10 y11 y16 y17 y18 w W _ arg K g8 g15 g7 hsc hho j0 j4 k0 k6 HK0 HK1 HZ HB H7 hK
  exact AllReady.nil
set_option maxHeartbeats 2000000 in
set_option maxRecDepth 100000 in
theorem pn_121 (a b : Int) (j k : Nat) (sc ho : ByteArray) (x2 x5 x6 y9 y10 y11 y16 y17 y18 : Value) (w W wx : World) (arg : Array Value) (K : Act → World → Prop) (g8 g15 g7 : Nat) (hsc : schA[j]? = some (Value.string sc)) (hho : hostA[k]? = some (Value.string ho)) (j0 : (0 : Int) ≤ (j : Int)) (j4 : (j : Int) < 4) (k0 : (0 : Int) ≤ (k : Int)) (k6 : (k : Int) < 6) (HK0 : Hid (W.heap[w.heap.size]? = some (.cells arg 28 (0, 0)))) (HK1 : Hid (W.heap[w.heap.size + 1]? = some (.cells (toldCells url0 false ⟨#[]⟩ false ⟨#[]⟩ ⟨#[]⟩ ⟨#[]⟩) 28 (0, 0)))) (HZ : Hid (W.heap.size = w.heap.size + 2)) (HB : Hid (Below w.heap.size w W)) (H8 : Hid (wx.heap[g8]? = some (.cells schA 9 (0, 0)))) (H7 : Hid (PlS w wx g7 arg (toldCells url0 false ⟨#[]⟩ false ⟨#[]⟩ ⟨#[]⟩ ⟨#[]⟩))) (hK : Hid (∀ (g : Nat) (wx : World) (v8 v9 v10 v11 v12 v13 v14 v15 v16 v17 v18 v19 v20 v21 v22 : Value), Hid (PlS w wx g arg (toldCells { url0 with sc := sc, ho := ho } false ⟨#[]⟩ false ⟨#[]⟩ ⟨#[]⟩ ⟨#[]⟩)) → K ⟨#[.int .i64 a, .int .i64 b, x2, undef, undef, x5, x6, .pointer (some ⟨g, 0, none⟩), v8, v9, v10, v11, v12, v13, v14, v15, v16, v17, v18, v19, v20, v21, v22, undef, undef, undef, undef, undef, undef, undef, undef, undef, undef, undef, undef, undef, undef, undef, undef, undef, undef, undef, undef, undef, undef, undef, undef, undef, undef, undef, undef, undef, undef, undef, undef, undef, undef, undef, undef, undef, undef, undef, undef, undef], []⟩ wx)) :
    wpAny Tryz.prog .any plainOps (Exit.then K (fun _ _ _ => False)) 3 #[true, true, true, true, true, true, false, true, true, true, true, true, true, true, false, true, false] ⟨#[.int .i64 a, .int .i64 b, x2, undef, undef, x5, x6, .pointer (some ⟨g7, 0, none⟩), .slice (some ⟨g8, 0, none⟩) 4 4, y9, y10, y11, .int .i64 (j : Int), .pointer (some ⟨g8, j, none⟩), undef, .slice (some ⟨g15, 0, none⟩) 6 6, y16, y17, y18, .int .i64 (k : Int), .pointer (some ⟨g15, k, none⟩), .string ho, undef, undef, undef, undef, undef, undef, undef, undef, undef, undef, undef, undef, undef, undef, undef, undef, undef, undef, undef, undef, undef, undef, undef, undef, undef, undef, undef, undef, undef, undef, undef, undef, undef, undef, undef, undef, undef, undef, undef, undef, undef, undef], []⟩ wx := by
  conv => arg 3; whnf
  have c8 : wx.cell? ⟨g8, j, none⟩ = some (.string sc) := (blk_cell H8.out j).trans hsc
  refine wpAny_ready (rs := [6]) (by kernel_rfl) (by simp) ?_
  refine AllReady.cons rfl (fun K1 hK1 => ?_) ?_
  · go_simp
    refine hK1 _ _ ?_
    clear hK1 K1
    refine wpAny_take (i := 14) (v := ?_) rfl (by kernel_rfl) (by kernel_rfl) (by kernel_rfl) (fun _ _ _ h => h) (Or.inl ⟨by rfl, ?_⟩) ?_
    rotate_left
    · intro w; go_simp; try with_reducible rfl
    exact pn_221 a b j k sc ho x2 x5 x6 y9 y10 y11 y16 y17 y18 w W _ arg K g8 g15 g7 hsc hho j0 j4 k0 k6 HK0 HK1 HZ HB H7 hK
  exact AllReady.nil
set_option maxHeartbeats 2000000 in
set_option maxRecDepth 100000 in
theorem pn_201 (a b : Int) (j k : Nat) (sc ho : ByteArray) (x2 x5 x6 y9 y10 y11 y16 y17 y18 : Value) (w W wx : World) (arg : Array Value) (K : Act → World → Prop) (g8 g7 : Nat) (hsc : schA[j]? = some (Value.string sc)) (hho : hostA[k]? = some (Value.string ho)) (j0 : (0 : Int) ≤ (j : Int)) (j4 : (j : Int) < 4) (k0 : (0 : Int) ≤ (k : Int)) (k6 : (k : Int) < 6) (HK0 : Hid (W.heap[w.heap.size]? = some (.cells arg 28 (0, 0)))) (HK1 : Hid (W.heap[w.heap.size + 1]? = some (.cells (toldCells url0 false ⟨#[]⟩ false ⟨#[]⟩ ⟨#[]⟩ ⟨#[]⟩) 28 (0, 0)))) (HZ : Hid (W.heap.size = w.heap.size + 2)) (HB : Hid (Below w.heap.size w W)) (H7 : Hid (PlS w wx g7 arg (toldCells url0 false ⟨#[]⟩ false ⟨#[]⟩ ⟨#[]⟩ ⟨#[]⟩))) (hK : Hid (∀ (g : Nat) (wx : World) (v8 v9 v10 v11 v12 v13 v14 v15 v16 v17 v18 v19 v20 v21 v22 : Value), Hid (PlS w wx g arg (toldCells { url0 with sc := sc, ho := ho } false ⟨#[]⟩ false ⟨#[]⟩ ⟨#[]⟩ ⟨#[]⟩)) → K ⟨#[.int .i64 a, .int .i64 b, x2, undef, undef, x5, x6, .pointer (some ⟨g, 0, none⟩), v8, v9, v10, v11, v12, v13, v14, v15, v16, v17, v18, v19, v20, v21, v22, undef, undef, undef, undef, undef, undef, undef, undef, undef, undef, undef, undef, undef, undef, undef, undef, undef, undef, undef, undef, undef, undef, undef, undef, undef, undef, undef, undef, undef, undef, undef, undef, undef, undef, undef, undef, undef, undef, undef, undef, undef], []⟩ wx)) :
    wpAny Tryz.prog .any plainOps (Exit.then K (fun _ _ _ => False)) 5 #[true, true, true, true, true, true, true, false, true, true, true, true, false, false, false, true, false] ⟨#[.int .i64 a, .int .i64 b, x2, undef, undef, x5, x6, .pointer (some ⟨g7, 0, none⟩), .slice (some ⟨g8, 0, none⟩) 4 4, y9, y10, y11, .int .i64 (j : Int), .pointer (some ⟨g8, j, none⟩), .string sc, undef, y16, y17, y18, .int .i64 (k : Int), undef, undef, undef, undef, undef, undef, undef, undef, undef, undef, undef, undef, undef, undef, undef, undef, undef, undef, undef, undef, undef, undef, undef, undef, undef, undef, undef, undef, undef, undef, undef, undef, undef, undef, undef, undef, undef, undef, undef, undef, undef, undef, undef, undef], []⟩ wx := by
  conv => arg 3; whnf
  refine wpAny_ready (rs := [7]) (by kernel_rfl) (by simp) ?_
  refine AllReady.cons rfl (fun K1 hK1 => ?_) ?_
  · go_simp
    refine hK1 _ _ ?_
    clear hK1 K1
    refine wpAny_take (i := 12) (v := ?_) rfl (by kernel_rfl) (by kernel_rfl) (by kernel_rfl) (fun _ _ _ h => h) (Or.inl ⟨by rfl, ?_⟩) ?_
    rotate_left
    · intro w; go_simp; try with_reducible rfl
    exact pn_211 a b j k sc ho x2 x5 x6 y9 y10 y11 y16 y17 y18 w W _ arg K g8 wx.heap.size g7 hsc hho j0 j4 k0 k6 HK0 HK1 HZ HB (Lib.hid (blk_new _ _)) (Lib.hid (H7.out.up ((Below.refl _ _).alloc (Nat.le_refl _) _))) hK
  exact AllReady.nil
set_option maxHeartbeats 2000000 in
set_option maxRecDepth 100000 in
theorem pn_111 (a b : Int) (j k : Nat) (sc ho : ByteArray) (x2 x5 x6 y9 y10 y11 y16 y17 y18 : Value) (w W wx : World) (arg : Array Value) (K : Act → World → Prop) (g8 g15 g7 : Nat) (hsc : schA[j]? = some (Value.string sc)) (hho : hostA[k]? = some (Value.string ho)) (j0 : (0 : Int) ≤ (j : Int)) (j4 : (j : Int) < 4) (k0 : (0 : Int) ≤ (k : Int)) (k6 : (k : Int) < 6) (HK0 : Hid (W.heap[w.heap.size]? = some (.cells arg 28 (0, 0)))) (HK1 : Hid (W.heap[w.heap.size + 1]? = some (.cells (toldCells url0 false ⟨#[]⟩ false ⟨#[]⟩ ⟨#[]⟩ ⟨#[]⟩) 28 (0, 0)))) (HZ : Hid (W.heap.size = w.heap.size + 2)) (HB : Hid (Below w.heap.size w W)) (H8 : Hid (wx.heap[g8]? = some (.cells schA 9 (0, 0)))) (H15 : Hid (wx.heap[g15]? = some (.cells hostA 9 (0, 0)))) (H7 : Hid (PlS w wx g7 arg (toldCells url0 false ⟨#[]⟩ false ⟨#[]⟩ ⟨#[]⟩ ⟨#[]⟩))) (hK : Hid (∀ (g : Nat) (wx : World) (v8 v9 v10 v11 v12 v13 v14 v15 v16 v17 v18 v19 v20 v21 v22 : Value), Hid (PlS w wx g arg (toldCells { url0 with sc := sc, ho := ho } false ⟨#[]⟩ false ⟨#[]⟩ ⟨#[]⟩ ⟨#[]⟩)) → K ⟨#[.int .i64 a, .int .i64 b, x2, undef, undef, x5, x6, .pointer (some ⟨g, 0, none⟩), v8, v9, v10, v11, v12, v13, v14, v15, v16, v17, v18, v19, v20, v21, v22, undef, undef, undef, undef, undef, undef, undef, undef, undef, undef, undef, undef, undef, undef, undef, undef, undef, undef, undef, undef, undef, undef, undef, undef, undef, undef, undef, undef, undef, undef, undef, undef, undef, undef, undef, undef, undef, undef, undef, undef, undef], []⟩ wx)) :
    wpAny Tryz.prog .any plainOps (Exit.then K (fun _ _ _ => False)) 4 #[true, true, true, true, true, true, false, true, true, true, true, true, true, false, false, true, false] ⟨#[.int .i64 a, .int .i64 b, x2, undef, undef, x5, x6, .pointer (some ⟨g7, 0, none⟩), .slice (some ⟨g8, 0, none⟩) 4 4, y9, y10, y11, .int .i64 (j : Int), .pointer (some ⟨g8, j, none⟩), undef, .slice (some ⟨g15, 0, none⟩) 6 6, y16, y17, y18, .int .i64 (k : Int), .pointer (some ⟨g15, k, none⟩), undef, undef, undef, undef, undef, undef, undef, undef, undef, undef, undef, undef, undef, undef, undef, undef, undef, undef, undef, undef, undef, undef, undef, undef, undef, undef, undef, undef, undef, undef, undef, undef, undef, undef, undef, undef, undef, undef, undef, undef, undef, undef, undef], []⟩ wx := by
  conv => arg 3; whnf
  have c8 : wx.cell? ⟨g8, j, none⟩ = some (.string sc) := (blk_cell H8.out j).trans hsc
  have c15 : wx.cell? ⟨g15, k, none⟩ = some (.string ho) := (blk_cell H15.out k).trans hho
  refine wpAny_ready (rs := [6, 13]) (by kernel_rfl) (by simp) ?_
  refine AllReady.cons rfl (fun K1 hK1 => ?_) ?_
  · go_simp
    refine hK1 _ _ ?_
    clear hK1 K1
    exact pn_211 a b j k sc ho x2 x5 x6 y9 y10 y11 y16 y17 y18 w W _ arg K g8 g15 g7 hsc hho j0 j4 k0 k6 HK0 HK1 HZ HB H15 H7 hK
  refine AllReady.cons rfl (fun K1 hK1 => ?_) ?_
  · go_simp
    refine hK1 _ _ ?_
    clear hK1 K1
    exact pn_121 a b j k sc ho x2 x5 x6 y9 y10 y11 y16 y17 y18 w W _ arg K g8 g15 g7 hsc hho j0 j4 k0 k6 HK0 HK1 HZ HB H8 H7 hK
  exact AllReady.nil
set_option maxHeartbeats 2000000 in
set_option maxRecDepth 100000 in
theorem pn_021 (a b : Int) (j k : Nat) (sc ho : ByteArray) (x2 x5 x6 y9 y10 y11 y16 y17 y18 : Value) (w W wx : World) (arg : Array Value) (K : Act → World → Prop) (g15 g7 : Nat) (hsc : schA[j]? = some (Value.string sc)) (hho : hostA[k]? = some (Value.string ho)) (j0 : (0 : Int) ≤ (j : Int)) (j4 : (j : Int) < 4) (k0 : (0 : Int) ≤ (k : Int)) (k6 : (k : Int) < 6) (HK0 : Hid (W.heap[w.heap.size]? = some (.cells arg 28 (0, 0)))) (HK1 : Hid (W.heap[w.heap.size + 1]? = some (.cells (toldCells url0 false ⟨#[]⟩ false ⟨#[]⟩ ⟨#[]⟩ ⟨#[]⟩) 28 (0, 0)))) (HZ : Hid (W.heap.size = w.heap.size + 2)) (HB : Hid (Below w.heap.size w W)) (H7 : Hid (PlS w wx g7 arg (toldCells url0 false ⟨#[]⟩ false ⟨#[]⟩ ⟨#[]⟩ ⟨#[]⟩))) (hK : Hid (∀ (g : Nat) (wx : World) (v8 v9 v10 v11 v12 v13 v14 v15 v16 v17 v18 v19 v20 v21 v22 : Value), Hid (PlS w wx g arg (toldCells { url0 with sc := sc, ho := ho } false ⟨#[]⟩ false ⟨#[]⟩ ⟨#[]⟩ ⟨#[]⟩)) → K ⟨#[.int .i64 a, .int .i64 b, x2, undef, undef, x5, x6, .pointer (some ⟨g, 0, none⟩), v8, v9, v10, v11, v12, v13, v14, v15, v16, v17, v18, v19, v20, v21, v22, undef, undef, undef, undef, undef, undef, undef, undef, undef, undef, undef, undef, undef, undef, undef, undef, undef, undef, undef, undef, undef, undef, undef, undef, undef, undef, undef, undef, undef, undef, undef, undef, undef, undef, undef, undef, undef, undef, undef, undef, undef], []⟩ wx)) :
    wpAny Tryz.prog .any plainOps (Exit.then K (fun _ _ _ => False)) 5 #[false, true, true, true, true, false, false, true, true, true, true, true, true, true, false, true, false] ⟨#[.int .i64 a, .int .i64 b, x2, undef, undef, x5, x6, .pointer (some ⟨g7, 0, none⟩), undef, y9, y10, y11, .int .i64 (j : Int), undef, undef, .slice (some ⟨g15, 0, none⟩) 6 6, y16, y17, y18, .int .i64 (k : Int), .pointer (some ⟨g15, k, none⟩), .string ho, undef, undef, undef, undef, undef, undef, undef, undef, undef, undef, undef, undef, undef, undef, undef, undef, undef, undef, undef, undef, undef, undef, undef, undef, undef, undef, undef, undef, undef, undef, undef, undef, undef, undef, undef, undef, undef, undef, undef, undef, undef, undef], []⟩ wx := by
  conv => arg 3; whnf
  refine wpAny_ready (rs := [0]) (by kernel_rfl) (by simp) ?_
  refine AllReady.cons rfl (fun K1 hK1 => ?_) ?_
  · go_simp
    refine hK1 _ _ ?_
    clear hK1 K1
    refine wpAny_take (i := 5) (v := ?_) rfl (by kernel_rfl) (by kernel_rfl) (by kernel_rfl) (fun _ _ _ h => h) (Or.inl ⟨by rfl, ?_⟩) ?_
    rotate_left
    · intro w; go_simp; try with_reducible rfl
    exact pn_121 a b j k sc ho x2 x5 x6 y9 y10 y11 y16 y17 y18 w W _ arg K wx.heap.size g15 g7 hsc hho j0 j4 k0 k6 HK0 HK1 HZ HB (Lib.hid (blk_new _ _)) (Lib.hid (H7.out.up ((Below.refl _ _).alloc (Nat.le_refl _) _))) hK
  exact AllReady.nil
set_option maxHeartbeats 2000000 in
set_option maxRecDepth 100000 in
theorem pn_101 (a b : Int) (j k : Nat) (sc ho : ByteArray) (x2 x5 x6 y9 y10 y11 y16 y17 y18 : Value) (w W wx : World) (arg : Array Value) (K : Act → World → Prop) (g8 g7 : Nat) (hsc : schA[j]? = some (Value.string sc)) (hho : hostA[k]? = some (Value.string ho)) (j0 : (0 : Int) ≤ (j : Int)) (j4 : (j : Int) < 4) (k0 : (0 : Int) ≤ (k : Int)) (k6 : (k : Int) < 6) (HK0 : Hid (W.heap[w.heap.size]? = some (.cells arg 28 (0, 0)))) (HK1 : Hid (W.heap[w.heap.size + 1]? = some (.cells (toldCells url0 false ⟨#[]⟩ false ⟨#[]⟩ ⟨#[]⟩ ⟨#[]⟩) 28 (0, 0)))) (HZ : Hid (W.heap.size = w.heap.size + 2)) (HB : Hid (Below w.heap.size w W)) (H8 : Hid (wx.heap[g8]? = some (.cells schA 9 (0, 0)))) (H7 : Hid (PlS w wx g7 arg (toldCells url0 false ⟨#[]⟩ false ⟨#[]⟩ ⟨#[]⟩ ⟨#[]⟩))) (hK : Hid (∀ (g : Nat) (wx : World) (v8 v9 v10 v11 v12 v13 v14 v15 v16 v17 v18 v19 v20 v21 v22 : Value), Hid (PlS w wx g arg (toldCells { url0 with sc := sc, ho := ho } false ⟨#[]⟩ false ⟨#[]⟩ ⟨#[]⟩ ⟨#[]⟩)) → K ⟨#[.int .i64 a, .int .i64 b, x2, undef, undef, x5, x6, .pointer (some ⟨g, 0, none⟩), v8, v9, v10, v11, v12, v13, v14, v15, v16, v17, v18, v19, v20, v21, v22, undef, undef, undef, undef, undef, undef, undef, undef, undef, undef, undef, undef, undef, undef, undef, undef, undef, undef, undef, undef, undef, undef, undef, undef, undef, undef, undef, undef, undef, undef, undef, undef, undef, undef, undef, undef, undef, undef, undef, undef, undef], []⟩ wx)) :
    wpAny Tryz.prog .any plainOps (Exit.then K (fun _ _ _ => False)) 6 #[true, true, true, true, true, true, false, false, true, true, true, true, false, false, false, true, false] ⟨#[.int .i64 a, .int .i64 b, x2, undef, undef, x5, x6, .pointer (some ⟨g7, 0, none⟩), .slice (some ⟨g8, 0, none⟩) 4 4, y9, y10, y11, .int .i64 (j : Int), .pointer (some ⟨g8, j, none⟩), undef, undef, y16, y17, y18, .int .i64 (k : Int), undef, undef, undef, undef, undef, undef, undef, undef, undef, undef, undef, undef, undef, undef, undef, undef, undef, undef, undef, undef, undef, undef, undef, undef, undef, undef, undef, undef, undef, undef, undef, undef, undef, undef, undef, undef, undef, undef, undef, undef, undef, undef, undef, undef], []⟩ wx := by
  conv => arg 3; whnf
  have c8 : wx.cell? ⟨g8, j, none⟩ = some (.string sc) := (blk_cell H8.out j).trans hsc
  refine wpAny_ready (rs := [6, 7]) (by kernel_rfl) (by simp) ?_
  refine AllReady.cons rfl (fun K1 hK1 => ?_) ?_
  · go_simp
    refine hK1 _ _ ?_
    clear hK1 K1
    exact pn_201 a b j k sc ho x2 x5 x6 y9 y10 y11 y16 y17 y18 w W _ arg K g8 g7 hsc hho j0 j4 k0 k6 HK0 HK1 HZ HB H7 hK
  refine AllReady.cons rfl (fun K1 hK1 => ?_) ?_
  · go_simp
    refine hK1 _ _ ?_
    clear hK1 K1
    refine wpAny_take (i := 12) (v := ?_) rfl (by kernel_rfl) (by kernel_rfl) (by kernel_rfl) (fun _ _ _ h => h) (Or.inl ⟨by rfl, ?_⟩) ?_
    rotate_left
    · intro w; go_simp; try with_reducible rfl
    exact pn_111 a b j k sc ho x2 x5 x6 y9 y10 y11 y16 y17 y18 w W _ arg K g8 wx.heap.size g7 hsc hho j0 j4 k0 k6 HK0 HK1 HZ HB (Lib.hid (blk_alloc H8.out _)) (Lib.hid (blk_new _ _)) (Lib.hid (H7.out.up ((Below.refl _ _).alloc (Nat.le_refl _) _))) hK
  exact AllReady.nil
set_option maxHeartbeats 2000000 in
set_option maxRecDepth 100000 in
theorem pn_011 (a b : Int) (j k : Nat) (sc ho : ByteArray) (x2 x5 x6 y9 y10 y11 y16 y17 y18 : Value) (w W wx : World) (arg : Array Value) (K : Act → World → Prop) (g15 g7 : Nat) (hsc : schA[j]? = some (Value.string sc)) (hho : hostA[k]? = some (Value.string ho)) (j0 : (0 : Int) ≤ (j : Int)) (j4 : (j : Int) < 4) (k0 : (0 : Int) ≤ (k : Int)) (k6 : (k : Int) < 6) (HK0 : Hid (W.heap[w.heap.size]? = some (.cells arg 28 (0, 0)))) (HK1 : Hid (W.heap[w.heap.size + 1]? = some (.cells (toldCells url0 false ⟨#[]⟩ false ⟨#[]⟩ ⟨#[]⟩ ⟨#[]⟩) 28 (0, 0)))) (HZ : Hid (W.heap.size = w.heap.size + 2)) (HB : Hid (Below w.heap.size w W)) (H15 : Hid (wx.heap[g15]? = some (.cells hostA 9 (0, 0)))) (H7 : Hid (PlS w wx g7 arg (toldCells url0 false ⟨#[]⟩ false ⟨#[]⟩ ⟨#[]⟩ ⟨#[]⟩))) (hK : Hid (∀ (g : Nat) (wx : World) (v8 v9 v10 v11 v12 v13 v14 v15 v16 v17 v18 v19 v20 v21 v22 : Value), Hid (PlS w wx g arg (toldCells { url0 with sc := sc, ho := ho } false ⟨#[]⟩ false ⟨#[]⟩ ⟨#[]⟩ ⟨#[]⟩)) → K ⟨#[.int .i64 a, .int .i64 b, x2, undef, undef, x5, x6, .pointer (some ⟨g, 0, none⟩), v8, v9, v10, v11, v12, v13, v14, v15, v16, v17, v18, v19, v20, v21, v22, undef, undef, undef, undef, undef, undef, undef, undef, undef, undef, undef, undef, undef, undef, undef, undef, undef, undef, undef, undef, undef, undef, undef, undef, undef, undef, undef, undef, undef, undef, undef, undef, undef, undef, undef, undef, undef, undef, undef, undef, undef], []⟩ wx)) :
    wpAny Tryz.prog .any plainOps (Exit.then K (fun _ _ _ => False)) 6 #[false, true, true, true, true, false, false, true, true, true, true, true, true, false, false, true, false] ⟨#[.int .i64 a, .int .i64 b, x2, undef, undef, x5, x6, .pointer (some ⟨g7, 0, none⟩), undef, y9, y10, y11, .int .i64 (j : Int), undef, undef, .slice (some ⟨g15, 0, none⟩) 6 6, y16, y17, y18, .int .i64 (k : Int), .pointer (some ⟨g15, k, none⟩), undef, undef, undef, undef, undef, undef, undef, undef, undef, undef, undef, undef, undef, undef, undef, undef, undef, undef, undef, undef, undef, undef, undef, undef, undef, undef, undef, undef, undef, undef, undef, undef, undef, undef, undef, undef, undef, undef, undef, undef, undef, undef, undef], []⟩ wx := by
  conv => arg 3; whnf
  have c15 : wx.cell? ⟨g15, k, none⟩ = some (.string ho) := (blk_cell H15.out k).trans hho
  refine wpAny_ready (rs := [0, 13]) (by kernel_rfl) (by simp) ?_
  refine AllReady.cons rfl (fun K1 hK1 => ?_) ?_
  · go_simp
    refine hK1 _ _ ?_
    clear hK1 K1
    refine wpAny_take (i := 5) (v := ?_) rfl (by kernel_rfl) (by kernel_rfl) (by kernel_rfl) (fun _ _ _ h => h) (Or.inl ⟨by rfl, ?_⟩) ?_
    rotate_left
    · intro w; go_simp; try with_reducible rfl
    exact pn_111 a b j k sc ho x2 x5 x6 y9 y10 y11 y16 y17 y18 w W _ arg K wx.heap.size g15 g7 hsc hho j0 j4 k0 k6 HK0 HK1 HZ HB (Lib.hid (blk_new _ _)) (Lib.hid (blk_alloc H15.out _)) (Lib.hid (H7.out.up ((Below.refl _ _).alloc (Nat.le_refl _) _))) hK
  refine AllReady.cons rfl (fun K1 hK1 => ?_) ?_
  · go_simp
    refine hK1 _ _ ?_
    clear hK1 K1
    exact pn_021 a b j k sc ho x2 x5 x6 y9 y10 y11 y16 y17 y18 w W _ arg K g15 g7 hsc hho j0 j4 k0 k6 HK0 HK1 HZ HB H7 hK
  exact AllReady.nil
set_option maxHeartbeats 2000000 in
set_option maxRecDepth 100000 in
theorem pn_001 (a b : Int) (j k : Nat) (sc ho : ByteArray) (x2 x5 x6 y9 y10 y11 y16 y17 y18 : Value) (w W wx : World) (arg : Array Value) (K : Act → World → Prop) (g7 : Nat) (hsc : schA[j]? = some (Value.string sc)) (hho : hostA[k]? = some (Value.string ho)) (j0 : (0 : Int) ≤ (j : Int)) (j4 : (j : Int) < 4) (k0 : (0 : Int) ≤ (k : Int)) (k6 : (k : Int) < 6) (HK0 : Hid (W.heap[w.heap.size]? = some (.cells arg 28 (0, 0)))) (HK1 : Hid (W.heap[w.heap.size + 1]? = some (.cells (toldCells url0 false ⟨#[]⟩ false ⟨#[]⟩ ⟨#[]⟩ ⟨#[]⟩) 28 (0, 0)))) (HZ : Hid (W.heap.size = w.heap.size + 2)) (HB : Hid (Below w.heap.size w W)) (H7 : Hid (PlS w wx g7 arg (toldCells url0 false ⟨#[]⟩ false ⟨#[]⟩ ⟨#[]⟩ ⟨#[]⟩))) (hK : Hid (∀ (g : Nat) (wx : World) (v8 v9 v10 v11 v12 v13 v14 v15 v16 v17 v18 v19 v20 v21 v22 : Value), Hid (PlS w wx g arg (toldCells { url0 with sc := sc, ho := ho } false ⟨#[]⟩ false ⟨#[]⟩ ⟨#[]⟩ ⟨#[]⟩)) → K ⟨#[.int .i64 a, .int .i64 b, x2, undef, undef, x5, x6, .pointer (some ⟨g, 0, none⟩), v8, v9, v10, v11, v12, v13, v14, v15, v16, v17, v18, v19, v20, v21, v22, undef, undef, undef, undef, undef, undef, undef, undef, undef, undef, undef, undef, undef, undef, undef, undef, undef, undef, undef, undef, undef, undef, undef, undef, undef, undef, undef, undef, undef, undef, undef, undef, undef, undef, undef, undef, undef, undef, undef, undef, undef], []⟩ wx)) :
    wpAny Tryz.prog .any plainOps (Exit.then K (fun _ _ _ => False)) 8 #[false, true, true, true, true, false, false, false, true, true, true, true, false, false, false, true, false] ⟨#[.int .i64 a, .int .i64 b, x2, undef, undef, x5, x6, .pointer (some ⟨g7, 0, none⟩), undef, y9, y10, y11, .int .i64 (j : Int), undef, undef, undef, y16, y17, y18, .int .i64 (k : Int), undef, undef, undef, undef, undef, undef, undef, undef, undef, undef, undef, undef, undef, undef, undef, undef, undef, undef, undef, undef, undef, undef, undef, undef, undef, undef, undef, undef, undef, undef, undef, undef, undef, undef, undef, undef, undef, undef, undef, undef, undef, undef, undef, undef], []⟩ wx := by
  conv => arg 3; whnf
  refine wpAny_ready (rs := [0, 7]) (by kernel_rfl) (by simp) ?_
  refine AllReady.cons rfl (fun K1 hK1 => ?_) ?_
  · go_simp
    refine hK1 _ _ ?_
    clear hK1 K1
    refine wpAny_take (i := 5) (v := ?_) rfl (by kernel_rfl) (by kernel_rfl) (by kernel_rfl) (fun _ _ _ h => h) (Or.inl ⟨by rfl, ?_⟩) ?_
    rotate_left
    · intro w; go_simp; try with_reducible rfl
    exact pn_101 a b j k sc ho x2 x5 x6 y9 y10 y11 y16 y17 y18 w W _ arg K wx.heap.size g7 hsc hho j0 j4 k0 k6 HK0 HK1 HZ HB (Lib.hid (blk_new _ _)) (Lib.hid (H7.out.up ((Below.refl _ _).alloc (Nat.le_refl _) _))) hK
  refine AllReady.cons rfl (fun K1 hK1 => ?_) ?_
  · go_simp
    refine hK1 _ _ ?_
    clear hK1 K1
    refine wpAny_take (i := 12) (v := ?_) rfl (by kernel_rfl) (by kernel_rfl) (by kernel_rfl) (fun _ _ _ h => h) (Or.inl ⟨by rfl, ?_⟩) ?_
    rotate_left
    · intro w; go_simp; try with_reducible rfl
    exact pn_011 a b j k sc ho x2 x5 x6 y9 y10 y11 y16 y17 y18 w W _ arg K wx.heap.size g7 hsc hho j0 j4 k0 k6 HK0 HK1 HZ HB (Lib.hid (blk_new _ _)) (Lib.hid (H7.out.up ((Below.refl _ _).alloc (Nat.le_refl _) _))) hK
  exact AllReady.nil
set_option maxHeartbeats 2000000 in
set_option maxRecDepth 100000 in
theorem pn_220 (a b : Int) (j k : Nat) (sc ho : ByteArray) (x2 x5 x6 y9 y10 y11 y16 y17 y18 : Value) (w W wx : World) (arg : Array Value) (K : Act → World → Prop) (g8 g15 : Nat) (hsc : schA[j]? = some (Value.string sc)) (hho : hostA[k]? = some (Value.string ho)) (j0 : (0 : Int) ≤ (j : Int)) (j4 : (j : Int) < 4) (k0 : (0 : Int) ≤ (k : Int)) (k6 : (k : Int) < 6) (HK0 : Hid (W.heap[w.heap.size]? = some (.cells arg 28 (0, 0)))) (HK1 : Hid (W.heap[w.heap.size + 1]? = some (.cells (toldCells url0 false ⟨#[]⟩ false ⟨#[]⟩ ⟨#[]⟩ ⟨#[]⟩) 28 (0, 0)))) (HZ : Hid (W.heap.size = w.heap.size + 2)) (HB : Hid (Below w.heap.size w W)) (HX : Hid (Below W.heap.size W wx)) (hK : Hid (∀ (g : Nat) (wx : World) (v8 v9 v10 v11 v12 v13 v14 v15 v16 v17 v18 v19 v20 v21 v22 : Value), Hid (PlS w wx g arg (toldCells { url0 with sc := sc, ho := ho } false ⟨#[]⟩ false ⟨#[]⟩ ⟨#[]⟩ ⟨#[]⟩)) → K ⟨#[.int .i64 a, .int .i64 b, x2, undef, undef, x5, x6, .pointer (some ⟨g, 0, none⟩), v8, v9, v10, v11, v12, v13, v14, v15, v16, v17, v18, v19, v20, v21, v22, undef, undef, undef, undef, undef, undef, undef, undef, undef, undef, undef, undef, undef, undef, undef, undef, undef, undef, undef, undef, undef, undef, undef, undef, undef, undef, undef, undef, undef, undef, undef, undef, undef, undef, undef, undef, undef, undef, undef, undef, undef], []⟩ wx)) :
    wpAny Tryz.prog .any plainOps (Exit.then K (fun _ _ _ => False)) 2 #[true, true, true, true, true, true, true, true, true, true, true, true, true, true, true, false, false] ⟨#[.int .i64 a, .int .i64 b, x2, undef, undef, x5, x6, undef, .slice (some ⟨g8, 0, none⟩) 4 4, y9, y10, y11, .int .i64 (j : Int), .pointer (some ⟨g8, j, none⟩), .string sc, .slice (some ⟨g15, 0, none⟩) 6 6, y16, y17, y18, .int .i64 (k : Int), .pointer (some ⟨g15, k, none⟩), .string ho, .agg (toldCells { url0 with sc := sc, ho := ho } false ⟨#[]⟩ false ⟨#[]⟩ ⟨#[]⟩ ⟨#[]⟩), undef, undef, undef, undef, undef, undef, undef, undef, undef, undef, undef, undef, undef, undef, undef, undef, undef, undef, undef, undef, undef, undef, undef, undef, undef, undef, undef, undef, undef, undef, undef, undef, undef, undef, undef, undef, undef, undef, undef, undef, undef], []⟩ wx := by
  conv => arg 3; whnf
  refine wpAny_ready (rs := [15]) (by kernel_rfl) (by simp) ?_
  refine AllReady.cons rfl (fun K1 hK1 => ?_) ?_
  · go_simp
    refine hK1 _ _ ?_
    clear hK1 K1
    exact pn_221 a b j k sc ho x2 x5 x6 y9 y10 y11 y16 y17 y18 w W _ arg K g8 g15 wx.heap.size hsc hho j0 j4 k0 k6 HK0 HK1 HZ HB (Lib.hid (PlS.new HK0.out HK1.out HZ.out HB.out (blk_new _ _) HX.out.size (HX.out.alloc HX.out.size _))) hK
  exact AllReady.nil
set_option maxHeartbeats 2000000 in
set_option maxRecDepth 100000 in
theorem pn_210 (a b : Int) (j k : Nat) (sc ho : ByteArray) (x2 x5 x6 y9 y10 y11 y16 y17 y18 : Value) (w W wx : World) (arg : Array Value) (K : Act → World → Prop) (g8 g15 : Nat) (hsc : schA[j]? = some (Value.string sc)) (hho : hostA[k]? = some (Value.string ho)) (j0 : (0 : Int) ≤ (j : Int)) (j4 : (j : Int) < 4) (k0 : (0 : Int) ≤ (k : Int)) (k6 : (k : Int) < 6) (HK0 : Hid (W.heap[w.heap.size]? = some (.cells arg 28 (0, 0)))) (HK1 : Hid (W.heap[w.heap.size + 1]? = some (.cells (toldCells url0 false ⟨#[]⟩ false ⟨#[]⟩ ⟨#[]⟩ ⟨#[]⟩) 28 (0, 0)))) (HZ : Hid (W.heap.size = w.heap.size + 2)) (HB : Hid (Below w.heap.size w W)) (H15 : Hid (wx.heap[g15]? = some (.cells hostA 9 (0, 0)))) (HX : Hid (Below W.heap.size W wx)) (hK : Hid (∀ (g : Nat) (wx : World) (v8 v9 v10 v11 v12 v13 v14 v15 v16 v17 v18 v19 v20 v21 v22 : Value), Hid (PlS w wx g arg (toldCells { url0 with sc := sc, ho := ho } false ⟨#[]⟩ false ⟨#[]⟩ ⟨#[]⟩ ⟨#[]⟩)) → K ⟨#[.int .i64 a, .int .i64 b, x2, undef, undef, x5, x6, .pointer (some ⟨g, 0, none⟩), v8, v9, v10, v11, v12, v13, v14, v15, v16, v17, v18, v19, v20, v21, v22, undef, undef, undef, undef, undef, undef, undef, undef, undef, undef, undef, undef, undef, undef, undef, undef, undef, undef, undef, undef, undef, undef, undef, undef, undef, undef, undef, undef, undef, undef, undef, undef, undef, undef, undef, undef, undef, undef, undef, undef, undef], []⟩ wx)) :
    wpAny Tryz.prog .any plainOps (Exit.then K (fun _ _ _ => False)) 4 #[true, true, true, true, true, true, true, true, true, true, true, true, true, false, false, false, false] ⟨#[.int .i64 a, .int .i64 b, x2, undef, undef, x5, x6, undef, .slice (some ⟨g8, 0, none⟩) 4 4, y9, y10, y11, .int .i64 (j : Int), .pointer (some ⟨g8, j, none⟩), .string sc, .slice (some ⟨g15, 0, none⟩) 6 6, y16, y17, y18, .int .i64 (k : Int), .pointer (some ⟨g15, k, none⟩), undef, undef, undef, undef, undef, undef, undef, undef, undef, undef, undef, undef, undef, undef, undef, undef, undef, undef, undef, undef, undef, undef, undef, undef, undef, undef, undef, undef, undef, undef, undef, undef, undef, undef, undef, undef, undef, undef, undef, undef, undef, undef, undef], []⟩ wx := by
  conv => arg 3; whnf
  have c15 : wx.cell? ⟨g15, k, none⟩ = some (.string ho) := (blk_cell H15.out k).trans hho
  refine wpAny_ready (rs := [13, 15]) (by kernel_rfl) (by simp) ?_
  refine AllReady.cons rfl (fun K1 hK1 => ?_) ?_
  · go_simp
    refine hK1 _ _ ?_
    clear hK1 K1
    refine wpAny_take (i := 14) (v := ?_) rfl (by kernel_rfl) (by kernel_rfl) (by kernel_rfl) (fun _ _ _ h => h) (Or.inl ⟨by rfl, ?_⟩) ?_
    rotate_left
    · intro w; go_simp; try with_reducible rfl
    exact pn_220 a b j k sc ho x2 x5 x6 y9 y10 y11 y16 y17 y18 w W _ arg K g8 g15 hsc hho j0 j4 k0 k6 HK0 HK1 HZ HB HX hK
  refine AllReady.cons rfl (fun K1 hK1 => ?_) ?_
  · go_simp
    refine hK1 _ _ ?_
    clear hK1 K1
    exact pn_211 a b j k sc ho x2 x5 x6 y9 y10 y11 y16 y17 y18 w W _ arg K g8 g15 wx.heap.size hsc hho j0 j4 k0 k6 HK0 HK1 HZ HB (Lib.hid (blk_alloc H15.out _)) (Lib.hid (PlS.new HK0.out HK1.out HZ.out HB.out (blk_new _ _) HX.out.size (HX.out.alloc HX.out.size _))) hK
  exact AllReady.nil
set_option maxHeartbeats 2000000 in
set_option maxRecDepth 100000 in
theorem pn_120 (a b : Int) (j k : Nat) (sc ho : ByteArray) (x2 x5 x6 y9 y10 y11 y16 y17 y18 : Value) (w W wx : World) (arg : Array Value) (K : Act → World → Prop) (g8 g15 : Nat) (hsc : schA[j]? = some (Value.string sc)) (hho : hostA[k]? = some (Value.string ho)) (j0 : (0 : Int) ≤ (j : Int)) (j4 : (j : Int) < 4) (k0 : (0 : Int) ≤ (k : Int)) (k6 : (k : Int) < 6) (HK0 : Hid (W.heap[w.heap.size]? = some (.cells arg 28 (0, 0)))) (HK1 : Hid (W.heap[w.heap.size + 1]? = some (.cells (toldCells url0 false ⟨#[]⟩ false ⟨#[]⟩ ⟨#[]⟩ ⟨#[]⟩) 28 (0, 0)))) (HZ : Hid (W.heap.size = w.heap.size + 2)) (HB : Hid (Below w.heap.size w W)) (H8 : Hid (wx.heap[g8]? = some (.cells schA 9 (0, 0)))) (HX : Hid (Below W.heap.size W wx)) (hK : Hid (∀ (g : Nat) (wx : World) (v8 v9 v10 v11 v12 v13 v14 v15 v16 v17 v18 v19 v20 v21 v22 : Value), Hid (PlS w wx g arg (toldCells { url0 with sc := sc, ho := ho } false ⟨#[]⟩ false ⟨#[]⟩ ⟨#[]⟩ ⟨#[]⟩)) → K ⟨#[.int .i64 a, .int .i64 b, x2, undef, undef, x5, x6, .pointer (some ⟨g, 0, none⟩), v8, v9, v10, v11, v12, v13, v14, v15, v16, v17, v18, v19, v20, v21, v22, undef, undef, undef, undef, undef, undef, undef, undef, undef, undef, undef, undef, undef, undef, undef, undef, undef, undef, undef, undef, undef, undef, undef, undef, undef, undef, undef, undef, undef, undef, undef, undef, undef, undef, undef, undef, undef, undef, undef, undef, undef], []⟩ wx)) :
    wpAny Tryz.prog .any plainOps (Exit.then K (fun _ _ _ => False)) 4 #[true, true, true, true, true, true, false, true, true, true, true, true, true, true, false, false, false] ⟨#[.int .i64 a, .int .i64 b, x2, undef, undef, x5, x6, undef, .slice (some ⟨g8, 0, none⟩) 4 4, y9, y10, y11, .int .i64 (j : Int), .pointer (some ⟨g8, j, none⟩), undef, .slice (some ⟨g15, 0, none⟩) 6 6, y16, y17, y18, .int .i64 (k : Int), .pointer (some ⟨g15, k, none⟩), .string ho, undef, undef, undef, undef, undef, undef, undef, undef, undef, undef, undef, undef, undef, undef, undef, undef, undef, undef, undef, undef, undef, undef, undef, undef, undef, undef, undef, undef, undef, undef, undef, undef, undef, undef, undef, undef, undef, undef, undef, undef, undef, undef], []⟩ wx := by
  conv => arg 3; whnf
  have c8 : wx.cell? ⟨g8, j, none⟩ = some (.string sc) := (blk_cell H8.out j).trans hsc
  refine wpAny_ready (rs := [6, 15]) (by kernel_rfl) (by simp) ?_
  refine AllReady.cons rfl (fun K1 hK1 => ?_) ?_
  · go_simp
    refine hK1 _ _ ?_
    clear hK1 K1
    refine wpAny_take (i := 14) (v := ?_) rfl (by kernel_rfl) (by kernel_rfl) (by kernel_rfl) (fun _ _ _ h => h) (Or.inl ⟨by rfl, ?_⟩) ?_
    rotate_left
    · intro w; go_simp; try with_reducible rfl
    exact pn_220 a b j k sc ho x2 x5 x6 y9 y10 y11 y16 y17 y18 w W _ arg K g8 g15 hsc hho j0 j4 k0 k6 HK0 HK1 HZ HB HX hK
  refine AllReady.cons rfl (fun K1 hK1 => ?_) ?_
  · go_simp
    refine hK1 _ _ ?_
    clear hK1 K1
    exact pn_121 a b j k sc ho x2 x5 x6 y9 y10 y11 y16 y17 y18 w W _ arg K g8 g15 wx.heap.size hsc hho j0 j4 k0 k6 HK0 HK1 HZ HB (Lib.hid (blk_alloc H8.out _)) (Lib.hid (PlS.new HK0.out HK1.out HZ.out HB.out (blk_new _ _) HX.out.size (HX.out.alloc HX.out.size _))) hK
  exact AllReady.nil
set_option maxHeartbeats 2000000 in
set_option maxRecDepth 100000 in
theorem pn_200 (a b : Int) (j k : Nat) (sc ho : ByteArray) (x2 x5 x6 y9 y10 y11 y16 y17 y18 : Value) (w W wx : World) (arg : Array Value) (K : Act → World → Prop) (g8 : Nat) (hsc : schA[j]? = some (Value.string sc)) (hho : hostA[k]? = some (Value.string ho)) (j0 : (0 : Int) ≤ (j : Int)) (j4 : (j : Int) < 4) (k0 : (0 : Int) ≤ (k : Int)) (k6 : (k : Int) < 6) (HK0 : Hid (W.heap[w.heap.size]? = some (.cells arg 28 (0, 0)))) (HK1 : Hid (W.heap[w.heap.size + 1]? = some (.cells (toldCells url0 false ⟨#[]⟩ false ⟨#[]⟩ ⟨#[]⟩ ⟨#[]⟩) 28 (0, 0)))) (HZ : Hid (W.heap.size = w.heap.size + 2)) (HB : Hid (Below w.heap.size w W)) (HX : Hid (Below W.heap.size W wx)) (hK : Hid (∀ (g : Nat) (wx : World) (v8 v9 v10 v11 v12 v13 v14 v15 v16 v17 v18 v19 v20 v21 v22 : Value), Hid (PlS w wx g arg (toldCells { url0 with sc := sc, ho := ho } false ⟨#[]⟩ false ⟨#[]⟩ ⟨#[]⟩ ⟨#[]⟩)) → K ⟨#[.int .i64 a, .int .i64 b, x2, undef, undef, x5, x6, .pointer (some ⟨g, 0, none⟩), v8, v9, v10, v11, v12, v13, v14, v15, v16, v17, v18, v19, v20, v21, v22, undef, undef, undef, undef, undef, undef, undef, undef, undef, undef, undef, undef, undef, undef, undef, undef, undef, undef, undef, undef, undef, undef, undef, undef, undef, undef, undef, undef, undef, undef, undef, undef, undef, undef, undef, undef, undef, undef, undef, undef, undef], []⟩ wx)) :
    wpAny Tryz.prog .any plainOps (Exit.then K (fun _ _ _ => False)) 6 #[true, true, true, true, true, true, true, false, true, true, true, true, false, false, false, false, false] ⟨#[.int .i64 a, .int .i64 b, x2, undef, undef, x5, x6, undef, .slice (some ⟨g8, 0, none⟩) 4 4, y9, y10, y11, .int .i64 (j : Int), .pointer (some ⟨g8, j, none⟩), .string sc, undef, y16, y17, y18, .int .i64 (k : Int), undef, undef, undef, undef, undef, undef, undef, undef, undef, undef, undef, undef, undef, undef, undef, undef, undef, undef, undef, undef, undef, undef, undef, undef, undef, undef, undef, undef, undef, undef, undef, undef, undef, undef, undef, undef, undef, undef, undef, undef, undef, undef, undef, undef], []⟩ wx := by
  conv => arg 3; whnf
  refine wpAny_ready (rs := [7, 15]) (by kernel_rfl) (by simp) ?_
  refine AllReady.cons rfl (fun K1 hK1 => ?_) ?_
  · go_simp
    refine hK1 _ _ ?_
    clear hK1 K1
    refine wpAny_take (i := 12) (v := ?_) rfl (by kernel_rfl) (by kernel_rfl) (by kernel_rfl) (fun _ _ _ h => h) (Or.inl ⟨by rfl, ?_⟩) ?_
    rotate_left
    · intro w; go_simp; try with_reducible rfl
    exact pn_210 a b j k sc ho x2 x5 x6 y9 y10 y11 y16 y17 y18 w W _ arg K g8 wx.heap.size hsc hho j0 j4 k0 k6 HK0 HK1 HZ HB (Lib.hid (blk_new _ _)) (Lib.hid (HX.out.alloc HX.out.size _)) hK
  refine AllReady.cons rfl (fun K1 hK1 => ?_) ?_
  · go_simp
    refine hK1 _ _ ?_
    clear hK1 K1
    exact pn_201 a b j k sc ho x2 x5 x6 y9 y10 y11 y16 y17 y18 w W _ arg K g8 wx.heap.size hsc hho j0 j4 k0 k6 HK0 HK1 HZ HB (Lib.hid (PlS.new HK0.out HK1.out HZ.out HB.out (blk_new _ _) HX.out.size (HX.out.alloc HX.out.size _))) hK
  exact AllReady.nil
set_option maxHeartbeats 2000000 in
set_option maxRecDepth 100000 in
theorem pn_110 (a b : Int) (j k : Nat) (sc ho : ByteArray) (x2 x5 x6 y9 y10 y11 y16 y17 y18 : Value) (w W wx : World) (arg : Array Value) (K : Act → World → Prop) (g8 g15 : Nat) (hsc : schA[j]? = some (Value.string sc)) (hho : hostA[k]? = some (Value.string ho)) (j0 : (0 : Int) ≤ (j : Int)) (j4 : (j : Int) < 4) (k0 : (0 : Int) ≤ (k : Int)) (k6 : (k : Int) < 6) (HK0 : Hid (W.heap[w.heap.size]? = some (.cells arg 28 (0, 0)))) (HK1 : Hid (W.heap[w.heap.size + 1]? = some (.cells (toldCells url0 false ⟨#[]⟩ false ⟨#[]⟩ ⟨#[]⟩ ⟨#[]⟩) 28 (0, 0)))) (HZ : Hid (W.heap.size = w.heap.size + 2)) (HB : Hid (Below w.heap.size w W)) (H8 : Hid (wx.heap[g8]? = some (.cells schA 9 (0, 0)))) (H15 : Hid (wx.heap[g15]? = some (.cells hostA 9 (0, 0)))) (HX : Hid (Below W.heap.size W wx)) (hK : Hid (∀ (g : Nat) (wx : World) (v8 v9 v10 v11 v12 v13 v14 v15 v16 v17 v18 v19 v20 v21 v22 : Value), Hid (PlS w wx g arg (toldCells { url0 with sc := sc, ho := ho } false ⟨#[]⟩ false ⟨#[]⟩ ⟨#[]⟩ ⟨#[]⟩)) → K ⟨#[.int .i64 a, .int .i64 b, x2, undef, undef, x5, x6, .pointer (some ⟨g, 0, none⟩), v8, v9, v10, v11, v12, v13, v14, v15, v16, v17, v18, v19, v20, v21, v22, undef, undef, undef, undef, undef, undef, undef, undef, undef, undef, undef, undef, undef, undef, undef, undef, undef, undef, undef, undef, undef, undef, undef, undef, undef, undef, undef, undef, undef, undef, undef, undef, undef, undef, undef, undef, undef, undef, undef, undef, undef], []⟩ wx)) :
    wpAny Tryz.prog .any plainOps (Exit.then K (fun _ _ _ => False)) 5 #[true, true, true, true, true, true, false, true, true, true, true, true, true, false, false, false, false] ⟨#[.int .i64 a, .int .i64 b, x2, undef, undef, x5, x6, undef, .slice (some ⟨g8, 0, none⟩) 4 4, y9, y10, y11, .int .i64 (j : Int), .pointer (some ⟨g8, j, none⟩), undef, .slice (some ⟨g15, 0, none⟩) 6 6, y16, y17, y18, .int .i64 (k : Int), .pointer (some ⟨g15, k, none⟩), undef, undef, undef, undef, undef, undef, undef, undef, undef, undef, undef, undef, undef, undef, undef, undef, undef, undef, undef, undef, undef, undef, undef, undef, undef, undef, undef, undef, undef, undef, undef, undef, undef, undef, undef, undef, undef, undef, undef, undef, undef, undef, undef], []⟩ wx := by
  conv => arg 3; whnf
  have c8 : wx.cell? ⟨g8, j, none⟩ = some (.string sc) := (blk_cell H8.out j).trans hsc
  have c15 : wx.cell? ⟨g15, k, none⟩ = some (.string ho) := (blk_cell H15.out k).trans hho
  refine wpAny_ready (rs := [6, 13, 15]) (by kernel_rfl) (by simp) ?_
  refine AllReady.cons rfl (fun K1 hK1 => ?_) ?_
  · go_simp
    refine hK1 _ _ ?_
    clear hK1 K1
    exact pn_210 a b j k sc ho x2 x5 x6 y9 y10 y11 y16 y17 y18 w W _ arg K g8 g15 hsc hho j0 j4 k0 k6 HK0 HK1 HZ HB H15 HX hK
  refine AllReady.cons rfl (fun K1 hK1 => ?_) ?_
  · go_simp
    refine hK1 _ _ ?_
    clear hK1 K1
    exact pn_120 a b j k sc ho x2 x5 x6 y9 y10 y11 y16 y17 y18 w W _ arg K g8 g15 hsc hho j0 j4 k0 k6 HK0 HK1 HZ HB H8 HX hK
  refine AllReady.cons rfl (fun K1 hK1 => ?_) ?_
  · go_simp
    refine hK1 _ _ ?_
    clear hK1 K1
    exact pn_111 a b j k sc ho x2 x5 x6 y9 y10 y11 y16 y17 y18 w W _ arg K g8 g15 wx.heap.size hsc hho j0 j4 k0 k6 HK0 HK1 HZ HB (Lib.hid (blk_alloc H8.out _)) (Lib.hid (blk_alloc H15.out _)) (Lib.hid (PlS.new HK0.out HK1.out HZ.out HB.out (blk_new _ _) HX.out.size (HX.out.alloc HX.out.size _))) hK
  exact AllReady.nil
set_option maxHeartbeats 2000000 in
set_option maxRecDepth 100000 in
theorem pn_020 (a b : Int) (j k : Nat) (sc ho : ByteArray) (x2 x5 x6 y9 y10 y11 y16 y17 y18 : Value) (w W wx : World) (arg : Array Value) (K : Act → World → Prop) (g15 : Nat) (hsc : schA[j]? = some (Value.string sc)) (hho : hostA[k]? = some (Value.string ho)) (j0 : (0 : Int) ≤ (j : Int)) (j4 : (j : Int) < 4) (k0 : (0 : Int) ≤ (k : Int)) (k6 : (k : Int) < 6) (HK0 : Hid (W.heap[w.heap.size]? = some (.cells arg 28 (0, 0)))) (HK1 : Hid (W.heap[w.heap.size + 1]? = some (.cells (toldCells url0 false ⟨#[]⟩ false ⟨#[]⟩ ⟨#[]⟩ ⟨#[]⟩) 28 (0, 0)))) (HZ : Hid (W.heap.size = w.heap.size + 2)) (HB : Hid (Below w.heap.size w W)) (HX : Hid (Below W.heap.size W wx)) (hK : Hid (∀ (g : Nat) (wx : World) (v8 v9 v10 v11 v12 v13 v14 v15 v16 v17 v18 v19 v20 v21 v22 : Value), Hid (PlS w wx g arg (toldCells { url0 with sc := sc, ho := ho } false ⟨#[]⟩ false ⟨#[]⟩ ⟨#[]⟩ ⟨#[]⟩)) → K ⟨#[.int .i64 a, .int .i64 b, x2, undef, undef, x5, x6, .pointer (some ⟨g, 0, none⟩), v8, v9, v10, v11, v12, v13, v14, v15, v16, v17, v18, v19, v20, v21, v22, undef, undef, undef, undef, undef, undef, undef, undef, undef, undef, undef, undef, undef, undef, undef, undef, undef, undef, undef, undef, undef, undef, undef, undef, undef, undef, undef, undef, undef, undef, undef, undef, undef, undef, undef, undef, undef, undef, undef, undef, undef], []⟩ wx)) :
    wpAny Tryz.prog .any plainOps (Exit.then K (fun _ _ _ => False)) 6 #[false, true, true, true, true, false, false, true, true, true, true, true, true, true, false, false, false] ⟨#[.int .i64 a, .int .i64 b, x2, undef, undef, x5, x6, undef, undef, y9, y10, y11, .int .i64 (j : Int), undef, undef, .slice (some ⟨g15, 0, none⟩) 6 6, y16, y17, y18, .int .i64 (k : Int), .pointer (some ⟨g15, k, none⟩), .string ho, undef, undef, undef, undef, undef, undef, undef, undef, undef, undef, undef, undef, undef, undef, undef, undef, undef, undef, undef, undef, undef, undef, undef, undef, undef, undef, undef, undef, undef, undef, undef, undef, undef, undef, undef, undef, undef, undef, undef, undef, undef, undef], []⟩ wx := by
  conv => arg 3; whnf
  refine wpAny_ready (rs := [0, 15]) (by kernel_rfl) (by simp) ?_
  refine AllReady.cons rfl (fun K1 hK1 => ?_) ?_
  · go_simp
    refine hK1 _ _ ?_
    clear hK1 K1
    refine wpAny_take (i := 5) (v := ?_) rfl (by kernel_rfl) (by kernel_rfl) (by kernel_rfl) (fun _ _ _ h => h) (Or.inl ⟨by rfl, ?_⟩) ?_
    rotate_left
    · intro w; go_simp; try with_reducible rfl
    exact pn_120 a b j k sc ho x2 x5 x6 y9 y10 y11 y16 y17 y18 w W _ arg K wx.heap.size g15 hsc hho j0 j4 k0 k6 HK0 HK1 HZ HB (Lib.hid (blk_new _ _)) (Lib.hid (HX.out.alloc HX.out.size _)) hK
  refine AllReady.cons rfl (fun K1 hK1 => ?_) ?_
  · go_simp
    refine hK1 _ _ ?_
    clear hK1 K1
    exact pn_021 a b j k sc ho x2 x5 x6 y9 y10 y11 y16 y17 y18 w W _ arg K g15 wx.heap.size hsc hho j0 j4 k0 k6 HK0 HK1 HZ HB (Lib.hid (PlS.new HK0.out HK1.out HZ.out HB.out (blk_new _ _) HX.out.size (HX.out.alloc HX.out.size _))) hK
  exact AllReady.nil
set_option maxHeartbeats 2000000 in
set_option maxRecDepth 100000 in
theorem pn_100 (a b : Int) (j k : Nat) (sc ho : ByteArray) (x2 x5 x6 y9 y10 y11 y16 y17 y18 : Value) (w W wx : World) (arg : Array Value) (K : Act → World → Prop) (g8 : Nat) (hsc : schA[j]? = some (Value.string sc)) (hho : hostA[k]? = some (Value.string ho)) (j0 : (0 : Int) ≤ (j : Int)) (j4 : (j : Int) < 4) (k0 : (0 : Int) ≤ (k : Int)) (k6 : (k : Int) < 6) (HK0 : Hid (W.heap[w.heap.size]? = some (.cells arg 28 (0, 0)))) (HK1 : Hid (W.heap[w.heap.size + 1]? = some (.cells (toldCells url0 false ⟨#[]⟩ false ⟨#[]⟩ ⟨#[]⟩ ⟨#[]⟩) 28 (0, 0)))) (HZ : Hid (W.heap.size = w.heap.size + 2)) (HB : Hid (Below w.heap.size w W)) (H8 : Hid (wx.heap[g8]? = some (.cells schA 9 (0, 0)))) (HX : Hid (Below W.heap.size W wx)) (hK : Hid (∀ (g : Nat) (wx : World) (v8 v9 v10 v11 v12 v13 v14 v15 v16 v17 v18 v19 v20 v21 v22 : Value), Hid (PlS w wx g arg (toldCells { url0 with sc := sc, ho := ho } false ⟨#[]⟩ false ⟨#[]⟩ ⟨#[]⟩ ⟨#[]⟩)) → K ⟨#[.int .i64 a, .int .i64 b, x2, undef, undef, x5, x6, .pointer (some ⟨g, 0, none⟩), v8, v9, v10, v11, v12, v13, v14, v15, v16, v17, v18, v19, v20, v21, v22, undef, undef, undef, undef, undef, undef, undef, undef, undef, undef, undef, undef, undef, undef, undef, undef, undef, undef, undef, undef, undef, undef, undef, undef, undef, undef, undef, undef, undef, undef, undef, undef, undef, undef, undef, undef, undef, undef, undef, undef, undef], []⟩ wx)) :
    wpAny Tryz.prog .any plainOps (Exit.then K (fun _ _ _ => False)) 7 #[true, true, true, true, true, true, false, false, true, true, true, true, false, false, false, false, false] ⟨#[.int .i64 a, .int .i64 b, x2, undef, undef, x5, x6, undef, .slice (some ⟨g8, 0, none⟩) 4 4, y9, y10, y11, .int .i64 (j : Int), .pointer (some ⟨g8, j, none⟩), undef, undef, y16, y17, y18, .int .i64 (k : Int), undef, undef, undef, undef, undef, undef, undef, undef, undef, undef, undef, undef, undef, undef, undef, undef, undef, undef, undef, undef, undef, undef, undef, undef, undef, undef, undef, undef, undef, undef, undef, undef, undef, undef, undef, undef, undef, undef, undef, undef, undef, undef, undef, undef], []⟩ wx := by
  conv => arg 3; whnf
  have c8 : wx.cell? ⟨g8, j, none⟩ = some (.string sc) := (blk_cell H8.out j).trans hsc
  refine wpAny_ready (rs := [6, 7, 15]) (by kernel_rfl) (by simp) ?_
  refine AllReady.cons rfl (fun K1 hK1 => ?_) ?_
  · go_simp
    refine hK1 _ _ ?_
    clear hK1 K1
    exact pn_200 a b j k sc ho x2 x5 x6 y9 y10 y11 y16 y17 y18 w W _ arg K g8 hsc hho j0 j4 k0 k6 HK0 HK1 HZ HB HX hK
  refine AllReady.cons rfl (fun K1 hK1 => ?_) ?_
  · go_simp
    refine hK1 _ _ ?_
    clear hK1 K1
    refine wpAny_take (i := 12) (v := ?_) rfl (by kernel_rfl) (by kernel_rfl) (by kernel_rfl) (fun _ _ _ h => h) (Or.inl ⟨by rfl, ?_⟩) ?_
    rotate_left
    · intro w; go_simp; try with_reducible rfl
    exact pn_110 a b j k sc ho x2 x5 x6 y9 y10 y11 y16 y17 y18 w W _ arg K g8 wx.heap.size hsc hho j0 j4 k0 k6 HK0 HK1 HZ HB (Lib.hid (blk_alloc H8.out _)) (Lib.hid (blk_new _ _)) (Lib.hid (HX.out.alloc HX.out.size _)) hK
  refine AllReady.cons rfl (fun K1 hK1 => ?_) ?_
  · go_simp
    refine hK1 _ _ ?_
    clear hK1 K1
    exact pn_101 a b j k sc ho x2 x5 x6 y9 y10 y11 y16 y17 y18 w W _ arg K g8 wx.heap.size hsc hho j0 j4 k0 k6 HK0 HK1 HZ HB (Lib.hid (blk_alloc H8.out _)) (Lib.hid (PlS.new HK0.out HK1.out HZ.out HB.out (blk_new _ _) HX.out.size (HX.out.alloc HX.out.size _))) hK
  exact AllReady.nil
set_option maxHeartbeats 2000000 in
set_option maxRecDepth 100000 in
theorem pn_010 (a b : Int) (j k : Nat) (sc ho : ByteArray) (x2 x5 x6 y9 y10 y11 y16 y17 y18 : Value) (w W wx : World) (arg : Array Value) (K : Act → World → Prop) (g15 : Nat) (hsc : schA[j]? = some (Value.string sc)) (hho : hostA[k]? = some (Value.string ho)) (j0 : (0 : Int) ≤ (j : Int)) (j4 : (j : Int) < 4) (k0 : (0 : Int) ≤ (k : Int)) (k6 : (k : Int) < 6) (HK0 : Hid (W.heap[w.heap.size]? = some (.cells arg 28 (0, 0)))) (HK1 : Hid (W.heap[w.heap.size + 1]? = some (.cells (toldCells url0 false ⟨#[]⟩ false ⟨#[]⟩ ⟨#[]⟩ ⟨#[]⟩) 28 (0, 0)))) (HZ : Hid (W.heap.size = w.heap.size + 2)) (HB : Hid (Below w.heap.size w W)) (H15 : Hid (wx.heap[g15]? = some (.cells hostA 9 (0, 0)))) (HX : Hid (Below W.heap.size W wx)) (hK : Hid (∀ (g : Nat) (wx : World) (v8 v9 v10 v11 v12 v13 v14 v15 v16 v17 v18 v19 v20 v21 v22 : Value), Hid (PlS w wx g arg (toldCells { url0 with sc := sc, ho := ho } false ⟨#[]⟩ false ⟨#[]⟩ ⟨#[]⟩ ⟨#[]⟩)) → K ⟨#[.int .i64 a, .int .i64 b, x2, undef, undef, x5, x6, .pointer (some ⟨g, 0, none⟩), v8, v9, v10, v11, v12, v13, v14, v15, v16, v17, v18, v19, v20, v21, v22, undef, undef, undef, undef, undef, undef, undef, undef, undef, undef, undef, undef, undef, undef, undef, undef, undef, undef, undef, undef, undef, undef, undef, undef, undef, undef, undef, undef, undef, undef, undef, undef, undef, undef, undef, undef, undef, undef, undef, undef, undef], []⟩ wx)) :
    wpAny Tryz.prog .any plainOps (Exit.then K (fun _ _ _ => False)) 7 #[false, true, true, true, true, false, false, true, true, true, true, true, true, false, false, false, false] ⟨#[.int .i64 a, .int .i64 b, x2, undef, undef, x5, x6, undef, undef, y9, y10, y11, .int .i64 (j : Int), undef, undef, .slice (some ⟨g15, 0, none⟩) 6 6, y16, y17, y18, .int .i64 (k : Int), .pointer (some ⟨g15, k, none⟩), undef, undef, undef, undef, undef, undef, undef, undef, undef, undef, undef, undef, undef, undef, undef, undef, undef, undef, undef, undef, undef, undef, undef, undef, undef, undef, undef, undef, undef, undef, undef, undef, undef, undef, undef, undef, undef, undef, undef, undef, undef, undef, undef], []⟩ wx := by
  conv => arg 3; whnf
  have c15 : wx.cell? ⟨g15, k, none⟩ = some (.string ho) := (blk_cell H15.out k).trans hho
  refine wpAny_ready (rs := [0, 13, 15]) (by kernel_rfl) (by simp) ?_
  refine AllReady.cons rfl (fun K1 hK1 => ?_) ?_
  · go_simp
    refine hK1 _ _ ?_
    clear hK1 K1
    refine wpAny_take (i := 5) (v := ?_) rfl (by kernel_rfl) (by kernel_rfl) (by kernel_rfl) (fun _ _ _ h => h) (Or.inl ⟨by rfl, ?_⟩) ?_
    rotate_left
    · intro w; go_simp; try with_reducible rfl
    exact pn_110 a b j k sc ho x2 x5 x6 y9 y10 y11 y16 y17 y18 w W _ arg K wx.heap.size g15 hsc hho j0 j4 k0 k6 HK0 HK1 HZ HB (Lib.hid (blk_new _ _)) (Lib.hid (blk_alloc H15.out _)) (Lib.hid (HX.out.alloc HX.out.size _)) hK
  refine AllReady.cons rfl (fun K1 hK1 => ?_) ?_
  · go_simp
    refine hK1 _ _ ?_
    clear hK1 K1
    exact pn_020 a b j k sc ho x2 x5 x6 y9 y10 y11 y16 y17 y18 w W _ arg K g15 hsc hho j0 j4 k0 k6 HK0 HK1 HZ HB HX hK
  refine AllReady.cons rfl (fun K1 hK1 => ?_) ?_
  · go_simp
    refine hK1 _ _ ?_
    clear hK1 K1
    exact pn_011 a b j k sc ho x2 x5 x6 y9 y10 y11 y16 y17 y18 w W _ arg K g15 wx.heap.size hsc hho j0 j4 k0 k6 HK0 HK1 HZ HB (Lib.hid (blk_alloc H15.out _)) (Lib.hid (PlS.new HK0.out HK1.out HZ.out HB.out (blk_new _ _) HX.out.size (HX.out.alloc HX.out.size _))) hK
  exact AllReady.nil
set_option maxHeartbeats 2000000 in
set_option maxRecDepth 100000 in
theorem pn_000 (a b : Int) (j k : Nat) (sc ho : ByteArray) (x2 x5 x6 y9 y10 y11 y16 y17 y18 : Value) (w W wx : World) (arg : Array Value) (K : Act → World → Prop) (hsc : schA[j]? = some (Value.string sc)) (hho : hostA[k]? = some (Value.string ho)) (j0 : (0 : Int) ≤ (j : Int)) (j4 : (j : Int) < 4) (k0 : (0 : Int) ≤ (k : Int)) (k6 : (k : Int) < 6) (HK0 : Hid (W.heap[w.heap.size]? = some (.cells arg 28 (0, 0)))) (HK1 : Hid (W.heap[w.heap.size + 1]? = some (.cells (toldCells url0 false ⟨#[]⟩ false ⟨#[]⟩ ⟨#[]⟩ ⟨#[]⟩) 28 (0, 0)))) (HZ : Hid (W.heap.size = w.heap.size + 2)) (HB : Hid (Below w.heap.size w W)) (HX : Hid (Below W.heap.size W wx)) (hK : Hid (∀ (g : Nat) (wx : World) (v8 v9 v10 v11 v12 v13 v14 v15 v16 v17 v18 v19 v20 v21 v22 : Value), Hid (PlS w wx g arg (toldCells { url0 with sc := sc, ho := ho } false ⟨#[]⟩ false ⟨#[]⟩ ⟨#[]⟩ ⟨#[]⟩)) → K ⟨#[.int .i64 a, .int .i64 b, x2, undef, undef, x5, x6, .pointer (some ⟨g, 0, none⟩), v8, v9, v10, v11, v12, v13, v14, v15, v16, v17, v18, v19, v20, v21, v22, undef, undef, undef, undef, undef, undef, undef, undef, undef, undef, undef, undef, undef, undef, undef, undef, undef, undef, undef, undef, undef, undef, undef, undef, undef, undef, undef, undef, undef, undef, undef, undef, undef, undef, undef, undef, undef, undef, undef, undef, undef], []⟩ wx)) :
    wpAny Tryz.prog .any plainOps (Exit.then K (fun _ _ _ => False)) 9 #[false, true, true, true, true, false, false, false, true, true, true, true, false, false, false, false, false] ⟨#[.int .i64 a, .int .i64 b, x2, undef, undef, x5, x6, undef, undef, y9, y10, y11, .int .i64 (j : Int), undef, undef, undef, y16, y17, y18, .int .i64 (k : Int), undef, undef, undef, undef, undef, undef, undef, undef, undef, undef, undef, undef, undef, undef, undef, undef, undef, undef, undef, undef, undef, undef, undef, undef, undef, undef, undef, undef, undef, undef, undef, undef, undef, undef, undef, undef, undef, undef, undef, undef, undef, undef, undef, undef], []⟩ wx := by
  conv => arg 3; whnf
  refine wpAny_ready (rs := [0, 7, 15]) (by kernel_rfl) (by simp) ?_
  refine AllReady.cons rfl (fun K1 hK1 => ?_) ?_
  · go_simp
    refine hK1 _ _ ?_
    clear hK1 K1
    refine wpAny_take (i := 5) (v := ?_) rfl (by kernel_rfl) (by kernel_rfl) (by kernel_rfl) (fun _ _ _ h => h) (Or.inl ⟨by rfl, ?_⟩) ?_
    rotate_left
    · intro w; go_simp; try with_reducible rfl
    exact pn_100 a b j k sc ho x2 x5 x6 y9 y10 y11 y16 y17 y18 w W _ arg K wx.heap.size hsc hho j0 j4 k0 k6 HK0 HK1 HZ HB (Lib.hid (blk_new _ _)) (Lib.hid (HX.out.alloc HX.out.size _)) hK
  refine AllReady.cons rfl (fun K1 hK1 => ?_) ?_
  · go_simp
    refine hK1 _ _ ?_
    clear hK1 K1
    refine wpAny_take (i := 12) (v := ?_) rfl (by kernel_rfl) (by kernel_rfl) (by kernel_rfl) (fun _ _ _ h => h) (Or.inl ⟨by rfl, ?_⟩) ?_
    rotate_left
    · intro w; go_simp; try with_reducible rfl
    exact pn_010 a b j k sc ho x2 x5 x6 y9 y10 y11 y16 y17 y18 w W _ arg K wx.heap.size hsc hho j0 j4 k0 k6 HK0 HK1 HZ HB (Lib.hid (blk_new _ _)) (Lib.hid (HX.out.alloc HX.out.size _)) hK
  refine AllReady.cons rfl (fun K1 hK1 => ?_) ?_
  · go_simp
    refine hK1 _ _ ?_
    clear hK1 K1
    exact pn_001 a b j k sc ho x2 x5 x6 y9 y10 y11 y16 y17 y18 w W _ arg K wx.heap.size hsc hho j0 j4 k0 k6 HK0 HK1 HZ HB (Lib.hid (PlS.new HK0.out HK1.out HZ.out HB.out (blk_new _ _) HX.out.size (HX.out.alloc HX.out.size _))) hK
  exact AllReady.nil
set_option maxHeartbeats 2000000 in
set_option maxRecDepth 100000 in
theorem plain_reg (a b : Int) (j k : Nat) (sc ho : ByteArray) (x2 x5 x6 : Value) (w W : World) (arg : Array Value) (K : Act → World → Prop) (Q : Exit → Act → World → Prop)
    (ej : (IntKind.i64.wrap (a.tmod 4 + 4)).tmod 4 = (j : Int)) (ek : (IntKind.i64.wrap (b.tmod 6 + 6)).tmod 6 = (k : Int)) (hsc : schA[j]? = some (Value.string sc)) (hho : hostA[k]? = some (Value.string ho)) (j0 : (0 : Int) ≤ (j : Int)) (j4 : (j : Int) < 4) (k0 : (0 : Int) ≤ (k : Int)) (k6 : (k : Int) < 6)
    (HK0 : Hid (W.heap[w.heap.size]? = some (.cells arg 28 (0, 0)))) (HK1 : Hid (W.heap[w.heap.size + 1]? = some (.cells (toldCells url0 false ⟨#[]⟩ false ⟨#[]⟩ ⟨#[]⟩ ⟨#[]⟩) 28 (0, 0)))) (HZ : Hid (W.heap.size = w.heap.size + 2)) (HB : Hid (Below w.heap.size w W))
    (hK : (∀ (g : Nat) (wx : World) (v8 v9 v10 v11 v12 v13 v14 v15 v16 v17 v18 v19 v20 v21 v22 : Value), Hid (PlS w wx g arg (toldCells { url0 with sc := sc, ho := ho } false ⟨#[]⟩ false ⟨#[]⟩ ⟨#[]⟩ ⟨#[]⟩)) → K ⟨#[.int .i64 a, .int .i64 b, x2, undef, undef, x5, x6, .pointer (some ⟨g, 0, none⟩), v8, v9, v10, v11, v12, v13, v14, v15, v16, v17, v18, v19, v20, v21, v22, undef, undef, undef, undef, undef, undef, undef, undef, undef, undef, undef, undef, undef, undef, undef, undef, undef, undef, undef, undef, undef, undef, undef, undef, undef, undef, undef, undef, undef, undef, undef, undef, undef, undef, undef, undef, undef, undef, undef, undef, undef], []⟩ wx)) :
    Code.wp Tryz.prog plainReg (Exit.then K Q) ⟨#[.int .i64 a, .int .i64 b, x2, undef, undef, x5, x6, undef, undef, undef, undef, undef, undef, undef, undef, undef, undef, undef, undef, undef, undef, undef, undef, undef, undef, undef, undef, undef, undef, undef, undef, undef, undef, undef, undef, undef, undef, undef, undef, undef, undef, undef, undef, undef, undef, undef, undef, undef, undef, undef, undef, undef, undef, undef, undef, undef, undef, undef, undef, undef, undef, undef, undef, undef], []⟩ W := by
  have HK := Lib.hid hK
  clear hK
  conv => arg 2; whnf
  refine Code.wp_mono (Q := Exit.then K (fun _ _ _ => False)) (fun e a w h => ?_) ?_
  · cases e <;> first | exact h | exact h.elim
  refine wp_region_any (by kernel_rfl) ?_
  change wpAny _ _ _ _ _ _ _ (World.drew _)
  refine wpAny_take (i := 1) (v := ?_) rfl (by kernel_rfl) (by kernel_rfl) (by kernel_rfl) (fun _ _ _ h => h) (Or.inl ⟨by rfl, ?_⟩) ?_
  rotate_left
  · intro w; go_simp; try with_reducible rfl
  refine wpAny_take (i := 2) (v := ?_) rfl (by kernel_rfl) (by kernel_rfl) (by kernel_rfl) (fun _ _ _ h => h) (Or.inl ⟨by rfl, ?_⟩) ?_
  rotate_left
  · intro w; go_simp; try with_reducible rfl
  refine wpAny_take (i := 3) (v := ?_) rfl (by kernel_rfl) (by kernel_rfl) (by kernel_rfl) (fun _ _ _ h => h) (Or.inl ⟨by rfl, ?_⟩) ?_
  rotate_left
  · intro w; go_simp; try with_reducible rfl
  refine wpAny_take (i := 4) (v := ?_) rfl (by kernel_rfl) (by kernel_rfl) (by kernel_rfl) (fun _ _ _ h => h) (Or.inl ⟨by rfl, ?_⟩) ?_
  rotate_left
  · intro w; go_simp; try with_reducible rfl
  refine wpAny_take (i := 8) (v := ?_) rfl (by kernel_rfl) (by kernel_rfl) (by kernel_rfl) (fun _ _ _ h => h) (Or.inl ⟨by rfl, ?_⟩) ?_
  rotate_left
  · intro w; go_simp; try with_reducible rfl
  refine wpAny_take (i := 9) (v := ?_) rfl (by kernel_rfl) (by kernel_rfl) (by kernel_rfl) (fun _ _ _ h => h) (Or.inl ⟨by rfl, ?_⟩) ?_
  rotate_left
  · intro w; go_simp; try with_reducible rfl
  refine wpAny_take (i := 10) (v := ?_) rfl (by kernel_rfl) (by kernel_rfl) (by kernel_rfl) (fun _ _ _ h => h) (Or.inl ⟨by rfl, ?_⟩) ?_
  rotate_left
  · intro w; go_simp; try with_reducible rfl
  refine wpAny_take (i := 11) (v := ?_) rfl (by kernel_rfl) (by kernel_rfl) (by kernel_rfl) (fun _ _ _ h => h) (Or.inl ⟨by rfl, ?_⟩) ?_
  rotate_left
  · intro w; go_simp; try with_reducible rfl
  exact pn_000 a b j k sc ho x2 x5 x6 _ _ _ _ _ _ w W _ arg K hsc hho j0 j4 k0 k6 HK0 HK1 HZ HB (Lib.hid (Below.refl _ _).drew) HK

set_option maxHeartbeats 4000000 in
set_option maxRecDepth 100000 in
theorem plain_any (a b : Int) (u : UrlB) (hu : Bool) (un : ByteArray) (ps : Bool) (pw ep ef : ByteArray) (w : World) (hrq : u.rq.size ≤ 2147483647) (hpa : u.pa.size ≤ 2147483647) :
    Calls Tryz.prog 31 #[.int .i64 a, .int .i64 b, .agg (toldCells u hu un ps pw ep ef)] w fun e w' => ∃ v : Value, e = .returned v ∧ Hid (PlainV u hu un pw v) ∧ Below w.heap.size w w' := by
  obtain ⟨j, hj, ej⟩ : ∃ j : Nat, (j : Int) < 4 ∧ (IntKind.i64.wrap (a.tmod 4 + 4)).tmod 4 = (j : Int) := rem_any a 4 (by decide) (by decide)
  obtain ⟨k, hk, ek⟩ : ∃ k : Nat, (k : Int) < 6 ∧ (IntKind.i64.wrap (b.tmod 6 + 6)).tmod 6 = (k : Int) := rem_any b 6 (by decide) (by decide)
  obtain ⟨sc, hsm, hsc⟩ := sch_at j hj
  obtain ⟨ho, hhm, hho⟩ := host_at k hk
  have j0 : (0 : Int) ≤ (j : Int) := by omega
  have j4 : (j : Int) < 4 := by omega
  have k0 : (0 : Int) ≤ (k : Int) := by omega
  have k6 : (k : Int) < 6 := by omega
  have HSM := Lib.hid hsm
  have HHM := Lib.hid hhm
  clear hj hk hsm hhm
  have HB := Lib.hid (((Below.refl w.heap.size w).alloc (Nat.le_refl _) (.cells (toldCells u hu un ps pw ep ef) 28)).alloc (by simp) (.cells (toldCells url0 false ⟨#[]⟩ false ⟨#[]⟩ ⟨#[]⟩ ⟨#[]⟩) 28))
  have HK0 := Lib.hid (blk_alloc (blk_new w (.cells (toldCells u hu un ps pw ep ef) 28)) (.cells (toldCells url0 false ⟨#[]⟩ false ⟨#[]⟩ ⟨#[]⟩ ⟨#[]⟩) 28))
  have HK1 := Lib.hid (blk_new (w.alloc (.cells (toldCells u hu un ps pw ep ef) 28)) (.cells (toldCells url0 false ⟨#[]⟩ false ⟨#[]⟩ ⟨#[]⟩ ⟨#[]⟩) 28))
  rw [show (w.alloc (.cells (toldCells u hu un ps pw ep ef) 28)).heap.size = w.heap.size + 1 by simp] at HK1
  have HZ : Hid (((w.alloc (.cells (toldCells u hu un ps pw ep ef) 28)).alloc (.cells (toldCells url0 false ⟨#[]⟩ false ⟨#[]⟩ ⟨#[]⟩ ⟨#[]⟩) 28)).heap.size = w.heap.size + 2) := Lib.hid (by simp)
  go_enter Tryz.func31, Tryz.ntmps31
  go_upto_region 1 with (fail)
  generalize (w.alloc (.cells (toldCells u hu un ps pw ep ef) 28)).alloc (.cells (toldCells url0 false ⟨#[]⟩ false ⟨#[]⟩ ⟨#[]⟩ ⟨#[]⟩) 28) = W at *
  go_cut [7] from 7 to 22 (fun v7 wx => ∃ g, v7 = .pointer (some ⟨g, 0, none⟩) ∧ Hid (PlS w wx g (toldCells u hu un ps pw ep ef) (toldCells { url0 with sc := sc, ho := ho } false ⟨#[]⟩ false ⟨#[]⟩ ⟨#[]⟩ ⟨#[]⟩)))
  case first =>
    refine plain_reg a b j k sc ho _ _ _ w W _ _ _ ej ek hsc hho j0 j4 k0 k6 HK0 HK1 HZ HB ?_
    intro g wx v8 v9 v10 v11 v12 v13 v14 v15 v16 v17 v18 v19 v20 v21 v22 hP
    dsimp only
    go_wp2
    go_meet
    case rel => exact ⟨g, rfl, hP⟩
  case rest =>
    clear hsc hho j0 j4 k0 k6 ej ek HB HK0 HK1 HZ
    obtain ⟨g, rfl, P0⟩ := hcut
    have d0 : ∀ j, wc.cell? ⟨w.heap.size, j, none⟩ = (toldCells u hu un ps pw ep ef)[j]? := blk_cell P0.out.arg
    have dg : ∀ j, wc.cell? ⟨g, j, none⟩ = (toldCells { url0 with sc := sc, ho := ho } false ⟨#[]⟩ false ⟨#[]⟩ ⟨#[]⟩ ⟨#[]⟩)[j]? := blk_cell P0.out.cur
    have eg : ∀ j, wc.frozen? ⟨g, j, none⟩ = false := blk_frozen P0.out.cur
    have P1 : Hid (PlS w (wc.setCell ⟨g, 2, none⟩ (.bool hu)) g (toldCells u hu un ps pw ep ef) (toldCells { url0 with sc := sc, ho := ho } hu ⟨#[]⟩ false ⟨#[]⟩ ⟨#[]⟩ ⟨#[]⟩)) := Lib.hid (P0.out.set 2 (.bool hu))
    go_upto_region 3 with (fail)
    clear d0 dg eg P0
    generalize wc.setCell ⟨g, 2, none⟩ (.bool hu) = W1 at *
    have d0 : ∀ j, W1.cell? ⟨w.heap.size, j, none⟩ = (toldCells u hu un ps pw ep ef)[j]? := blk_cell P1.out.arg
    go_upto_if 27 with (fail)
    go_cut [] from 27 to 38 (fun wx => ∃ (un' : ByteArray) (ps' : Bool) (pw' : ByteArray), un'.size ≤ un.size ∧ pw'.size ≤ pw.size ∧ Hid (PlS w wx g (toldCells u hu un ps pw ep ef) (toldCells { url0 with sc := sc, ho := ho } hu un' ps' pw' ⟨#[]⟩ ⟨#[]⟩)))
    case first =>
      cases hu
      · go_wp2
        go_meet
        case rel => exact ⟨⟨#[]⟩, false, ⟨#[]⟩, Nat.zero_le _, Nat.zero_le _, P1⟩
      · go_upto_region 4 with (fail)
        have dg : ∀ j, W1.cell? ⟨g, j, none⟩ = (toldCells { url0 with sc := sc, ho := ho } true ⟨#[]⟩ false ⟨#[]⟩ ⟨#[]⟩ ⟨#[]⟩)[j]? := blk_cell P1.out.cur
        have eg : ∀ j, W1.frozen? ⟨g, j, none⟩ = false := blk_frozen P1.out.cur
        have P2 : Hid (PlS w ((W1.setCell ⟨g, 3, none⟩ (.string un)).setCell ⟨g, 4, none⟩ (.bool ps)).drew g (toldCells u true un ps pw ep ef) (toldCells { url0 with sc := sc, ho := ho } true un ps ⟨#[]⟩ ⟨#[]⟩ ⟨#[]⟩)) := Lib.hid ((P1.out.set 3 (.string un)).set 4 (.bool ps)).drew
        go_cut [] from 28 to 33 (fun wx => Hid (PlS w wx g (toldCells u true un ps pw ep ef) (toldCells { url0 with sc := sc, ho := ho } true un ps ⟨#[]⟩ ⟨#[]⟩ ⟨#[]⟩)))
        case first =>
          go_region_with (fail)
          all_goals
            go_wp2
            go_meet
            case rel => exact P2
        case rest =>
          clear d0 dg eg P1 P2
          have P2 := hcut
          clear hcut
          have d0 : ∀ j, wc.cell? ⟨w.heap.size, j, none⟩ = (toldCells u true un ps pw ep ef)[j]? := blk_cell P2.out.arg
          cases ps
          · go_wp2
            go_meet
            case rel => exact ⟨un, false, ⟨#[]⟩, Nat.le_refl _, Nat.zero_le _, P2⟩
          · have dg : ∀ j, wc.cell? ⟨g, j, none⟩ = (toldCells { url0 with sc := sc, ho := ho } true un true ⟨#[]⟩ ⟨#[]⟩ ⟨#[]⟩)[j]? := blk_cell P2.out.cur
            have eg : ∀ j, wc.frozen? ⟨g, j, none⟩ = false := blk_frozen P2.out.cur
            have P3 : Hid (PlS w (wc.setCell ⟨g, 5, none⟩ (.string pw)) g (toldCells u true un true pw ep ef) (toldCells { url0 with sc := sc, ho := ho } true un true pw ⟨#[]⟩ ⟨#[]⟩)) := Lib.hid (P2.out.set 5 (.string pw))
            go_wp2
            go_meet
            case rel => exact ⟨un, true, pw, Nat.le_refl _, Nat.le_refl _, P3⟩
    case rest =>
      obtain ⟨un', ps', pw', hun, hpw, P2⟩ := hcut
      have HUN := Lib.hid hun
      have HPW := Lib.hid hpw
      clear d0 P1 hun hpw
      have d0 : ∀ j, wc.cell? ⟨w.heap.size, j, none⟩ = (toldCells u hu un ps pw ep ef)[j]? := blk_cell P2.out.arg
      go_upto_if 41 with (fail)
      go_cut [] from 41 to 45 (fun wx => ∃ pa' : ByteArray, Hid ((pa'.data.toList = [] ∨ pa'.data.toList[0]? = some 47) ∧ pa'.size ≤ u.pa.size + 1) ∧ Hid (PlS w wx g (toldCells u hu un ps pw ep ef) (toldCells { url0 with sc := sc, ho := ho, pa := pa' } hu un' ps' pw' ⟨#[]⟩ ⟨#[]⟩)))
      case first =>
        cases he : u.pa.toList.isEmpty
        · have dg : ∀ j, wc.cell? ⟨g, j, none⟩ = (toldCells { url0 with sc := sc, ho := ho } hu un' ps' pw' ⟨#[]⟩ ⟨#[]⟩)[j]? := blk_cell P2.out.cur
          have eg : ∀ j, wc.frozen? ⟨g, j, none⟩ = false := blk_frozen P2.out.cur
          have P3 : Hid (PlS w (wc.setCell ⟨g, 7, none⟩ (.string (⟨#[47]⟩ ++ u.pa))) g (toldCells u hu un ps pw ep ef) (toldCells { url0 with sc := sc, ho := ho, pa := ⟨#[47]⟩ ++ u.pa } hu un' ps' pw' ⟨#[]⟩ ⟨#[]⟩)) := Lib.hid (P2.out.set 7 (.string (⟨#[47]⟩ ++ u.pa)))
          go_wp2
          go_meet
          case rel => exact ⟨⟨#[47]⟩ ++ u.pa, Lib.hid (slash_pa u.pa), P3⟩
        · go_wp2
          go_meet
          case rel => exact ⟨⟨#[]⟩, Lib.hid ⟨Or.inl rfl, Nat.zero_le _⟩, P2⟩
      case rest =>
        obtain ⟨pa', hpa', P3⟩ := hcut
        clear d0 P2
        have d0 : ∀ j, wc.cell? ⟨w.heap.size, j, none⟩ = (toldCells u hu un ps pw ep ef)[j]? := blk_cell P3.out.arg
        go_wp2_with (fail)
        refine Calls.mono (chars_any u.rq ⟨#[58, 64, 47, 63]⟩ true wc (by omega) (by decide)) ?_
        rintro e w1 ⟨rfl, hb1⟩
        have P4 := Lib.hid (P3.out.up hb1)
        clear hb1 d0 P3
        generalize charsB (⟨#[58, 64, 47, 63]⟩ : ByteArray).data.toList true u.rq.data.toList = c48 at *
        have d0 : ∀ j, w1.cell? ⟨w.heap.size, j, none⟩ = (toldCells u hu un ps pw ep ef)[j]? := blk_cell P4.out.arg
        go_upto_if 48 with (fail)
        go_cut [] from 48 to 51 (fun wx => ∃ rq' : ByteArray, Hid (PlS w wx g (toldCells u hu un ps pw ep ef) (toldCells { url0 with sc := sc, ho := ho, pa := pa', rq := rq' } hu un' ps' pw' ⟨#[]⟩ ⟨#[]⟩)))
        case first =>
          cases c48
          · go_wp2
            go_meet
            case rel => exact ⟨_, P4⟩
          · have dg : ∀ j, w1.cell? ⟨g, j, none⟩ = (toldCells { url0 with sc := sc, ho := ho, pa := pa' } hu un' ps' pw' ⟨#[]⟩ ⟨#[]⟩)[j]? := blk_cell P4.out.cur
            have eg : ∀ j, w1.frozen? ⟨g, j, none⟩ = false := blk_frozen P4.out.cur
            have P5 : Hid (PlS w (w1.setCell ⟨g, 10, none⟩ (.string u.rq)) g (toldCells u hu un ps pw ep ef) (toldCells { url0 with sc := sc, ho := ho, pa := pa', rq := u.rq } hu un' ps' pw' ⟨#[]⟩ ⟨#[]⟩)) := Lib.hid (P4.out.set 10 (.string u.rq))
            go_wp2
            go_meet
            case rel => exact ⟨_, P5⟩
        case rest =>
          obtain ⟨rq', P5⟩ := hcut
          clear d0 P4
          have d0 : ∀ j, wc.cell? ⟨w.heap.size, j, none⟩ = (toldCells u hu un ps pw ep ef)[j]? := blk_cell P5.out.arg
          have dg : ∀ j, wc.cell? ⟨g, j, none⟩ = (toldCells { url0 with sc := sc, ho := ho, pa := pa', rq := rq' } hu un' ps' pw' ⟨#[]⟩ ⟨#[]⟩)[j]? := blk_cell P5.out.cur
          have eg : ∀ j, wc.frozen? ⟨g, j, none⟩ = false := blk_frozen P5.out.cur
          go_upto_region 11 with (fail)
          go_cut [] from 52 to 59 (fun wx => ∃ fq' : Bool, Hid (PlS w wx g (toldCells u hu un ps pw ep ef) (toldCells { url0 with sc := sc, ho := ho, pa := pa', rq := rq', fq := fq' } hu un' ps' pw' ⟨#[]⟩ ⟨#[]⟩)))
          case first =>
            cases hq : u.fq
            · go_wp2
              go_meet
              case rel => exact ⟨false, Lib.hid (P5.out.set 9 (.bool false))⟩
            · cases hr : rq'.toList.isEmpty
              · go_wp2
                go_meet
                case rel => exact ⟨false, Lib.hid (P5.out.set 9 (.bool false))⟩
              · go_wp2
                go_meet
                case rel => exact ⟨true, Lib.hid (P5.out.set 9 (.bool true))⟩
          case rest =>
            obtain ⟨fq', P6⟩ := hcut
            clear d0 dg eg P5
            have d0 : ∀ j, wc.cell? ⟨w.heap.size, j, none⟩ = (toldCells u hu un ps pw ep ef)[j]? := blk_cell P6.out.arg
            have dg : ∀ j, wc.cell? ⟨g, j, none⟩ = (toldCells { url0 with sc := sc, ho := ho, pa := pa', rq := rq', fq := fq' } hu un' ps' pw' ⟨#[]⟩ ⟨#[]⟩)[j]? := blk_cell P6.out.cur
            have eg : ∀ j, wc.frozen? ⟨g, j, none⟩ = false := blk_frozen P6.out.cur
            have P7 : Hid (PlS w (wc.setCell ⟨g, 11, none⟩ (.string u.fr)) g (toldCells u hu un ps pw ep ef) (toldCells { url0 with sc := sc, ho := ho, pa := pa', rq := rq', fq := fq', fr := u.fr } hu un' ps' pw' ⟨#[]⟩ ⟨#[]⟩)) := Lib.hid (P6.out.set 11 (.string u.fr))
            go_upto_region 13 with (fail)
            clear d0 dg eg P6
            generalize wc.setCell ⟨g, 11, none⟩ (.string u.fr) = W7 at *
            have dg : ∀ j, W7.cell? ⟨g, j, none⟩ = (toldCells { url0 with sc := sc, ho := ho, pa := pa', rq := rq', fq := fq', fr := u.fr } hu un' ps' pw' ⟨#[]⟩ ⟨#[]⟩)[j]? := blk_cell P7.out.cur
            have dr : ∀ j, W7.cell? ⟨w.heap.size + 1, j, none⟩ = (toldCells url0 false ⟨#[]⟩ false ⟨#[]⟩ ⟨#[]⟩ ⟨#[]⟩)[j]? := blk_cell P7.out.res
            have er : ∀ j, W7.frozen? ⟨w.heap.size + 1, j, none⟩ = false := blk_frozen P7.out.res
            have hBf := P7.out.below
            go_wp2
            refine bodyPost_ret (v := .agg (toldCells { url0 with sc := sc, ho := ho, pa := pa', rq := rq', fq := fq', fr := u.fr } hu un' ps' pw' ⟨#[]⟩ ⟨#[]⟩)) (by simp [results, Tryz.results31, go_sem, dr, url0]) rfl ⟨_, rfl, Lib.hid ⟨{ url0 with sc := sc, ho := ho, pa := pa', rq := rq', fq := fq', fr := u.fr }, un', ps', pw', rfl, HSM.out, rfl, HHM.out, hpa'.out, rfl, rfl, rfl, rfl, HUN.out, HPW.out⟩, ?_⟩
            go_grown
end Go.Proofs.YtfkgkkmcaaefnaaGreatDoor.Wk
