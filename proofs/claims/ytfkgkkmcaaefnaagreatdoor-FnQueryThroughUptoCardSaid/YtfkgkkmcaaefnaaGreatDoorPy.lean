/-
  PLAIN: percent-encoded bytes, decoded. No program text.
-/
import Derived.Test.YtfkgkkmcaaefnaaGreatDoorPx
namespace Go.Proofs.YtfkgkkmcaaefnaaGreatDoor.Pu

/-- every percent sign is followed by two hexadecimal digits -/
def pctOk : L → Bool
  | [] => true
  | c :: r => if c.toNat = 37 then
      match r with
      | a :: b :: r' => isHex a && isHex b && pctOk r'
      | _ => false
    else pctOk r
/-- two digits' byte -/
def hexB (a b : UInt8) : UInt8 := UInt8.ofNat ((hexN a.toNat).toNat * 16 + (hexN b.toNat).toNat)
/-- the decoded bytes (pl: a plus sign is a blank) -/
def decB (pl : Bool) : L → L
  | [] => []
  | c :: r => if c.toNat = 37 then
      match r with
      | a :: b :: r' => hexB a b :: decB pl r'
      | _ => []
    else (if pl && decide (c.toNat = 43) then 32 else c) :: decB pl r

theorem po_pct (c a b : UInt8) (r : L) (h : c.toNat = 37) : pctOk (c :: a :: b :: r) = (isHex a && isHex b && pctOk r) := by rw [pctOk, if_pos h]
theorem po_else (c : UInt8) (r : L) (h : c.toNat ≠ 37) : pctOk (c :: r) = pctOk r := by rw [pctOk.eq_def]; simp only [if_neg h]
theorem po_short (c : UInt8) (r : L) (h : c.toNat = 37) (hr : r.length < 2) : pctOk (c :: r) = false := by
  rw [pctOk.eq_def]
  simp only [if_pos h]
  match r, hr with
  | [], _ => rfl
  | [_], _ => rfl
theorem po_inv {c : UInt8} {r : L} (h : c.toNat = 37) (hp : pctOk (c :: r) = true) : ∃ a b r', r = a :: b :: r' ∧ isHex a = true ∧ isHex b = true ∧ pctOk r' = true := by
  match r with
  | [] => rw [po_short _ _ h (by simp)] at hp; exact absurd hp (by decide)
  | [_] => rw [po_short _ _ h (by simp)] at hp; exact absurd hp (by decide)
  | a :: b :: r' =>
    rw [po_pct _ _ _ _ h] at hp
    simp only [Bool.and_eq_true] at hp
    exact ⟨a, b, r', rfl, hp.1.1, hp.1.2, hp.2⟩
theorem de_pct (pl : Bool) (c a b : UInt8) (r : L) (h : c.toNat = 37) : decB pl (c :: a :: b :: r) = hexB a b :: decB pl r := by rw [decB, if_pos h]
theorem de_else (pl : Bool) (c : UInt8) (r : L) (h : c.toNat ≠ 37) : decB pl (c :: r) = (if pl && decide (c.toNat = 43) then 32 else c) :: decB pl r := by rw [decB.eq_def]; simp only [if_neg h]
theorem de_same (pl : Bool) (c : UInt8) (r : L) (h : c.toNat ≠ 37) (h2 : pl = true → c.toNat ≠ 43) : decB pl (c :: r) = c :: decB pl r := by
  rw [de_else _ _ _ h, if_neg]
  simp only [Bool.and_eq_true, decide_eq_true_eq]
  exact fun ⟨a, b⟩ => h2 a b
theorem isHex_le {c : UInt8} (h : isHex c = true) : 0 ≤ hexN c.toNat := of_decide_eq_true h
theorem hexN_lt (n : Nat) : hexN n < 16 := by
  unfold hexN
  split
  · omega
  · split
    · omega
    · split <;> omega
theorem po_ch {more : L} : ∀ (l : L), charsB more true l = true → pctOk l = true
  | [], _ => rfl
  | c :: r, h => by
    by_cases h37 : c.toNat = 37
    · match r with
      | [] => rw [ch_short _ _ _ _ h37 (by simp)] at h; exact absurd h (by decide)
      | [_] => rw [ch_short _ _ _ _ h37 (by simp)] at h; exact absurd h (by decide)
      | a :: b :: r' =>
        rw [ch_pct _ _ _ _ _ _ h37] at h
        simp only [Bool.true_and, Bool.and_eq_true] at h
        rw [po_pct _ _ _ _ h37, h.1.1, h.1.2, po_ch r' h.2]; rfl
    · rw [ch_else _ _ _ _ h37, Bool.and_eq_true] at h
      rw [po_else _ _ h37, po_ch r h.2]
termination_by l => l.length
/-- nothing to decode -/
theorem de_id (pl : Bool) : ∀ (l : L), (∀ c ∈ l, c.toNat ≠ 37 ∧ (pl = true → c.toNat ≠ 43)) → decB pl l = l
  | [], _ => rfl
  | c :: r, h => by
    rw [de_same pl c r (h c List.mem_cons_self).1 (h c List.mem_cons_self).2, de_id pl r (fun x hx => h x (List.mem_cons_of_mem _ hx))]
theorem de_len (pl : Bool) : ∀ (l : L), (decB pl l).length ≤ l.length
  | [] => Nat.le_refl _
  | c :: r => by
    by_cases h37 : c.toNat = 37
    · match r with
      | [] => rw [decB.eq_def]; simp [h37]
      | [_] => rw [decB.eq_def]; simp [h37]
      | a :: b :: r' =>
        rw [de_pct _ _ _ _ _ h37]
        have := de_len pl r'
        simp only [List.length_cons]; omega
    · rw [de_else _ _ _ h37]
      have := de_len pl r
      simp only [List.length_cons]; omega
termination_by l => l.length
end Go.Proofs.YtfkgkkmcaaefnaaGreatDoor.Pu
