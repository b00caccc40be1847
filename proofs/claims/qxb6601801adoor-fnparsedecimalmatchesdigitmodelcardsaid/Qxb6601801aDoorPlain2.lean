/-
  The plain mathematics of the digit model: leading zeros, the comparison with the greatest uint64's digits. No Go in sight.
-/
import Derived.Test.Qxb6601801aDoorPlain
import Derived.KernelRfl
namespace Go.Proofs.Qxb6601801aDoor

/-! ### leading zeros -/
def strip (l : List UInt8) : List UInt8 := l.dropWhile (· == 48)

theorem strip_zero (l : List UInt8) : strip (48 :: l) = strip l := by
  unfold strip
  rw [List.dropWhile_cons, if_pos (by decide)]
theorem strip_other (c : UInt8) (l : List UInt8) (h : c ≠ 48) : strip (c :: l) = c :: l := by
  unfold strip
  rw [List.dropWhile_cons, if_neg (by simpa using h)]
theorem strip_nil : strip [] = [] := rfl

theorem val_strip (l : List UInt8) : val 0 (strip l) = val 0 l := by
  induction l with
  | nil => rfl
  | cons c r ih =>
    by_cases h : c = 48
    · subst h
      rw [strip_zero, ih, val_cons]
      rfl
    · rw [strip_other c r h]

theorem strip_head (l : List UInt8) (c : UInt8) (r : List UInt8) : strip l = c :: r → c ≠ 48 := by
  induction l with
  | nil => intro h; cases h
  | cons d l ih =>
    intro h
    by_cases hd : d = 48
    · subst hd
      rw [strip_zero] at h
      exact ih h
    · rw [strip_other d l hd] at h
      injection h with h1 h2
      subst h1
      exact hd

theorem strip_mem (l : List UInt8) (c : UInt8) : c ∈ strip l → c ∈ l := by
  induction l with
  | nil => intro h; exact h
  | cons d l ih =>
    intro h
    by_cases hd : d = 48
    · subst hd
      rw [strip_zero] at h
      exact List.mem_cons_of_mem _ (ih h)
    · rw [strip_other d l hd] at h
      exact h

theorem strip_len (l : List UInt8) : (strip l).length ≤ l.length := by
  induction l with
  | nil => exact Nat.le_refl _
  | cons d l ih =>
    by_cases hd : d = 48
    · subst hd
      rw [strip_zero, List.length_cons]
      omega
    · rw [strip_other d l hd]
      exact Nat.le_refl _

/-! ### how long a numeral without leading zeros is -/
theorem val_lead (c : UInt8) (r : List UInt8) (hc : isDig c = true) (h : c ≠ 48) : 10 ^ r.length ≤ val 0 (c :: r) := by
  simp only [isDig, decide_eq_true_eq] at hc
  have h1 : c.toNat ≠ 48 := fun e => h (UInt8.toNat_inj.1 e)
  rw [val_cons, val_pow]
  have h2 : 1 ≤ 0 * 10 + (c.toNat - 48) := by omega
  have := Nat.mul_le_mul_right (10 ^ r.length) h2
  omega

theorem pow19 : (10 : Nat) ^ 19 = 10000000000000000000 := by decide
theorem pow20 : (10 : Nat) ^ 20 = 100000000000000000000 := by decide

theorem long_over (l : List UInt8) (hd : ∀ c ∈ l, isDig c = true) (h : 20 < (strip l).length) : maxU < val 0 l := by
  rw [← val_strip]
  match hs : strip l, h with
  | [], h => simp at h
  | c :: r, h =>
    have hc := hd c (strip_mem l c (by rw [hs]; exact List.mem_cons_self ..))
    have h1 := val_lead c r hc (strip_head l c r hs)
    rw [List.length_cons] at h
    have h2 : (10 : Nat) ^ 20 ≤ 10 ^ r.length := Nat.pow_le_pow_right (by decide) (by omega)
    have h3 := pow20
    unfold maxU
    omega

theorem short_fits (l : List UInt8) (hd : ∀ c ∈ l, isDig c = true) (h : (strip l).length < 20) : val 0 l ≤ maxU := by
  rw [← val_strip]
  have h1 := val_lt (strip l) (fun c hc => hd c (strip_mem l c hc))
  have h2 : (10 : Nat) ^ (strip l).length ≤ 10 ^ 19 := Nat.pow_le_pow_right (by decide) (by omega)
  have h3 := pow19
  unfold maxU
  omega

/-- A numeral that fits has at most twenty digits behind its leading zeros. -/
theorem fits_len (l : List UInt8) (hd : ∀ c ∈ l, isDig c = true) (h : val 0 l ≤ maxU) : (strip l).length ≤ 20 := by
  by_cases hl : 20 < (strip l).length
  · have := long_over l hd hl
    omega
  · omega

/-! ### byte by byte against the greatest uint64's digits -/
def maxT : List UInt8 := [49, 56, 52, 52, 54, 55, 52, 52, 48, 55, 51, 55, 48, 57, 53, 53, 49, 54, 49, 53]
theorem maxT_val : val 0 maxT = maxU := by kernel_rfl
theorem maxT_dig : ∀ c ∈ maxT, isDig c = true := by decide
theorem maxT_len : maxT.length = 20 := rfl

/-- Two numerals of one length that part first at x, y: the greater byte has the greater number. -/
theorem part_lt (p : List UInt8) (x y : UInt8) (r q : List UInt8) (hx : isDig x = true) (hy : isDig y = true) (hr : ∀ c ∈ r, isDig c = true) (hl : r.length = q.length) (h : x.toNat < y.toNat) :
    val 0 (p ++ x :: r) < val 0 (p ++ y :: q) := by
  simp only [isDig, decide_eq_true_eq] at hx hy
  rw [val_append, val_append, val_cons, val_cons, val_pow r, val_pow q, hl]
  have h1 := val_lt r hr
  rw [hl] at h1
  have h2 : val 0 p * 10 + (x.toNat - 48) + 1 ≤ val 0 p * 10 + (y.toNat - 48) := by omega
  have h3 := Nat.mul_le_mul_right (10 ^ q.length) h2
  rw [Nat.add_mul _ 1, Nat.one_mul] at h3
  omega

/-- The first k bytes of t are the first k of maxT, and then they part. -/
theorem part_over (l : List UInt8) (hd : ∀ c ∈ l, isDig c = true) (hlen : (strip l).length = 20) (k : Nat) (he : (strip l).take k = maxT.take k) (x y : UInt8) (hx : (strip l)[k]? = some x) (hy : maxT[k]? = some y) (hxy : x ≠ y) :
    (maxU < val 0 l ↔ y.toNat < x.toNat) := by
  have hx' := List.getElem?_eq_some_iff.1 hx
  have hy' := List.getElem?_eq_some_iff.1 hy
  obtain ⟨hkx, hx'⟩ := hx'
  obtain ⟨hky, hy'⟩ := hy'
  have e1 : strip l = (strip l).take k ++ x :: (strip l).drop (k + 1) := by
    rw [← hx', ← List.drop_eq_getElem_cons hkx, List.take_append_drop]
  have e2 : maxT = (strip l).take k ++ y :: maxT.drop (k + 1) := by
    rw [he, ← hy', ← List.drop_eq_getElem_cons hky, List.take_append_drop]
  have hds : ∀ c ∈ strip l, isDig c = true := fun c hc => hd c (strip_mem l c hc)
  have hdx : isDig x = true := hds x (by rw [← hx']; exact List.getElem_mem _)
  have hdy : isDig y = true := maxT_dig y (by rw [← hy']; exact List.getElem_mem _)
  have hq : ((strip l).drop (k + 1)).length = (maxT.drop (k + 1)).length := by
    rw [List.length_drop, List.length_drop, hlen, maxT_len]
  have hne : x.toNat ≠ y.toNat := fun e => hxy (UInt8.toNat_inj.1 e)
  constructor
  · intro h
    by_cases hc : y.toNat < x.toNat
    · exact hc
    · exfalso
      have h1 := part_lt ((strip l).take k) x y _ _ hdx hdy (fun c hc => hds c (List.mem_of_mem_drop hc)) hq (by omega)
      rw [← e1, ← e2, val_strip, maxT_val] at h1
      omega
  · intro h
    have h1 := part_lt ((strip l).take k) y x _ _ hdy hdx (fun c hc => maxT_dig c (List.mem_of_mem_drop hc)) hq.symm h
    rw [← e1, ← e2, val_strip, maxT_val] at h1
    exact h1

theorem same_fits (l : List UInt8) (he : strip l = maxT) : ¬ maxU < val 0 l := by
  rw [← val_strip, he, maxT_val]
  exact Nat.lt_irrefl _

end Go.Proofs.Qxb6601801aDoor
