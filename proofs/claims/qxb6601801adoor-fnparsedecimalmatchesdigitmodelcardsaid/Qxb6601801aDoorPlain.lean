/-
  The plain mathematics of both laws: decimal numerals as lists of bytes. No Go in sight.
-/
import Derived.Lib.ParseIntB
namespace Go.Proofs.Qxb6601801aDoor

/-- The greatest uint64. -/
def maxU : Nat := 18446744073709551615

/-- Is the byte an ASCII digit? -/
def isDig (c : UInt8) : Bool := decide (48 ≤ c.toNat ∧ c.toNat ≤ 57)

/-- What the digits spell behind 'acc'. -/
def val (acc : Nat) : List UInt8 → Nat
  | [] => acc
  | c :: r => val (acc * 10 + (c.toNat - 48)) r

theorem val_nil (acc : Nat) : val acc [] = acc := rfl
theorem val_cons (acc : Nat) (c : UInt8) (r : List UInt8) : val acc (c :: r) = val (acc * 10 + (c.toNat - 48)) r := by
  conv => lhs; unfold val

theorem val_ge (l : List UInt8) : ∀ acc : Nat, acc ≤ val acc l := by
  induction l with
  | nil => intro acc; exact Nat.le_refl _
  | cons c r ih =>
    intro acc
    have := ih (acc * 10 + (c.toNat - 48))
    rw [val_cons]
    omega

theorem val_append (l r : List UInt8) : ∀ acc : Nat, val acc (l ++ r) = val (val acc l) r := by
  induction l with
  | nil => intro acc; rfl
  | cons c l ih =>
    intro acc
    rw [List.cons_append, val_cons, val_cons]
    exact ih _

theorem val_pow (l : List UInt8) : ∀ acc : Nat, val acc l = acc * 10 ^ l.length + val 0 l := by
  induction l with
  | nil =>
    intro acc
    rw [val_nil, val_nil, List.length_nil]
    omega
  | cons c r ih =>
    intro acc
    have h1 := ih (acc * 10 + (c.toNat - 48))
    have h2 := ih (0 * 10 + (c.toNat - 48))
    rw [val_cons, val_cons, h1, h2, List.length_cons, Nat.pow_succ]
    simp only [Nat.zero_mul, Nat.zero_add, Nat.add_mul]
    rw [Nat.mul_assoc, Nat.mul_comm 10 (10 ^ r.length), Nat.add_assoc]

theorem val_lt (l : List UInt8) : (∀ c ∈ l, isDig c = true) → val 0 l < 10 ^ l.length := by
  induction l with
  | nil => intro _; decide
  | cons c r ih =>
    intro h
    have ih := ih (fun x hx => h x (List.mem_cons_of_mem _ hx))
    have hc := h c (List.mem_cons_self ..)
    simp only [isDig, decide_eq_true_eq] at hc
    rw [val_cons, val_pow, List.length_cons, Nat.pow_succ]
    have hd : 0 * 10 + (c.toNat - 48) ≤ 9 := by omega
    have := Nat.mul_le_mul_right (10 ^ r.length) hd
    omega

/-! ### strconv's loop -/
theorem maxU_eq : 2 ^ 64 - 1 = maxU := by decide

/-- All digits, and it fits: the value. -/
theorem parse_fits (l : List UInt8) : ∀ acc : Nat, (∀ c ∈ l, isDig c = true) → val acc l ≤ maxU → Lib.parseUintM maxU acc l = .ok (val acc l) := by
  induction l with
  | nil => intro acc _ _; rfl
  | cons c r ih =>
    intro acc h hv
    have hc := h c (List.mem_cons_self ..)
    simp only [isDig, decide_eq_true_eq] at hc
    rw [val_cons] at hv ⊢
    have hg := val_ge r (acc * 10 + (c.toNat - 48))
    unfold Lib.parseUintM
    rw [if_pos hc, if_neg (by unfold maxU at *; omega), if_neg (by omega)]
    exact ih _ (fun x hx => h x (List.mem_cons_of_mem _ hx)) hv

/-- Digits that do not fit at the head: out of range, whatever stands behind. -/
theorem parse_over (l r : List UInt8) : ∀ acc : Nat, acc ≤ maxU → (∀ c ∈ l, isDig c = true) → maxU < val acc l → Lib.parseUintM maxU acc (l ++ r) = .range := by
  induction l with
  | nil =>
    intro acc ha _ hv
    rw [val_nil] at hv
    omega
  | cons c l ih =>
    intro acc ha h hv
    have hc := h c (List.mem_cons_self ..)
    simp only [isDig, decide_eq_true_eq] at hc
    rw [val_cons] at hv
    rw [List.cons_append]
    unfold Lib.parseUintM
    rw [if_pos hc]
    by_cases h1 : 1844674407370955162 ≤ acc
    · rw [if_pos h1]
    · rw [if_neg h1]
      by_cases h2 : maxU < acc * 10 + (c.toNat - 48)
      · rw [if_pos h2]
      · rw [if_neg h2]
        exact ih _ (by omega) (fun x hx => h x (List.mem_cons_of_mem _ hx)) hv

/-- Digits that fit, and then a byte that is none: neither a value nor out of range. -/
theorem parse_fault (l : List UInt8) (c : UInt8) (r : List UInt8) (hc : isDig c = false) : ∀ acc : Nat, (∀ c ∈ l, isDig c = true) → val acc l ≤ maxU →
    (∀ u, Lib.parseUintM maxU acc (l ++ c :: r) ≠ .ok u) ∧ Lib.parseUintM maxU acc (l ++ c :: r) ≠ .range := by
  induction l with
  | nil =>
    intro acc _ _
    simp only [isDig, decide_eq_false_iff_not] at hc
    rw [List.nil_append]
    unfold Lib.parseUintM
    rw [if_neg hc]
    exact ⟨fun u h => (by cases h), fun h => (by cases h)⟩
  | cons d l ih =>
    intro acc h hv
    have hd := h d (List.mem_cons_self ..)
    simp only [isDig, decide_eq_true_eq] at hd
    rw [val_cons] at hv
    have hg := val_ge l (acc * 10 + (d.toNat - 48))
    rw [List.cons_append]
    unfold Lib.parseUintM
    rw [if_pos hd, if_neg (by unfold maxU at *; omega), if_neg (by omega)]
    exact ih _ (fun x hx => h x (List.mem_cons_of_mem _ hx)) hv

theorem parseB_fits (l : List UInt8) (h0 : l ≠ []) (h : ∀ c ∈ l, isDig c = true) (hv : val 0 l ≤ maxU) : Lib.parseUintB 64 l = .ok (val 0 l) := by
  unfold Lib.parseUintB
  rw [if_neg h0, maxU_eq]
  exact parse_fits l 0 h hv

theorem parseB_over (l r : List UInt8) (h : ∀ c ∈ l, isDig c = true) (hv : maxU < val 0 l) : Lib.parseUintB 64 (l ++ r) = .range := by
  have h0 : l ++ r ≠ [] := by
    intro e
    have e1 : l = [] := (List.append_eq_nil_iff.1 e).1
    subst e1
    rw [val_nil] at hv
    omega
  unfold Lib.parseUintB
  rw [if_neg h0, maxU_eq]
  exact parse_over l r 0 (Nat.zero_le _) h hv

theorem parseB_fault (l : List UInt8) (c : UInt8) (r : List UInt8) (h : ∀ c ∈ l, isDig c = true) (hv : val 0 l ≤ maxU) (hc : isDig c = false) :
    (∀ u, Lib.parseUintB 64 (l ++ c :: r) ≠ .ok u) ∧ Lib.parseUintB 64 (l ++ c :: r) ≠ .range := by
  have h0 : l ++ c :: r ≠ [] := by simp
  unfold Lib.parseUintB
  rw [if_neg h0, maxU_eq]
  exact parse_fault l c r hc 0 h hv

theorem parseB_empty : (∀ u, Lib.parseUintB 64 [] ≠ .ok u) ∧ Lib.parseUintB 64 [] ≠ .range := by
  unfold Lib.parseUintB
  rw [if_pos rfl]
  exact ⟨fun u h => (by cases h), fun h => (by cases h)⟩

/-! ### zzRender: the digits, from the right -/
/-- One round: the last digit of m goes in front of l. -/
def digitOf (m : Nat) : UInt8 := UInt8.ofNat (48 + m % 10)
theorem digitOf_toNat (m : Nat) : (digitOf m).toNat = 48 + m % 10 := by
  unfold digitOf
  rw [UInt8.toNat_ofNat']
  omega
theorem digitOf_dig (m : Nat) : isDig (digitOf m) = true := by
  unfold isDig
  rw [digitOf_toNat, decide_eq_true_eq]
  omega
theorem val_round (m : Nat) (l : List UInt8) : val (m / 10) (digitOf m :: l) = val m l := by
  rw [val_cons, digitOf_toNat, show m / 10 * 10 + (48 + m % 10 - 48) = m by omega]
/-- What is left of a uint64 behind so many digits. -/
theorem left_pos (m n : Nat) (l : List UInt8) (hv : val m l = n) (hn : n ≤ maxU) (hm : l ≠ [] → 1 ≤ m) : l.length ≤ 19 := by
  by_cases h0 : l = []
  · subst h0; simp
  · have h1 := hm h0
    have hp := val_pow l m
    have hm1 := Nat.mul_le_mul_right (10 ^ l.length) h1
    by_cases h : l.length ≤ 19
    · exact h
    · exfalso
      have h20 : 10 ^ 20 ≤ 10 ^ l.length := Nat.pow_le_pow_right (by decide) (by omega)
      have e20 : (10 : Nat) ^ 20 = 100000000000000000000 := by decide
      unfold maxU at hn
      omega

end Go.Proofs.Qxb6601801aDoor
