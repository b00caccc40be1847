/-
  zzDigitsValue (11): its contract.
-/
import Derived.Test.Qxb6601801aDoorDigits
import Derived.Laws.Bits64
namespace Go.Proofs.Qxb6601801aDoor
open Go.RowKit

theorem wrap_fits (x : Int) (h0 : 0 ≤ x) (h1 : x ≤ 18446744073709551615) : IntKind.u64.wrap x = x := by
  rw [IntKind.wrap_u64]
  omega

theorem val_drop_le (l : List UInt8) (j : Nat) : val 0 (l.drop j) ≤ val 0 l := by
  have h : val 0 l = val 0 (l.take j ++ l.drop j) := by rw [List.take_append_drop]
  rw [h, val_append, val_pow (l.drop j) (val 0 (l.take j))]
  exact Nat.le_add_left _ _

theorem byte_dig (t : ByteArray) (HD : ∀ c ∈ t.data.toList, isDig c = true) (j : Nat) (hj : j < t.size) : 48 ≤ t[j].toNat ∧ t[j].toNat ≤ 57 := by
  have h := HD t[j] (List.mem_iff_getElem.2 ⟨j, by rw [← Lib.size_eq]; exact hj, rfl⟩)
  simpa [isDig] using h

/-- One round, from the right. -/
theorem value_step (t : ByteArray) (ht : t.size ≤ 20) (HD : ∀ c ∈ t.data.toList, isDig c = true) (HV : val 0 t.data.toList ≤ maxU) (j : Nat) (hj : j < t.size) (c vv pp : Int) (hc : (t[j].toNat : Int) = c)
    (hv : vv = val 0 (t.data.toList.drop (j + 1))) (hp : pp = (10 ^ (t.size - (j + 1)) : Nat)) :
    IntKind.u64.wrap (vv + IntKind.u64.wrap ((c - 48) * pp)) = val 0 (t.data.toList.drop j) ∧ (1 ≤ j → IntKind.u64.wrap (pp * 10) = (10 ^ (t.size - j) : Nat)) := by
  obtain ⟨d0, d1⟩ := byte_dig t HD j hj
  have hlen : (t.data.toList.drop (j + 1)).length = t.size - (j + 1) := by rw [List.length_drop, ← Lib.size_eq]
  have e1 : val 0 (t.data.toList.drop j) = (t[j].toNat - 48) * 10 ^ (t.size - (j + 1)) + val 0 (t.data.toList.drop (j + 1)) := by
    rw [drop_at t j hj, val_cons, val_pow, hlen]
    simp only [Nat.zero_mul, Nat.zero_add]
  have e2 := val_drop_le t.data.toList j
  have e3 : (c - 48) * pp = (((t[j].toNat - 48) * 10 ^ (t.size - (j + 1)) : Nat) : Int) := by
    rw [hp, ← hc, Int.natCast_mul, Int.natCast_sub d0]
    rfl
  unfold maxU at HV
  constructor
  · have w1 := wrap_fits (((t[j].toNat - 48) * 10 ^ (t.size - (j + 1)) : Nat) : Int) (by omega) (by omega)
    have w2 := wrap_fits ((val 0 (t.data.toList.drop (j + 1)) : Int) + (((t[j].toNat - 48) * 10 ^ (t.size - (j + 1)) : Nat) : Int)) (by omega) (by omega)
    rw [e3, w1, hv, w2, e1]
    omega
  · intro h1
    have h19 : (10 : Nat) ^ (t.size - j) ≤ 10 ^ 19 := Nat.pow_le_pow_right (by decide) (by omega)
    have e4 : (10 : Nat) ^ (t.size - j) = 10 ^ (t.size - (j + 1)) * 10 := by
      rw [← Nat.pow_succ]
      congr 1
      omega
    have := pow19
    rw [hp, wrap_fits _ (by omega) (by omega), e4]
    omega

theorem ret_int {k : IntKind} {a b : Int} (h : a = b) : Ending.returned (.int k a) = .returned (.int k b) := by rw [h]

set_option maxHeartbeats 400000 in
/-- zzDigitsValue at digits that fit: their number. -/
theorem value_any (t : ByteArray) (ht : t.size ≤ 20) (HD : Hid (∀ c ∈ t.data.toList, isDig c = true)) (HV : Hid (val 0 t.data.toList ≤ maxU)) (w : World) :
    Calls Tryd.prog 11 #[.string t] w fun e w' => e = .returned (.int .u64 (val 0 t.data.toList)) ∧ w' = w := by
  go_enter Tryd.func11, Tryd.ntmps11
  go_wp2
  go_loop [3, 4, 5] (fun v p i => ∃ (k : Nat) (vv pp ii : Int), k ≤ t.size ∧ v = .int .u64 vv ∧ p = .int .u64 pp ∧ i = .int .i64 ii ∧ -1 ≤ ii ∧ ii ≤ 19 ∧ Hid (ii = (k : Int) - 1 ∧ vv = val 0 (t.data.toList.drop k) ∧ (1 ≤ k → pp = (10 ^ (t.size - k) : Nat)))) (fun _ _ i => (intOf i + 1).toNat)
  case atStart =>
    refine ⟨t.size, 0, 1, (t.size : Int) - 1, Nat.le_refl _, rfl, rfl, rfl, by omega, by omega, rfl, ?_, ?_⟩
    · rw [List.drop_eq_nil_of_le (by rw [← Lib.size_eq]; exact Nat.le_refl _)]
      rfl
    · intro _
      rw [Nat.sub_self]
      rfl
  case round =>
    obtain ⟨k, vv, pp, ii, hk, rfl, rfl, rfl, i0, i1, HI⟩ := hrel
    rcases k with _ | j
    · obtain rfl : ii = -1 := by have := HI.out.1; omega
      go_wp2
      go_ret
      exact ⟨ret_int HI.out.2.1, rfl⟩
    · obtain rfl : ii = (j : Int) := by have := HI.out.1; omega
      have hj : j < t.size := by omega
      obtain ⟨c, hc, c0, c1⟩ : ∃ c : Int, (t[j].toNat : Int) = c ∧ 48 ≤ c ∧ c ≤ 57 := ⟨_, rfl, by have := byte_dig t HD.out j hj; omega, by have := byte_dig t HD.out j hj; omega⟩
      have HC : Hid ((t[j].toNat : Int) = c) := hc
      go_wp2
      go_round
      case rel =>
        obtain ⟨s1, s2⟩ := value_step t ht HD.out HV.out j hj c vv pp HC.out HI.out.2.1 (HI.out.2.2 (by omega))
        exact ⟨j, _, _, (j : Int) - 1, by omega, rfl, rfl, rfl, by omega, by omega, rfl, s1, s2⟩
      case measure => simp [intOf]
end Go.Proofs.Qxb6601801aDoor
