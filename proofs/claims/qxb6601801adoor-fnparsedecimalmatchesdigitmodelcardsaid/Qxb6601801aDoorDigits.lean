/-
  zzStripZeros (10), zzDigitsExceedMax (9), zzDigitsValue (11): their contracts.
-/
import Derived.Test.Qxb6601801aDoorRows
import Derived.Test.Qxb6601801aDoorPlain2
import Derived.WalkKit
import Derived.ProofKit
import Derived.WalkSpells
import Derived.Lib.Strings
import Derived.Deep.QuietTactic
import Derived.BigQuiet
namespace Go.Proofs.Qxb6601801aDoor
open Go.RowKit

theorem ret_str {a b : ByteArray} (h : a = b) : Ending.returned (.string a) = .returned (.string b) := by rw [h]

theorem drop_at (s : ByteArray) (k : Nat) (h : k < s.size) : s.data.toList.drop k = s[k] :: s.data.toList.drop (k + 1) :=
  List.drop_eq_getElem_cons (by simpa using h)

theorem extract_drop (s : ByteArray) (k : Nat) : s.extract k s.size = ⟨(s.data.toList.drop k).toArray⟩ := by
  rw [Lib.extract_eq]
  congr 2
  exact List.take_of_length_le (by simp)

set_option maxHeartbeats 400000 in
theorem strip_any (d : ByteArray) (hs : d.size ≤ 1048576) (w : World) :
    Calls Tryd.prog 10 #[.string d] w fun e w' => e = .returned (.string ⟨(strip d.data.toList).toArray⟩) ∧ w' = w := by
  go_enter Tryd.func10, Tryd.ntmps10
  go_wp2
  go_loop [3] (fun i => ∃ k : Nat, k ≤ d.size ∧ i = .int .i64 k ∧ Hid (strip (d.data.toList.drop k) = strip d.data.toList)) (fun i => d.size - (intOf i).toNat)
  case atStart => exact ⟨0, Nat.zero_le _, rfl, rfl⟩
  case round =>
    obtain ⟨k, hk, rfl, HI⟩ := hrel
    by_cases hlt : k < d.size
    · have hdrop : Hid (d.data.toList.drop k = d[k] :: d.data.toList.drop (k + 1)) := drop_at d k hlt
      by_cases hz : ((d[k]'hlt).toNat : Int) = 48
      · go_wp2
        go_round
        case rel =>
          refine ⟨k + 1, by omega, by go_num, ?_⟩
          have e := HI.out
          rw [hdrop.out, show d[k] = 48 from UInt8.toNat_inj.1 (by show d[k].toNat = 48; omega), strip_zero] at e
          exact e
        case measure => simp [intOf]; omega
      · go_wp2
        go_ret
        refine ⟨ret_str ?_, rfl⟩
        have e := HI.out
        rw [hdrop.out, strip_other _ _ (fun e => hz (by rw [e]; rfl)), ← hdrop.out] at e
        rw [← e, extract_drop]
    · go_wp2
      go_ret
      refine ⟨ret_str ?_, rfl⟩
      have e := HI.out
      have e0 : d.data.toList.drop k = [] := List.drop_eq_nil_of_le (by rw [← Lib.size_eq]; omega)
      rw [e0, strip_nil] at e
      rw [← e, extract_drop, e0]

/-- zzStripZeros, its answer under a name. -/
theorem strip_s (d : ByteArray) (hs : d.size ≤ 1048576) (w : World) :
    Calls Tryd.prog 10 #[.string d] w fun e w' => ∃ t : ByteArray, e = .returned (.string t) ∧ Hid (t.data.toList = strip d.data.toList) ∧ t.size ≤ d.size ∧ w' = w := by
  refine (strip_any d hs w).mono ?_
  rintro e w' ⟨rfl, rfl⟩
  refine ⟨_, rfl, rfl, ?_, rfl⟩
  rw [Lib.size_eq, Lib.size_eq]
  exact strip_len _

theorem ret_bool {a b : Bool} (h : a = b) : Ending.returned (.bool a) = .returned (.bool b) := by rw [h]

/-- The constant's k-th byte. -/
theorem max_index (k : Nat) (y : UInt8) (hy : maxT[k]? = some y) (wx : World) :
    (Instr.index 9 (.string ⟨#[49, 56, 52, 52, 54, 55, 52, 52, 48, 55, 51, 55, 48, 57, 53, 53, 49, 54, 49, 53]⟩) (.int .i64 (k : Int))).run Tryd.prog wx = .ok (.int .u8 (y.toNat : Int)) wx := by
  obtain ⟨hk, hy'⟩ := List.getElem?_eq_some_iff.1 hy
  have hk' : k < 20 := hk
  rw [run_index_string (P := Tryd.prog) (w := wx) 9 _ .i64 (k : Int) Tryd.underlying9, dif_pos (by show 0 ≤ (k : Int) ∧ (k : Int) < 20; omega)]
  rw [← hy']
  rfl

/-- What the two ends of the comparison say. -/
theorem exceed_part (d t : ByteArray) (HD : ∀ c ∈ d.data.toList, isDig c = true) (HT : t.data.toList = strip d.data.toList) (h20 : t.size = 20) (k : Nat) (hk : k < t.size) (he : t.data.toList.take k = maxT.take k) (y : UInt8) (hy : maxT[k]? = some y) (hxy : (t[k].toNat : Int) ≠ (y.toNat : Int)) :
    decide (y.toNat < t[k].toNat) = decide (maxU < val 0 d.data.toList) := by
  have h1 := part_over d.data.toList HD (by rw [← HT, ← Lib.size_eq]; exact h20) k (by rw [← HT]; exact he) t[k] y (by rw [← HT]; exact List.getElem?_eq_some_iff.2 ⟨by rw [← Lib.size_eq]; exact hk, rfl⟩) hy (fun e => hxy (by rw [e]))
  rw [decide_eq_decide, h1]

theorem exceed_same (d t : ByteArray) (HT : t.data.toList = strip d.data.toList) (h20 : t.size = 20) (he : t.data.toList.take 20 = maxT.take 20) : decide (maxU < val 0 d.data.toList) = false := by
  have e1 : t.data.toList.take 20 = t.data.toList := List.take_of_length_le (by rw [← Lib.size_eq]; omega)
  have e2 : maxT.take 20 = maxT := rfl
  rw [e1, e2, HT] at he
  exact decide_eq_false (same_fits _ he)

theorem exceed_len (d t : ByteArray) (HD : ∀ c ∈ d.data.toList, isDig c = true) (HT : t.data.toList = strip d.data.toList) (h20 : t.size ≠ 20) : decide ((20 : Int) < (t.size : Int)) = decide (maxU < val 0 d.data.toList) := by
  have e : t.size = (strip d.data.toList).length := by rw [Lib.size_eq, HT]
  rw [decide_eq_decide]
  by_cases h : 20 < t.size
  · have := long_over d.data.toList HD (by omega)
    omega
  · have := short_fits d.data.toList HD (by omega)
    omega

theorem take_step (t : ByteArray) (k : Nat) (hk : k < t.size) (he : t.data.toList.take k = maxT.take k) (y : UInt8) (hy : maxT[k]? = some y) (hxy : (t[k].toNat : Int) = (y.toNat : Int)) : t.data.toList.take (k + 1) = maxT.take (k + 1) := by
  obtain ⟨hk', hy'⟩ := List.getElem?_eq_some_iff.1 hy
  have e1 : t[k] = y := UInt8.toNat_inj.1 (by omega)
  rw [List.take_succ_eq_append_getElem (by rw [← Lib.size_eq]; exact hk), List.take_succ_eq_append_getElem hk', he, hy', ← e1]
  rfl

set_option maxHeartbeats 400000 in
/-- zzDigitsExceedMax at digits: is the number above the greatest uint64? -/
theorem exceed_any (d : ByteArray) (hs : d.size ≤ 1048576) (HD : Hid (∀ c ∈ d.data.toList, isDig c = true)) (w : World) :
    Calls Tryd.prog 9 #[.string d] w fun e w' => e = .returned (.bool (decide (maxU < val 0 d.data.toList))) ∧ ∃ n, w' = w.drewN n := by
  go_enter Tryd.func9, Tryd.ntmps9
  go_wp2_with fail
  refine (strip_s d hs _).mono ?_
  rintro e w1 ⟨t, rfl, HT, hts, rfl⟩
  by_cases h20 : t.size = 20
  · have hne : ((t.size : Int) != 20) = false := by simp [h20]
    have g1 : t.size ≤ 20 := by omega
    have g2 : 20 ≤ t.size := by omega
    clear h20
    go_wp2_with fail
    go_loopw [4] (fun i wr => ∃ k q : Nat, k ≤ 20 ∧ i = .int .i64 k ∧ wr = w1.drewN q ∧ Hid (t.data.toList.take k = maxT.take k)) (fun i _ => 20 - (intOf i).toNat)
    case atStart => exact ⟨0, 0, Nat.zero_le _, rfl, rfl, rfl⟩
    case round =>
      obtain ⟨k, q, hk, rfl, rfl, HI⟩ := hrel
      by_cases hlt : k < 20
      · have hlt' : k < t.size := by omega
        obtain ⟨y, HY⟩ : ∃ y, Hid (maxT[k]? = some y) := ⟨maxT[k]'hlt, List.getElem?_eq_getElem hlt⟩
        have hidx := max_index k y HY.out
        by_cases hxy : (t[k].toNat : Int) = (y.toNat : Int)
        · have hb : ((t[k].toNat : Int) != (y.toNat : Int)) = false := by simp [hxy]
          have HX : Hid ((t[k].toNat : Int) = (y.toNat : Int)) := hxy
          clear hxy
          go_wp2
          go_quiet (fail)
          go_wp2
          go_roundw
          case rel => exact ⟨k + 1, _, by omega, by go_num, by first | rfl | (simp; rfl), take_step t k hlt' HI.out y HY.out HX.out⟩
          case measure => simp [intOf]; omega
        · have hb : ((t[k].toNat : Int) != (y.toNat : Int)) = true := by simpa using hxy
          have HX : Hid ((t[k].toNat : Int) ≠ (y.toNat : Int)) := hxy
          clear hxy
          go_wp2
          go_quiet (fail)
          go_wp2
          go_quiet (fail)
          go_wp2
          go_ret
          exact ⟨ret_bool (exceed_part d t HD.out HT.out (by omega) k hlt' HI.out y HY.out HX.out), _, by rw [World.drewN_drewN, World.drewN_drewN]⟩
      · have hlt' : ¬ k < t.size := by omega
        have hk20 : k = 20 := by omega
        subst hk20
        go_wp2
        go_ret
        exact ⟨ret_bool (exceed_same d t HT.out (by omega) HI.out).symm, q, rfl⟩
  · have hne : ((t.size : Int) != 20) = true := by simp; omega
    have HN : Hid (t.size ≠ 20) := h20
    clear h20
    go_wp2_with fail
    go_ret
    exact ⟨ret_bool (exceed_len d t HD.out HT.out HN.out), 0, rfl⟩
end Go.Proofs.Qxb6601801aDoor
