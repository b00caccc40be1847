/-
  The contracts of the functions on the road of both laws of this seat: strings.CutPrefix (after the shelf's template), client.leaderOf, client.ZZleaderOf.
-/
import Derived.Test.Qxb6601471aRows
import Derived.WalkKit
import Derived.ProofKit
import Derived.Lib.Strings
import Derived.Lib.Slices
import Derived.Lib.Walk
namespace Go.Proofs.Qxb6601471a

set_option maxHeartbeats 1000000 in
/-- strings.CutPrefix: (s without it, and whether s had it). -/
theorem cutPrefix (s p : ByteArray) (w : World) :
    Calls Try.prog 9 #[.string s, .string p] w fun e w' => e = .returned (.tuple #[.string ⟨(Lib.trimPrefix s.data.toList p.data.toList).toArray⟩, .bool (Lib.hasPrefix s.data.toList p.data.toList)]) ∧ w' = w := by
  go_enter Try.func9, Try.ntmps9
  go_wp2
  · have h2 : (!((s.extract 0 p.size).toList == p.toList)) = true := by assumption
    have h3 : (decide (p.size ≤ s.size) && ((s.extract 0 p.size).toList == p.toList)) = false := by
      have : ((s.extract 0 p.size).toList == p.toList) = false := by simpa using h2
      rw [this]
      simp
    go_ret2
    refine ⟨?_, rfl⟩
    rw [Lib.trimPrefix_miss s p h3, ← Lib.hasPrefix_raw, h3]
    rfl
  · have h1 : p.size ≤ s.size := by assumption
    have h2 : (!((s.extract 0 p.size).toList == p.toList)) = false := by assumption
    have h2' : ((s.extract 0 p.size).toList == p.toList) = true := by simpa using h2
    go_ret2
    refine ⟨?_, rfl⟩
    rw [Lib.trimPrefix_hit s p h1 h2', ← Lib.hasPrefix_raw, h2', decide_eq_true h1]
    rfl
  · have h1 : ¬ p.size ≤ s.size := by assumption
    have h3 : (decide (p.size ≤ s.size) && ((s.extract 0 p.size).toList == p.toList)) = false := by simp [h1]
    go_ret2
    refine ⟨?_, rfl⟩
    rw [Lib.trimPrefix_miss s p h3, ← Lib.hasPrefix_raw, h3]
    rfl

/-- The word, and the word with a blank behind it. -/
def word : List UInt8 := [78, 79, 84, 76, 69, 65, 68, 69, 82]
def wordSp : List UInt8 := [78, 79, 84, 76, 69, 65, 68, 69, 82, 32]

/-- client.ZZleaderOf at a text that is not the bare word: strings.CutPrefix of it. -/
theorem leader_other (s : ByteArray) (h : (s.toList == [78, 79, 84, 76, 69, 65, 68, 69, 82]) = false) (w : World) :
    Calls Try.prog 6 #[.string s] w fun e w' => e = .returned (.tuple #[.string ⟨(Lib.trimPrefix s.data.toList wordSp).toArray⟩, .bool (Lib.hasPrefix s.data.toList wordSp)]) ∧ w' = w := by
  go_enter Try.func6, Try.ntmps6
  go_wp2_with (first | (go_at_call 8; go_in) | (go_at_call 9; refine (cutPrefix _ _ _).mono ?_; rintro e w' ⟨rfl, rfl⟩))
  go_ret2
  exact ⟨rfl, rfl⟩

/-- client.ZZleaderOf at the bare word: no leader is named. -/
theorem leader_bare (w : World) :
    Calls Try.prog 6 #[.string ⟨#[78, 79, 84, 76, 69, 65, 68, 69, 82]⟩] w fun e w' => e = .returned (.tuple #[.string ⟨#[]⟩, .bool true]) ∧ w' = w := by
  go_enter Try.func6, Try.ntmps6
  go_wp2
  go_ret2
  exact ⟨rfl, rfl⟩

/-- "NOTLEADER " ++ a: recognised, and the address is a. -/
theorem leader_hit (a : ByteArray) (w : World) :
    Calls Try.prog 6 #[.string (⟨#[78, 79, 84, 76, 69, 65, 68, 69, 82, 32]⟩ ++ a)] w fun e w' => e = .returned (.tuple #[.string a, .bool true]) ∧ w' = w := by
  obtain ⟨⟨l⟩⟩ := a
  have hd : ((⟨#[78, 79, 84, 76, 69, 65, 68, 69, 82, 32]⟩ : ByteArray) ++ ⟨⟨l⟩⟩).data.toList = wordSp ++ l := by simp [wordSp]
  have h : (((⟨#[78, 79, 84, 76, 69, 65, 68, 69, 82, 32]⟩ : ByteArray) ++ ⟨⟨l⟩⟩).toList == [78, 79, 84, 76, 69, 65, 68, 69, 82]) = false := by
    rw [Lib.toList_data, hd, beq_eq_false_iff_ne]
    intro e
    have := congrArg List.length e
    simp [wordSp] at this
  have hp : Lib.hasPrefix (wordSp ++ l) wordSp = true := by
    unfold Lib.hasPrefix
    simp [List.isPrefixOf_iff_prefix]
  have ht : Lib.trimPrefix (wordSp ++ l) wordSp = l := by
    unfold Lib.trimPrefix
    rw [if_pos hp]
    simp
  refine (leader_other _ h w).mono ?_
  rintro e w' ⟨rfl, rfl⟩
  rw [hd, hp, ht]
  exact ⟨rfl, rfl⟩

/-- "NOTLEADER" ++ r where r is not empty and its first byte is no blank: no refusal, the text comes back. -/
theorem leader_glued (r : ByteArray) (h0 : 0 < r.size) (hr : ((r[0]'h0).toNat : Int) ≠ 32) (w : World) :
    Calls Try.prog 6 #[.string (⟨#[78, 79, 84, 76, 69, 65, 68, 69, 82]⟩ ++ r)] w fun e w' => e = .returned (.tuple #[.string (⟨#[78, 79, 84, 76, 69, 65, 68, 69, 82]⟩ ++ r), .bool false]) ∧ w' = w := by
  obtain ⟨⟨l⟩⟩ := r
  have hd : ((⟨#[78, 79, 84, 76, 69, 65, 68, 69, 82]⟩ : ByteArray) ++ ⟨⟨l⟩⟩).data.toList = word ++ l := by simp [word]
  match l, h0, hr with
  | [], h0, _ => simp [ByteArray.size] at h0
  | c :: r, h0, hr =>
    have hc : c ≠ 32 := by
      rintro rfl
      exact hr rfl
    have h : (((⟨#[78, 79, 84, 76, 69, 65, 68, 69, 82]⟩ : ByteArray) ++ ⟨⟨c :: r⟩⟩).toList == [78, 79, 84, 76, 69, 65, 68, 69, 82]) = false := by
      rw [Lib.toList_data, hd, beq_eq_false_iff_ne]
      intro e
      have := congrArg List.length e
      simp [word] at this
    have hp : Lib.hasPrefix (word ++ c :: r) wordSp = false := by
      unfold Lib.hasPrefix word wordSp
      simp [List.isPrefixOf, Ne.symm hc]
    have ht : Lib.trimPrefix (word ++ c :: r) wordSp = word ++ c :: r := by
      unfold Lib.trimPrefix
      rw [hp]
      simp
    refine (leader_other _ h w).mono ?_
    rintro e w' ⟨rfl, rfl⟩
    rw [hd, hp, ht, ← hd, Lib.mk_data]
    exact ⟨rfl, rfl⟩

end Go.Proofs.Qxb6601471a
