/-
  The walk of FnParseDecimalReadsEveryRendering (function 5 of the dump): true at every uint64.
-/
import Derived.Test.Qxb6601801aDoorDec
import Derived.Test.Qxb6601801aDoorRender
namespace Go.Proofs.Qxb6601801aDoor
open Go.RowKit

/-- The two numerals, as ParseDecimal meets them. -/
theorem reads_facts (n : Int) (h1 : n ≤ 18446744073709551615) (l : List UInt8) (H : (val 0 l : Int) = n ∧ (∀ c ∈ l, isDig c = true) ∧ l ≠ [] ∧ l.length ≤ 20 ∧ (l.length = 1 ∨ l.head? ≠ some 48)) :
    ∃ (s : ByteArray) (h0 : 0 < s.size) (u : Nat), s = ⟨l.toArray⟩ ∧ (u : Int) = n ∧ s.size ≤ 20 ∧ Lib.parseUintB 64 s.data.toList = .ok u ∧ (((s[0]'h0).toNat : Int) ≠ 48 ∨ s.size = 1) ∧
      ∃ h0' : 0 < ((⟨#[48]⟩ : ByteArray) ++ s).size, Lib.parseUintB 64 ((⟨#[48]⟩ : ByteArray) ++ s).data.toList = .ok u ∧ (((((⟨#[48]⟩ : ByteArray) ++ s)[0]'h0').toNat : Int) = 48) ∧ ((⟨#[48]⟩ : ByteArray) ++ s).size ≠ 1 ∧ ((⟨#[48]⟩ : ByteArray) ++ s).size ≤ 21 := by
  obtain ⟨hv, hd, h0, hlen, hh⟩ := H
  match l, hv, hd, h0, hlen, hh with
  | c :: r, hv, hd, h0, hlen, hh =>
    have hsz : (⟨(c :: r).toArray⟩ : ByteArray).size = r.length + 1 := by simp [ByteArray.size]
    have hsz' : ((⟨#[48]⟩ : ByteArray) ++ (⟨(c :: r).toArray⟩ : ByteArray)).size = r.length + 2 := by
      rw [ByteArray.size_append, hsz]
      simp [ByteArray.size]
      omega
    have hdat : ((⟨#[48]⟩ : ByteArray) ++ (⟨(c :: r).toArray⟩ : ByteArray)).data.toList = 48 :: c :: r := by simp
    simp only [List.length_cons] at hlen hh
    refine ⟨⟨(c :: r).toArray⟩, by omega, val 0 (c :: r), rfl, hv, by omega, ?_, ?_, by omega, ?_, ?_, by omega, by omega⟩
    · exact parseB_fits (c :: r) h0 hd (by unfold maxU; omega)
    · rcases hh with hh | hh
      · exact .inr (by omega)
      · refine .inl fun e => hh ?_
        have e' : (c.toNat : Int) = 48 := e
        have e2 : c.toNat = (48 : UInt8).toNat := by
          have : (48 : UInt8).toNat = 48 := rfl
          omega
        rw [List.head?_cons, UInt8.toNat_inj.1 e2]
    · rw [hdat]
      have e : val 0 (48 :: c :: r) = val 0 (c :: r) := by
        rw [val_cons]
        rfl
      rw [← e]
      refine parseB_fits _ (by simp) ?_ (by rw [e]; unfold maxU; omega)
      intro x hx
      rcases List.mem_cons.1 hx with rfl | hx
      · decide
      · exact hd x hx
    · rfl

/-- What the law wants of a rendering s of u. -/
def Good (s : ByteArray) (u : Nat) : Prop := ∃ h0 : 0 < s.size, s.size ≤ 20 ∧ Lib.parseUintB 64 s.data.toList = .ok u ∧ (((s[0]'h0).toNat : Int) ≠ 48 ∨ s.size = 1) ∧
      ∃ h0' : 0 < ((⟨#[48]⟩ : ByteArray) ++ s).size, Lib.parseUintB 64 ((⟨#[48]⟩ : ByteArray) ++ s).data.toList = .ok u ∧ (((((⟨#[48]⟩ : ByteArray) ++ s)[0]'h0').toNat : Int) = 48) ∧ ((⟨#[48]⟩ : ByteArray) ++ s).size ≠ 1 ∧ ((⟨#[48]⟩ : ByteArray) ++ s).size ≤ 21

theorem render_s (u : Nat) (h1 : u ≤ 18446744073709551615) (w : World) :
    Calls Tryd.prog 14 #[.int .u64 (u : Int)] w fun e w' => ∃ s : ByteArray, e = .returned (.string s) ∧ Good s u ∧ Below w.heap.size w w' := by
  refine (render_any u (by omega) (by omega) w).mono ?_
  rintro e w' ⟨l, rfl, HF, hb⟩
  obtain ⟨s, h0s, u', rfl, hu, hs, hp, hz, hr⟩ := reads_facts u (by omega) l HF.out
  obtain rfl : u' = u := by omega
  exact ⟨_, rfl, ⟨h0s, hs, hp, hz, hr⟩, hb⟩

theorem dec_first (s : ByteArray) (u : Nat) (h : Good s u) (w : World) :
    Calls Tryd.prog 7 #[.string s] w fun e w' => e = .returned (.tuple #[.int .u64 u, .bool true]) ∧ Below w.heap.size w w' := by
  obtain ⟨h0, hs, hp, hz, _⟩ := h
  exact dec_ok s (by omega) h0 u hp hz w

theorem dec_second (s : ByteArray) (u : Nat) (h : Good s u) (w : World) :
    Calls Tryd.prog 7 #[.string ((⟨#[48]⟩ : ByteArray) ++ s)] w fun e w' => e = .returned (.tuple #[.int .u64 u, .bool false]) ∧ Below w.heap.size w w' := by
  obtain ⟨_, _, _, _, h0, hp, hz, h1, hs⟩ := h
  exact dec_zero _ (by omega) h0 u hp hz h1 w

set_option maxHeartbeats 400000 in
/-- ████ THE WALK OF THE LAW ████ -/
theorem reads_walk (u : Nat) (h1 : u ≤ 18446744073709551615) (w : World) :
    Calls Tryd.prog 5 #[.int .u64 (u : Int)] w fun e w' => e = .returned (.bool true) ∧ Below w.heap.size w w' := by
  go_enter Tryd.func5, Tryd.ntmps5
  go_wp2_with fail
  refine (render_s u h1 _).mono ?_
  rintro e w1 ⟨s, rfl, hG, hb1⟩
  have hs : s.size ≤ 20 := hG.elim fun _ h => h.1
  go_wp2_with fail
  refine (dec_first s u hG _).mono ?_
  rintro e w2 ⟨rfl, hb2⟩
  go_wp2_with fail
  refine (dec_second s u hG _).mono ?_
  rintro e w3 ⟨rfl, hb3⟩
  go_wp2_with fail
  go_ret
  exact ⟨rfl, (hb1.trans (hb2.mono hb1.size)).trans (hb3.mono (Nat.le_trans hb1.size hb2.size))⟩
end Go.Proofs.Qxb6601801aDoor
