/-
  FnParseDecimalMatchesDigitModel returns true at every string: the ways of the walk put together.
-/
import Derived.Test.Qxb6601801aDoorModel
namespace Go.Proofs.Qxb6601801aDoor
open Go.RowKit

/-- Every list of bytes: digits, then nothing or a byte that is no digit. -/
theorem split_run (l : List UInt8) : ∃ a b, l = a ++ b ∧ (∀ c ∈ a, isDig c = true) ∧ (b = [] ∨ ∃ c r, b = c :: r ∧ isDig c = false) := by
  induction l with
  | nil => exact ⟨[], [], rfl, fun c h => (by cases h), .inl rfl⟩
  | cons d l ih =>
    cases hd : isDig d with
    | false => exact ⟨[], d :: l, rfl, fun c h => (by cases h), .inr ⟨d, l, rfl, hd⟩⟩
    | true =>
      obtain ⟨a, b, rfl, ha, hb⟩ := ih
      refine ⟨d :: a, b, rfl, ?_, hb⟩
      intro c hc
      rcases List.mem_cons.1 hc with rfl | hc
      · exact hd
      · exact ha c hc

theorem run_mk (a b : List UInt8) (ha : ∀ c ∈ a, isDig c = true) (hb : b = [] ∨ ∃ c r, b = c :: r ∧ isDig c = false) : Run ⟨⟨a ++ b⟩⟩ a.length := by
  have hsz : (⟨⟨a ++ b⟩⟩ : ByteArray).size = a.length + b.length := by simp [ByteArray.size]
  refine ⟨by omega, ?_, ?_⟩
  · intro j h hj
    have e : (⟨⟨a ++ b⟩⟩ : ByteArray)[j] = a[j] := by
      show (a ++ b)[j] = a[j]
      exact List.getElem_append_left hj
    rw [e]
    have := ha a[j] (List.getElem_mem _)
    simpa [isDig] using this
  · intro h
    rcases hb with rfl | ⟨c, r, rfl, hc⟩
    · rw [hsz, List.length_nil] at h
      omega
    · have e : (⟨⟨a ++ c :: r⟩⟩ : ByteArray)[a.length] = c := by
        show (a ++ c :: r)[a.length] = c
        simp
      rw [e]
      simpa [isDig] using hc

theorem size_mk (l : List UInt8) : (⟨⟨l⟩⟩ : ByteArray).size = l.length := by simp [ByteArray.size]

/-- All digits, not empty. -/
theorem matches_digits (c : UInt8) (r : List UInt8) (hd : ∀ x ∈ c :: r, isDig x = true) (hs : (c :: r).length ≤ 1048576)
    (t0 t1 : TypeId) (p0 p1 : Value) (w : World) (hv0 : w.var? Tryd.prog "strconv.ErrSyntax" = some #[.iface t0 p0]) (hv1 : w.var? Tryd.prog "strconv.ErrRange" = some #[.iface t1 p1]) :
    Calls Tryd.prog 3 #[.string ⟨⟨c :: r⟩⟩] w fun e w' => e = .returned (.bool true) ∧ Below w.heap.size w w' := by
  have hsz := size_mk (c :: r)
  have hR : Run ⟨⟨c :: r⟩⟩ (⟨⟨c :: r⟩⟩ : ByteArray).size := by
    have h := run_mk (c :: r) [] hd (.inl rfl)
    rw [List.append_nil] at h
    rw [hsz]
    exact h
  have hlen : (c :: r).length = r.length + 1 := rfl
  by_cases hov : maxU < val 0 (c :: r)
  · refine model_over ⟨⟨c :: r⟩⟩ (by omega) (by omega) hR ?_ (decide_eq_true hov) t0 t1 p0 p1 w hv0 hv1
    have h := parseB_over (c :: r) [] hd hov
    rw [List.append_nil] at h
    exact h
  · have hok := parseB_fits (c :: r) (by simp) hd (by omega)
    have h0 : 0 < (⟨⟨c :: r⟩⟩ : ByteArray).size := by omega
    have hc0 : (⟨⟨c :: r⟩⟩ : ByteArray)[0] = c := rfl
    by_cases hc : c = 48
    · subst hc
      by_cases hr : r = []
      · subst hr
        refine model_fits ⟨⟨[48]⟩⟩ (by omega) h0 hR (val 0 [48]) ⟨rfl, by omega⟩ (decide_eq_false hov) true ?_ (.inl ⟨by rw [Lib.toList_data]; rfl, rfl⟩) w
        intro w
        exact dec_ok ⟨⟨[48]⟩⟩ (by omega) h0 (val 0 [48]) hok (.inr rfl) w
      · have hr1 : r.length ≠ 0 := fun h => hr (List.eq_nil_of_length_eq_zero h)
        refine model_fits ⟨⟨48 :: r⟩⟩ (by omega) h0 hR (val 0 (48 :: r)) ⟨rfl, by omega⟩ (decide_eq_false hov) false ?_ (.inr ⟨?_, ?_⟩) w
        · intro w
          exact dec_zero ⟨⟨48 :: r⟩⟩ (by omega) h0 (val 0 (48 :: r)) hok (by rw [hc0]; rfl) (by omega) w
        · rw [Lib.toList_data, beq_eq_false_iff_ne]
          intro e
          have e' : (48 :: r : List UInt8) = [48] := e
          injection e' with _ e'
          exact hr e'
        · symm
          refine decide_eq_false ?_
          show ¬ (strip (48 :: r)).length = (48 :: r).length
          rw [strip_zero, List.length_cons]
          have := strip_len r
          omega
    · refine model_fits ⟨⟨c :: r⟩⟩ (by omega) h0 hR (val 0 (c :: r)) ⟨rfl, by omega⟩ (decide_eq_false hov) true ?_ (.inr ⟨?_, ?_⟩) w
      · intro w
        refine dec_ok ⟨⟨c :: r⟩⟩ (by omega) h0 (val 0 (c :: r)) hok (.inl fun e => hc ?_) w
        rw [hc0] at e
        exact UInt8.toNat_inj.1 (by show c.toNat = 48; omega)
      · rw [Lib.toList_data, beq_eq_false_iff_ne]
        intro e
        have e' : (c :: r : List UInt8) = [48] := e
        injection e' with e' _
        exact hc e'
      · symm
        refine decide_eq_true ?_
        show (strip (c :: r)).length = (c :: r).length
        rw [strip_other c r hc]

/-- ████ THE LAW AT EVERY STRING ████ -/
theorem matches_walk (s : ByteArray) (hm : s.size ≤ 9223372036854775807)
    (t0 t1 : TypeId) (p0 p1 : Value) (w : World) (hv0 : w.var? Tryd.prog "strconv.ErrSyntax" = some #[.iface t0 p0]) (hv1 : w.var? Tryd.prog "strconv.ErrRange" = some #[.iface t1 p1]) :
    Calls Tryd.prog 3 #[.string s] w fun e w' => e = .returned (.bool true) ∧ Below w.heap.size w w' := by
  by_cases hs : s.size ≤ 1048576
  · obtain ⟨⟨l⟩⟩ := s
    rw [size_mk] at hs
    obtain ⟨a, b, rfl, ha, hb⟩ := split_run l
    have hR := run_mk a b ha hb
    have hsz := size_mk (a ++ b)
    rcases hb with rfl | ⟨c, r, rfl, hc⟩
    · rw [List.append_nil] at hs hR hsz ⊢
      match a, ha, hs with
      | [], _, _ => exact model_empty t0 t1 p0 p1 w hv0 hv1
      | c :: r, ha, hs => exact matches_digits c r ha hs t0 t1 p0 p1 w hv0 hv1
    · have hl : (a ++ c :: r).length = a.length + (r.length + 1) := by simp
      have ht : (a ++ c :: r).take a.length = a := by simp
      by_cases hov : maxU < val 0 a
      · exact model_bad_over ⟨⟨a ++ c :: r⟩⟩ (by omega) a.length (by omega) hR (parseB_over a (c :: r) ha hov) (by show decide (maxU < val 0 ((a ++ c :: r).take a.length)) = true; rw [ht]; exact decide_eq_true hov) t0 t1 p0 p1 w hv0 hv1
      · exact model_bad_fault ⟨⟨a ++ c :: r⟩⟩ (by omega) a.length (by omega) hR (parseB_fault a c r ha (by omega) hc) (by show decide (maxU < val 0 ((a ++ c :: r).take a.length)) = false; rw [ht]; exact decide_eq_false hov) t0 t1 p0 p1 w hv0 hv1
  · exact model_long s hs hm w

end Go.Proofs.Qxb6601801aDoor
