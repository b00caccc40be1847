/-
  The walk of FnParseDecimalMatchesDigitModel (function 3 of the dump).
-/
import Derived.Test.Qxb6601801aDoorDec
import Derived.Test.Qxb6601801aDoorValue
namespace Go.Proofs.Qxb6601801aDoor
open Go.RowKit

/-- P is the length of the longest run of digits at the head of s. -/
def Run (s : ByteArray) (P : Nat) : Prop := P ≤ s.size ∧ (∀ j (h : j < s.size), j < P → 48 ≤ s[j].toNat ∧ s[j].toNat ≤ 57) ∧ (∀ h : P < s.size, ¬ (48 ≤ s[P].toNat ∧ s[P].toNat ≤ 57))

theorem dec_range (s : ByteArray) (hs : s.size ≤ 1048576) (h : Lib.parseUintB 64 s.data.toList = .range) (t0 t1 : TypeId) (p0 p1 : Value) (w : World) (hv0 : w.var? Tryd.prog "strconv.ErrSyntax" = some #[.iface t0 p0]) (hv1 : w.var? Tryd.prog "strconv.ErrRange" = some #[.iface t1 p1]) :
    Calls Tryd.prog 7 #[.string s] w fun e w' => e = .returned (.tuple #[.int .u64 18446744073709551615, .bool false]) ∧ Below w.heap.size w w' :=
  dec_bad s (by omega) 18446744073709551615 (.inl ⟨h, rfl⟩) t0 t1 p0 p1 w hv0 hv1
theorem dec_fault (s : ByteArray) (hs : s.size ≤ 1048576) (h : (∀ u, Lib.parseUintB 64 s.data.toList ≠ .ok u) ∧ Lib.parseUintB 64 s.data.toList ≠ .range) (t0 t1 : TypeId) (p0 p1 : Value) (w : World) (hv0 : w.var? Tryd.prog "strconv.ErrSyntax" = some #[.iface t0 p0]) (hv1 : w.var? Tryd.prog "strconv.ErrRange" = some #[.iface t1 p1]) :
    Calls Tryd.prog 7 #[.string s] w fun e w' => e = .returned (.tuple #[.int .u64 0, .bool false]) ∧ Below w.heap.size w w' :=
  dec_bad s (by omega) 0 (.inr ⟨h.1, h.2, rfl⟩) t0 t1 p0 p1 w hv0 hv1

theorem exceed_head (s : ByteArray) (hs : s.size ≤ 1048576) (P : Nat) (hR : Run s P) (w : World) :
    Calls Tryd.prog 9 #[.string (s.extract 0 P)] w fun e w' => e = .returned (.bool (decide (maxU < val 0 (s.data.toList.take P)))) ∧ ∃ n, w' = w.drewN n := by
  have e : (s.extract 0 P).data.toList = s.data.toList.take P := by rw [Lib.extract_data]; rfl
  have hz : (s.extract 0 P).size ≤ 1048576 := by
    rw [Lib.size_eq, e, List.length_take, ← Lib.size_eq]
    omega
  rw [← e]
  refine exceed_any (s.extract 0 P) hz ?_ w
  intro c hc
  rw [e] at hc
  obtain ⟨j, hj, rfl⟩ := List.mem_iff_getElem.1 hc
  rw [List.length_take, ← Lib.size_eq] at hj
  have := hR.2.1 j (by omega) (by omega)
  rw [List.getElem_take]
  unfold isDig
  exact decide_eq_true this

theorem run_digits (s : ByteArray) (hR : Run s s.size) : ∀ c ∈ s.data.toList, isDig c = true := by
  intro c hc
  obtain ⟨j, hj, rfl⟩ := List.mem_iff_getElem.1 hc
  rw [← Lib.size_eq] at hj
  unfold isDig
  exact decide_eq_true (hR.2.1 j hj hj)

theorem below_draws {B : Nat} {a w : World} (h : Below B a w) (q : Nat) : Below B a (w.drewN q) := ⟨h.os, h.tape, h.output, h.size, h.block⟩

set_option maxHeartbeats 1000000 in
/-- All digits, and they do not fit. -/
theorem model_over (s : ByteArray) (hs : s.size ≤ 1048576) (h0 : 0 < s.size) (HR : Hid (Run s s.size)) (h : Hid (Lib.parseUintB 64 s.data.toList = .range)) (hov : decide (maxU < val 0 s.data.toList) = true)
    (t0 t1 : TypeId) (p0 p1 : Value) (w : World) (hv0 : w.var? Tryd.prog "strconv.ErrSyntax" = some #[.iface t0 p0]) (hv1 : w.var? Tryd.prog "strconv.ErrRange" = some #[.iface t1 p1]) :
    Calls Tryd.prog 3 #[.string s] w fun e w' => e = .returned (.bool true) ∧ Below w.heap.size w w' := by
  go_enter Tryd.func3, Tryd.ntmps3
  go_wp2_with (go_at_call 6; go_in)
  refine (dec_range s hs h.out t0 t1 p0 p1 _ hv0 hv1).mono ?_
  rintro e w1 ⟨rfl, hb1⟩
  clear hv0 hv1
  go_wp2_with fail
  go_loop [5] (fun i => ∃ k : Nat, k ≤ s.size ∧ i = .int .i64 k) (fun i => s.size - (intOf i).toNat)
  case atStart => exact ⟨0, Nat.zero_le _, rfl⟩
  case round =>
    obtain ⟨k, hk, rfl⟩ := hrel
    by_cases hlt : k < s.size
    · obtain ⟨d0, d1⟩ := HR.out.2.1 k hlt hlt
      go_wp2
      go_round
      case rel => exact ⟨k + 1, by omega, by go_num⟩
      case measure => simp [intOf]; omega
    · have hkk : k = s.size := by omega
      subst hkk
      go_wp2_with fail
      refine (exceed_any s hs (run_digits s HR.out) _).mono ?_
      rintro e w2 ⟨rfl, q, rfl⟩
      rw [hov]
      go_wp2_with fail
      go_ret
      exact ⟨rfl, below_draws hb1 q⟩

/-- zzDigitsValue behind zzStripZeros. -/
theorem value_s (s t : ByteArray) (hR : Run s s.size) (hT : t.data.toList = strip s.data.toList) (u : Nat) (hu : val 0 s.data.toList = u) (hm : u ≤ maxU) (w : World) :
    Calls Tryd.prog 11 #[.string t] w fun e w' => e = .returned (.int .u64 (u : Int)) ∧ w' = w := by
  have hd := run_digits s hR
  have e : val 0 t.data.toList = u := by rw [hT, val_strip, hu]
  have hl := fits_len s.data.toList hd (by omega)
  rw [← e]
  exact value_any t (by rw [Lib.size_eq, hT]; exact hl) (fun c hc => hd c (strip_mem _ _ (by rw [← hT]; exact hc))) (by show val 0 t.data.toList ≤ maxU; omega) w

set_option maxHeartbeats 1000000 in
/-- All digits, and they fit. -/
theorem model_fits (s : ByteArray) (hs : s.size ≤ 1048576) (h0 : 0 < s.size) (HR : Hid (Run s s.size)) (u : Nat) (HU : Hid (val 0 s.data.toList = u ∧ u ≤ maxU)) (hov : decide (maxU < val 0 s.data.toList) = false) (okB : Bool)
    (HDec : Hid (∀ w : World, Calls Tryd.prog 7 #[.string s] w fun e w' => e = .returned (.tuple #[.int .u64 (u : Int), .bool okB]) ∧ Below w.heap.size w w'))
    (HC : Hid ((s.toList == [48]) = true ∧ okB = true ∨ (s.toList == [48]) = false ∧ okB = decide ((strip s.data.toList).length = s.data.toList.length))) (w : World) :
    Calls Tryd.prog 3 #[.string s] w fun e w' => e = .returned (.bool true) ∧ Below w.heap.size w w' := by
  go_enter Tryd.func3, Tryd.ntmps3
  go_wp2_with (go_at_call 6; go_in)
  refine (HDec.out _).mono ?_
  rintro e w1 ⟨rfl, hb1⟩
  go_wp2_with fail
  go_loop [5] (fun i => ∃ k : Nat, k ≤ s.size ∧ i = .int .i64 k) (fun i => s.size - (intOf i).toNat)
  case atStart => exact ⟨0, Nat.zero_le _, rfl⟩
  case round =>
    obtain ⟨k, hk, rfl⟩ := hrel
    by_cases hlt : k < s.size
    · obtain ⟨d0, d1⟩ := HR.out.2.1 k hlt hlt
      go_wp2
      go_round
      case rel => exact ⟨k + 1, by omega, by go_num⟩
      case measure => simp [intOf]; omega
    · have hkk : k = s.size := by omega
      subst hkk
      go_wp2_with fail
      refine (exceed_any s hs (run_digits s HR.out) _).mono ?_
      rintro e w2 ⟨rfl, q, rfl⟩
      rw [hov]
      go_wp2_with fail
      refine (strip_s s hs _).mono ?_
      rintro e w3 ⟨t, rfl, HT, hts, rfl⟩
      have e1 : t.size = (strip s.data.toList).length := by rw [Lib.size_eq, HT.out]
      rcases HC.out with ⟨hz, hok⟩ | ⟨hz, hok⟩
      · subst hok
        clear e1
        go_wp2_with fail
        refine (value_s s t HR.out HT.out u HU.out.1 HU.out.2 _).mono ?_
        rintro e w4 ⟨rfl, rfl⟩
        go_wp2_with fail
        go_ret
        exact ⟨rfl, below_draws hb1 q⟩
      · rw [← e1, ← Lib.size_eq] at hok
        clear e1
        by_cases hts' : t.size = s.size
        · have hq : ((t.size : Int) == (s.size : Int)) = true := by simp [hts']
          obtain rfl : okB = true := by rw [hok]; simp [hts']
          clear hok hts'
          go_wp2_with fail
          refine (value_s s t HR.out HT.out u HU.out.1 HU.out.2 _).mono ?_
          rintro e w4 ⟨rfl, rfl⟩
          go_wp2_with fail
          go_ret
          exact ⟨rfl, below_draws hb1 q⟩
        · have hq : ((t.size : Int) == (s.size : Int)) = false := by simp; omega
          obtain rfl : okB = false := by rw [hok]; simp [hts']
          clear hok hts'
          go_wp2_with fail
          refine (value_s s t HR.out HT.out u HU.out.1 HU.out.2 _).mono ?_
          rintro e w4 ⟨rfl, rfl⟩
          go_wp2_with fail
          go_ret
          exact ⟨rfl, below_draws hb1 q⟩

set_option maxHeartbeats 1000000 in
/-- A byte that is no digit behind P digits; the digits do not fit. -/
theorem model_bad_over (s : ByteArray) (hs : s.size ≤ 1048576) (P : Nat) (hP : P < s.size) (HR : Hid (Run s P)) (h : Hid (Lib.parseUintB 64 s.data.toList = .range)) (hov : decide (maxU < val 0 (s.data.toList.take P)) = true)
    (t0 t1 : TypeId) (p0 p1 : Value) (w : World) (hv0 : w.var? Tryd.prog "strconv.ErrSyntax" = some #[.iface t0 p0]) (hv1 : w.var? Tryd.prog "strconv.ErrRange" = some #[.iface t1 p1]) :
    Calls Tryd.prog 3 #[.string s] w fun e w' => e = .returned (.bool true) ∧ Below w.heap.size w w' := by
  have hne : ((P : Int) == (s.size : Int)) = false := by simp; omega
  go_enter Tryd.func3, Tryd.ntmps3
  go_wp2_with (go_at_call 6; go_in)
  refine (dec_range s hs h.out t0 t1 p0 p1 _ hv0 hv1).mono ?_
  rintro e w1 ⟨rfl, hb1⟩
  clear hv0 hv1
  go_wp2_with fail
  go_loop [5] (fun i => ∃ k : Nat, k ≤ P ∧ i = .int .i64 k) (fun i => s.size - (intOf i).toNat)
  case atStart => exact ⟨0, Nat.zero_le _, rfl⟩
  case round =>
    obtain ⟨k, hk, rfl⟩ := hrel
    by_cases hlt : k < P
    · have hlt' : k < s.size := by omega
      obtain ⟨d0, d1⟩ := HR.out.2.1 k hlt' hlt
      go_wp2
      go_round
      case rel => exact ⟨k + 1, by omega, by go_num⟩
      case measure => simp [intOf]; omega
    · have hkk : k = P := by omega
      subst hkk
      have hnd := HR.out.2.2 hP
      by_cases d0 : 48 ≤ s[k].toNat
      · have d1 : ¬ s[k].toNat ≤ 57 := fun h => hnd ⟨d0, h⟩
        clear hnd
        go_wp2_with (go_at_call 8; go_in)
        refine (exceed_head s hs k HR.out _).mono ?_
        rintro e w2 ⟨rfl, q, rfl⟩
        rw [hov]
        go_wp2_with fail
        all_goals (go_ret; exact ⟨rfl, below_draws hb1 q⟩)
      · clear hnd
        go_wp2_with (go_at_call 8; go_in)
        refine (exceed_head s hs k HR.out _).mono ?_
        rintro e w2 ⟨rfl, q, rfl⟩
        rw [hov]
        go_wp2_with fail
        all_goals (go_ret; exact ⟨rfl, below_draws hb1 q⟩)

set_option maxHeartbeats 1000000 in
/-- A byte that is no digit behind P digits; the digits fit. -/
theorem model_bad_fault (s : ByteArray) (hs : s.size ≤ 1048576) (P : Nat) (hP : P < s.size) (HR : Hid (Run s P)) (h : Hid ((∀ u, Lib.parseUintB 64 s.data.toList ≠ .ok u) ∧ Lib.parseUintB 64 s.data.toList ≠ .range)) (hov : decide (maxU < val 0 (s.data.toList.take P)) = false)
    (t0 t1 : TypeId) (p0 p1 : Value) (w : World) (hv0 : w.var? Tryd.prog "strconv.ErrSyntax" = some #[.iface t0 p0]) (hv1 : w.var? Tryd.prog "strconv.ErrRange" = some #[.iface t1 p1]) :
    Calls Tryd.prog 3 #[.string s] w fun e w' => e = .returned (.bool true) ∧ Below w.heap.size w w' := by
  have hne : ((P : Int) == (s.size : Int)) = false := by simp; omega
  go_enter Tryd.func3, Tryd.ntmps3
  go_wp2_with (go_at_call 6; go_in)
  refine (dec_fault s hs h.out t0 t1 p0 p1 _ hv0 hv1).mono ?_
  rintro e w1 ⟨rfl, hb1⟩
  clear hv0 hv1
  go_wp2_with fail
  go_loop [5] (fun i => ∃ k : Nat, k ≤ P ∧ i = .int .i64 k) (fun i => s.size - (intOf i).toNat)
  case atStart => exact ⟨0, Nat.zero_le _, rfl⟩
  case round =>
    obtain ⟨k, hk, rfl⟩ := hrel
    by_cases hlt : k < P
    · have hlt' : k < s.size := by omega
      obtain ⟨d0, d1⟩ := HR.out.2.1 k hlt' hlt
      go_wp2
      go_round
      case rel => exact ⟨k + 1, by omega, by go_num⟩
      case measure => simp [intOf]; omega
    · have hkk : k = P := by omega
      subst hkk
      have hnd := HR.out.2.2 hP
      by_cases d0 : 48 ≤ s[k].toNat
      · have d1 : ¬ s[k].toNat ≤ 57 := fun h => hnd ⟨d0, h⟩
        clear hnd
        go_wp2_with (go_at_call 8; go_in)
        refine (exceed_head s hs k HR.out _).mono ?_
        rintro e w2 ⟨rfl, q, rfl⟩
        rw [hov]
        go_wp2_with fail
        all_goals (go_ret; exact ⟨rfl, below_draws hb1 q⟩)
      · clear hnd
        go_wp2_with (go_at_call 8; go_in)
        refine (exceed_head s hs k HR.out _).mono ?_
        rintro e w2 ⟨rfl, q, rfl⟩
        rw [hov]
        go_wp2_with fail
        all_goals (go_ret; exact ⟨rfl, below_draws hb1 q⟩)

set_option maxHeartbeats 1000000 in
/-- The empty string. -/
theorem model_empty (t0 t1 : TypeId) (p0 p1 : Value) (w : World) (hv0 : w.var? Tryd.prog "strconv.ErrSyntax" = some #[.iface t0 p0]) (hv1 : w.var? Tryd.prog "strconv.ErrRange" = some #[.iface t1 p1]) :
    Calls Tryd.prog 3 #[.string ByteArray.empty] w fun e w' => e = .returned (.bool true) ∧ Below w.heap.size w w' := by
  have hov : decide (maxU < val 0 ByteArray.empty.data.toList) = false := by decide
  have HD : Hid (∀ c ∈ ByteArray.empty.data.toList, isDig c = true) := by
    intro c hc
    cases hc
  go_enter Tryd.func3, Tryd.ntmps3
  go_wp2_with (go_at_call 6; go_in)
  refine (dec_fault ByteArray.empty (by decide) parseB_empty t0 t1 p0 p1 _ hv0 hv1).mono ?_
  rintro e w1 ⟨rfl, hb1⟩
  clear hv0 hv1
  go_wp2_with fail
  go_loop [5] (fun i => i = .int .i64 0) (fun _ => 0)
  case atStart => rfl
  case round =>
    obtain rfl := hrel
    go_wp2_with fail
    refine (exceed_any ByteArray.empty (by decide) HD _).mono ?_
    rintro e w2 ⟨rfl, q, rfl⟩
    rw [hov]
    go_wp2_with fail
    go_ret
    exact ⟨rfl, below_draws hb1 q⟩

/-- More than 2^20 bytes: the law says nothing. -/
theorem model_long (s : ByteArray) (hs : ¬ s.size ≤ 1048576) (hm : s.size ≤ 9223372036854775807) (w : World) :
    Calls Tryd.prog 3 #[.string s] w fun e w' => e = .returned (.bool true) ∧ Below w.heap.size w w' := by
  go_enter Tryd.func3, Tryd.ntmps3
  go_wp2
  go_ret
  exact ⟨rfl, Below.refl _ _⟩
end Go.Proofs.Qxb6601801aDoor
