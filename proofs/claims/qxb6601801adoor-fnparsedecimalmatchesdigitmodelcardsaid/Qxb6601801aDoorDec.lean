/-
  tlog.ParseDecimal (function 7 of the dump): what it answers, by what ParseUint(s, 10, 64) ends in.
-/
import Derived.Test.Qxb6601801aDoorShelf
import Derived.WalkKit
import Derived.ProofKit
namespace Go.Proofs.Qxb6601801aDoor
open Go.RowKit

/-- A numeral that fits, with no leading zero (or of one byte): taken. -/
theorem dec_ok (s : ByteArray) (hs : s.size ≤ 1048577) (h0 : 0 < s.size) (u : Nat) (h : Lib.parseUintB 64 s.data.toList = .ok u) (hb : ((s[0]'h0).toNat : Int) ≠ 48 ∨ s.size = 1) (w : World) :
    Calls Tryd.prog 7 #[.string s] w fun e w' => e = .returned (.tuple #[.int .u64 u, .bool true]) ∧ Below w.heap.size w w' := by
  by_cases hc : ((s[0]'h0).toNat : Int) = 48
  · have h1 : ((s.size : Int) == 1) = true := by
      rcases hb with h | h
      · exact absurd hc h
      · simp [h]
    clear hb
    go_enter Tryd.func7, Tryd.ntmps7
    go_wp2_with (go_at_call 15; refine (parseUint_ok s (by omega) u h _).mono ?_; rintro e w' ⟨rfl, hw⟩)
    go_ret2
    exact ⟨rfl, hw⟩
  · clear hb
    go_enter Tryd.func7, Tryd.ntmps7
    go_wp2_with (go_at_call 15; refine (parseUint_ok s (by omega) u h _).mono ?_; rintro e w' ⟨rfl, hw⟩)
    go_ret2
    exact ⟨rfl, hw⟩

/-- A numeral that fits, with a leading zero and more behind it: its value, refused. -/
theorem dec_zero (s : ByteArray) (hs : s.size ≤ 1048577) (h0 : 0 < s.size) (u : Nat) (h : Lib.parseUintB 64 s.data.toList = .ok u) (hc : ((s[0]'h0).toNat : Int) = 48) (h1 : s.size ≠ 1) (w : World) :
    Calls Tryd.prog 7 #[.string s] w fun e w' => e = .returned (.tuple #[.int .u64 u, .bool false]) ∧ Below w.heap.size w w' := by
  have h1' : ((s.size : Int) == 1) = false := by
    rw [beq_eq_false_iff_ne]
    omega
  clear h1
  go_enter Tryd.func7, Tryd.ntmps7
  go_wp2_with (go_at_call 15; refine (parseUint_ok s (by omega) u h _).mono ?_; rintro e w' ⟨rfl, hw⟩)
  go_ret2
  exact ⟨rfl, hw⟩

/-- No numeral, or one that does not fit: refused. -/
theorem dec_bad (s : ByteArray) (hs : s.size ≤ 1048577) (n : Nat) (hn : Lib.parseUintB 64 s.data.toList = .range ∧ n = 18446744073709551615 ∨ (∀ u, Lib.parseUintB 64 s.data.toList ≠ .ok u) ∧ Lib.parseUintB 64 s.data.toList ≠ .range ∧ n = 0)
    (t0 t1 : TypeId) (p0 p1 : Value) (w : World) (hv0 : w.var? Tryd.prog "strconv.ErrSyntax" = some #[.iface t0 p0]) (hv1 : w.var? Tryd.prog "strconv.ErrRange" = some #[.iface t1 p1]) :
    Calls Tryd.prog 7 #[.string s] w fun e w' => e = .returned (.tuple #[.int .u64 n, .bool false]) ∧ Below w.heap.size w w' := by
  have HN : Hid (Lib.parseUintB 64 s.data.toList = .range ∧ n = 18446744073709551615 ∨ (∀ u, Lib.parseUintB 64 s.data.toList ≠ .ok u) ∧ Lib.parseUintB 64 s.data.toList ≠ .range ∧ n = 0) := hn
  clear hn
  go_enter Tryd.func7, Tryd.ntmps7
  go_wp2_with (go_at_call 15; refine (parseUint_bad s (by omega) n HN.out t0 t1 p0 p1 _ hv0 hv1).mono ?_; rintro e w' ⟨N, rfl, hw⟩)
  go_ret2
  exact ⟨rfl, hw⟩

end Go.Proofs.Qxb6601801aDoor
