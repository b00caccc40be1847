/-
  strconv.ParseUint(s, 10, 64): the shelf's contracts (Derived/Shelf/Pu) laid at this dump, in plain words (the kit's lay-plain.mjs wrote the table of numbers and the theorem 'laysPu').
-/
import Derived.Test.Qxb6601801aDoorRows
import Derived.Shelf.Pu.ErrVarParseUint
import Derived.Lib.AtoiErrMem
namespace Go.Proofs.Qxb6601801aDoor
open Go.Shelf Go.RowKit
def laysPu_ren : Go.Shelf.Ren := ⟨fun | 14 => 15 | 16 => 16 | 17 => 17 | 19 => 18 | 20 => 19 | 21 => 20 | 22 => 21 | 23 => 22 | 24 => 23 | 25 => 24 | 27 => 26 | 26 => 25 | 28 => 27 | 29 => 28 | 30 => 29 | 31 => 30 | 32 => 31 | 33 => 32 | 35 => 34 | 34 => 33 | 36 => 35 | 37 => 36 | 38 => 37 | 39 => 38 | 40 => 39 | n => n, fun | 9 => 9 | 3 => 3 | 22 => 23 | 24 => 34 | 25 => 35 | 4 => 4 | 34 => 40 | 5 => 5 | 36 => 42 | 37 => 38 | 0 => 0 | 39 => 43 | 21 => 21 | 44 => 47 | 47 => 50 | 50 => 53 | 48 => 51 | 2 => 2 | 52 => 55 | 55 => 58 | 59 => 62 | 60 => 63 | 20 => 20 | 61 => 64 | 65 => 68 | 66 => 69 | 67 => 72 | n => n, fun | 0 => 0 | 1 => 1 | 2 => 2 | 3 => 3 | 4 => 4 | n => n⟩
theorem laysPu : Go.Proofs.LaysPu.n14 Tryd.prog laysPu_ren := {
  mixed := by kernel_rfl
  f14 := Tryd.func15.trans (congrArg some (by kernel_rfl))
  f16 := Tryd.func16.trans (congrArg some (by kernel_rfl))
  f17 := Tryd.func17.trans (congrArg some (by kernel_rfl))
  f19 := Tryd.func18.trans (congrArg some (by kernel_rfl))
  f20 := Tryd.func19.trans (congrArg some (by kernel_rfl))
  f21 := Tryd.func20.trans (congrArg some (by kernel_rfl))
  f22 := Tryd.func21.trans (congrArg some (by kernel_rfl))
  f23 := Tryd.func22.trans (congrArg some (by kernel_rfl))
  f24 := Tryd.func23.trans (congrArg some (by kernel_rfl))
  f25 := Tryd.func24.trans (congrArg some (by kernel_rfl))
  f26 := Tryd.func25.trans (congrArg some (by kernel_rfl))
  f27 := Tryd.func26.trans (congrArg some (by kernel_rfl))
  f28 := Tryd.func27.trans (congrArg some (by kernel_rfl))
  f29 := Tryd.func28.trans (congrArg some (by kernel_rfl))
  f30 := Tryd.func29.trans (congrArg some (by kernel_rfl))
  f31 := Tryd.func30.trans (congrArg some (by kernel_rfl))
  f32 := Tryd.func31.trans (congrArg some (by kernel_rfl))
  f33 := Tryd.func32.trans (congrArg some (by kernel_rfl))
  f34 := Tryd.func33.trans (congrArg some (by kernel_rfl))
  f35 := Tryd.func34.trans (congrArg some (by kernel_rfl))
  f36 := Tryd.func35.trans (congrArg some (by kernel_rfl))
  f37 := Tryd.func36.trans (congrArg some (by kernel_rfl))
  f38 := Tryd.func37.trans (congrArg some (by kernel_rfl))
  f39 := Tryd.func38.trans (congrArg some (by kernel_rfl))
  f40 := Tryd.func39.trans (congrArg some (by kernel_rfl))
  t0 := Tryd.underlying0
  a0 := Tryd.isAgg0
  z0 := Tryd.sizeOf0
  v0 := Tryd.zeroValue0
  i0 := by kernel_rfl
  t2 := Tryd.underlying2
  a2 := Tryd.isAgg2
  z2 := Tryd.sizeOf2
  v2 := Tryd.zeroValue2
  i2 := by kernel_rfl
  t3 := Tryd.underlying3
  a3 := Tryd.isAgg3
  z3 := Tryd.sizeOf3
  v3 := Tryd.zeroValue3
  i3 := by kernel_rfl
  t4 := Tryd.underlying4
  a4 := Tryd.isAgg4
  z4 := Tryd.sizeOf4
  v4 := Tryd.zeroValue4
  i4 := by kernel_rfl
  t5 := Tryd.underlying5
  a5 := Tryd.isAgg5
  z5 := Tryd.sizeOf5
  v5 := Tryd.zeroValue5
  i5 := by kernel_rfl
  t9 := Tryd.underlying9
  a9 := Tryd.isAgg9
  z9 := Tryd.sizeOf9
  v9 := Tryd.zeroValue9
  i9 := by kernel_rfl
  t20 := Tryd.underlying20
  a20 := Tryd.isAgg20
  z20 := Tryd.sizeOf20
  v20 := Tryd.zeroValue20
  i20 := by kernel_rfl
  t21 := Tryd.underlying21
  a21 := Tryd.isAgg21
  z21 := Tryd.sizeOf21
  v21 := Tryd.zeroValue21
  i21 := by kernel_rfl
  t22 := Tryd.underlying23
  a22 := Tryd.isAgg23
  z22 := Tryd.sizeOf23
  v22 := Tryd.zeroValue23
  i22 := by kernel_rfl
  t24 := Tryd.underlying34
  a24 := Tryd.isAgg34
  z24 := Tryd.sizeOf34
  v24 := Tryd.zeroValue34
  i24 := by kernel_rfl
  t25 := Tryd.underlying35
  a25 := Tryd.isAgg35
  z25 := Tryd.sizeOf35
  v25 := Tryd.zeroValue35
  i25 := by kernel_rfl
  t34 := Tryd.underlying40
  a34 := Tryd.isAgg40
  z34 := Tryd.sizeOf40
  v34 := Tryd.zeroValue40
  i34 := by kernel_rfl
  c34 := by kernel_rfl
  t36 := Tryd.underlying42
  a36 := Tryd.isAgg42
  z36 := Tryd.sizeOf42
  v36 := Tryd.zeroValue42
  i36 := by kernel_rfl
  t37 := Tryd.underlying38
  a37 := Tryd.isAgg38
  z37 := Tryd.sizeOf38
  v37 := Tryd.zeroValue38
  i37 := by kernel_rfl
  t39 := Tryd.underlying43
  a39 := Tryd.isAgg43
  z39 := Tryd.sizeOf43
  v39 := Tryd.zeroValue43
  i39 := by kernel_rfl
  t44 := Tryd.underlying47
  a44 := Tryd.isAgg47
  z44 := Tryd.sizeOf47
  v44 := Tryd.zeroValue47
  i44 := by kernel_rfl
  t47 := Tryd.underlying50
  a47 := Tryd.isAgg50
  z47 := Tryd.sizeOf50
  v47 := Tryd.zeroValue50
  i47 := by kernel_rfl
  t48 := Tryd.underlying51
  a48 := Tryd.isAgg51
  z48 := Tryd.sizeOf51
  v48 := Tryd.zeroValue51
  i48 := by kernel_rfl
  t50 := Tryd.underlying53
  a50 := Tryd.isAgg53
  z50 := Tryd.sizeOf53
  v50 := Tryd.zeroValue53
  i50 := by kernel_rfl
  t52 := Tryd.underlying55
  a52 := Tryd.isAgg55
  z52 := Tryd.sizeOf55
  v52 := Tryd.zeroValue55
  i52 := by kernel_rfl
  t55 := Tryd.underlying58
  a55 := Tryd.isAgg58
  z55 := Tryd.sizeOf58
  v55 := Tryd.zeroValue58
  i55 := by kernel_rfl
  t59 := Tryd.underlying62
  a59 := Tryd.isAgg62
  z59 := Tryd.sizeOf62
  v59 := Tryd.zeroValue62
  i59 := by kernel_rfl
  t60 := Tryd.underlying63
  a60 := Tryd.isAgg63
  z60 := Tryd.sizeOf63
  v60 := Tryd.zeroValue63
  i60 := by kernel_rfl
  t61 := Tryd.underlying64
  a61 := Tryd.isAgg64
  z61 := Tryd.sizeOf64
  t65 := Tryd.underlying68
  a65 := Tryd.isAgg68
  z65 := Tryd.sizeOf68
  v65 := Tryd.zeroValue68
  i65 := by kernel_rfl
  t66 := Tryd.underlying69
  a66 := Tryd.isAgg69
  z66 := Tryd.sizeOf69
  v66 := Tryd.zeroValue69
  i66 := by kernel_rfl
  t67 := Tryd.underlying72
  a67 := Tryd.isAgg72
  z67 := Tryd.sizeOf72
  v67 := Tryd.zeroValue72
  i67 := by kernel_rfl
  g0 := by kernel_rfl
  m0 := by kernel_rfl
  g1 := by kernel_rfl
  m1 := by kernel_rfl
  g2 := by kernel_rfl
  m2 := by kernel_rfl
  g3 := by kernel_rfl
  m3 := by kernel_rfl
  g4 := by kernel_rfl
  m4 := by kernel_rfl }

/-- A numeral that fits 64 bits. -/
theorem parseUint_ok (s : ByteArray) (hmax : s.size ≤ 9223372036854775806) (u : Nat) (h : Lib.parseUintB 64 s.data.toList = .ok u) (w : World) :
    Calls Tryd.prog 15 #[.string s, .int .i64 10, .int .i64 64] w fun e w' => e = .returned (.tuple #[.int .u64 u, .nilIface]) ∧ Below w.heap.size w w' := by
  refine (Any.strconv_ParseUint_10_at64_ok laysPu s hmax u h w).mono ?_
  rintro e w' ⟨rfl, hw⟩
  refine ⟨rfl, ?_⟩
  rcases hw with rfl | rfl
  · exact Below.refl _ _
  · exact Lib.bytesWorld_below _ _ _

/-- Whatever else: 0, or the greatest number, and an error that is not nil. -/
theorem parseUint_bad (s : ByteArray) (hlim : s.size ≤ 281474976710656) (n : Nat) (hn : Lib.parseUintB 64 s.data.toList = .range ∧ n = 18446744073709551615 ∨ (∀ u, Lib.parseUintB 64 s.data.toList ≠ .ok u) ∧ Lib.parseUintB 64 s.data.toList ≠ .range ∧ n = 0)
    (t0 t1 : TypeId) (p0 p1 : Value) (w : World) (hv0 : w.var? Tryd.prog "strconv.ErrSyntax" = some #[.iface t0 p0]) (hv1 : w.var? Tryd.prog "strconv.ErrRange" = some #[.iface t1 p1]) :
    Calls Tryd.prog 15 #[.string s, .int .i64 10, .int .i64 64] w fun e w' => ∃ N, e = .returned (.tuple #[.int .u64 n, .iface 43 (.pointer (some ⟨N, 0, none⟩))]) ∧ Below w.heap.size w w' := by
  rcases h : Lib.parseUintB 64 s.data.toList with u | _ | _
  · rcases hn with ⟨hn, _⟩ | ⟨hn, _⟩
    · rw [h] at hn; cases hn
    · exact absurd h (hn u)
  · rcases hn with ⟨hn, _⟩ | ⟨_, _, rfl⟩
    · rw [h] at hn; cases hn
    · refine (Any.strconv_ParseUint_10_at64_syntax_var laysPu s hlim h t0 p0 w hv0).mono ?_
      rintro e w' ⟨N, rfl, _, _, hb⟩
      exact ⟨N, rfl, hb⟩
  · rcases hn with ⟨_, rfl⟩ | ⟨_, hn, _⟩
    · refine (Any.strconv_ParseUint_10_at64_range_var laysPu s hlim h t1 p1 w hv1).mono ?_
      rintro e w' ⟨N, rfl, _, _, hb⟩
      exact ⟨N, rfl, hb⟩
    · exact absurd h hn

end Go.Proofs.Qxb6601801aDoor
