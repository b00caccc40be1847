/-
  zzRender (function 14 of the dump): the decimal digits of n.
-/
import Derived.Test.Qxb6601801aDoorRows
import Derived.Test.Qxb6601801aDoorPlain
import Derived.WalkKit
import Derived.ProofKit
import Derived.WalkSpells
import Derived.Laws.IdiomStrings
namespace Go.Proofs.Qxb6601801aDoor
open Go.RowKit

/-- The array behind zzRender's buf: zeros, then the digits so far. -/
def bufOf (l : List UInt8) : Array Value := (List.replicate (20 - l.length) (Value.int .u8 0) ++ l.map (fun b => Value.int .u8 (b.toNat : Int))).toArray
theorem bufOf_nil : bufOf [] = #[.int .u8 0, .int .u8 0, .int .u8 0, .int .u8 0, .int .u8 0, .int .u8 0, .int .u8 0, .int .u8 0, .int .u8 0, .int .u8 0, .int .u8 0, .int .u8 0, .int .u8 0, .int .u8 0, .int .u8 0, .int .u8 0, .int .u8 0, .int .u8 0, .int .u8 0, .int .u8 0] := rfl
theorem bufOf_get (l : List UInt8) (k : Nat) (hk : k + l.length = 19) : (bufOf l)[k]? = some (.int .u8 0) := by
  unfold bufOf
  simp
  rw [List.getElem?_append_left (by simp; omega), List.getElem?_replicate, if_pos (by omega)]
theorem bufOf_digit (l : List UInt8) (j : Nat) (hj : j < l.length) : (bufOf l)[20 - l.length + j]? = some (.int .u8 (l[j].toNat : Int)) := by
  unfold bufOf
  simp
  rw [List.getElem?_append_right (by simp)]
  simp [hj]
theorem bufOf_set (l : List UInt8) (c : UInt8) (k : Nat) (hk : k + l.length = 19) : (bufOf l).setIfInBounds k (.int .u8 (c.toNat : Int)) = bufOf (c :: l) := by
  unfold bufOf
  have e1 : 20 - l.length = k + 1 := by omega
  have e2 : 20 - (c :: l).length = k := by simp; omega
  rw [e1, e2, List.replicate_succ']
  simp

theorem slice_run (b k : Nat) (hk : k ≤ 19) (wx : World) :
    (Instr.sliceAt 37 (.pointer (some ⟨b, 0, none⟩)) (some (.int .i64 (k : Int))) none none).run Tryd.prog wx = .ok (.slice (some ⟨b, k, none⟩) (20 - k) (20 - k)) wx := by
  have e := run_sliceAt_array_l (P := Tryd.prog) wx 37 ⟨b, 0, none⟩ Tryd.underlying37 .i64 (k : Int) (by omega) (by show (k : Int) ≤ 20; omega)
  rw [e]
  have hz : (sizeOf (Tryd.prog.elem 37)).run Tryd.prog wx = .ok 1 wx := by kernel_rfl
  rw [hz]
  have e20 : Tryd.prog.arrayLen 37 = 20 := by kernel_rfl
  have hne : ¬ (20 = k) := by omega
  simp [Result.andThen, slicedAt, e20, hne, Addr.add]
  exact fun h => h.symm

/-- One round's end: the digit is in, and what it comes to. -/
theorem round_facts (m : Int) (l : List UInt8) (k : Nat) (n : Int) (m0 : 0 ≤ m) (H : k + l.length = 19 ∧ (val m.toNat l : Int) = n ∧ (∀ c ∈ l, isDig c = true) ∧ (l ≠ [] → 1 ≤ m)) :
    (bufOf l).setIfInBounds k (.int .u8 (48 + m % 10)) = bufOf (digitOf m.toNat :: l) ∧ k + (digitOf m.toNat :: l).length = 20 ∧ (val (m / 10).toNat (digitOf m.toNat :: l) : Int) = n ∧ (∀ c ∈ digitOf m.toNat :: l, isDig c = true) ∧
      ((digitOf m.toNat :: l).length = 1 ∨ (m / 10 = 0 → (digitOf m.toNat :: l).head? ≠ some 48)) := by
  obtain ⟨hk, hv, hd, hp⟩ := H
  have e1 : ((digitOf m.toNat).toNat : Int) = 48 + m % 10 := by
    rw [digitOf_toNat]
    omega
  have e2 : (m / 10).toNat = m.toNat / 10 := by omega
  refine ⟨?_, by simp; omega, ?_, ?_, ?_⟩
  · rw [← e1]
    exact bufOf_set l _ k hk
  · rw [e2, val_round]
    exact hv
  · intro c hc
    rcases List.mem_cons.1 hc with rfl | hc
    · exact digitOf_dig _
    · exact hd c hc
  · by_cases h : l = []
    · subst h; exact .inl rfl
    · refine .inr fun hz he => ?_
      have h1 := hp h
      have : digitOf m.toNat = 48 := by simpa using he
      rw [this] at e1
      have e3 : ((48 : UInt8).toNat : Int) = 48 := rfl
      omega

theorem conv_run (b k : Nat) (l : List UInt8) (hk : k + l.length = 20) (w : World) (hb : b = w.heap.size) :
    (convert 38 9 (.slice (some ⟨b, k, none⟩) (20 - k) (20 - k))).run Tryd.prog (w.alloc (.cells (bufOf l) 37)) = .ok (.string ⟨l.toArray⟩) (w.alloc (.cells (bufOf l) 37)) := by
  have e := run_convert_bytes_back (P := Tryd.prog) (w.alloc (.cells (bufOf l) 37)) 38 9 5 ⟨b, k, none⟩ (20 - k) l Tryd.underlying38 Tryd.underlying5 Tryd.underlying9 (fun j hj => by
    have hd := bufOf_digit l j hj
    have e1 : (⟨b, k, none⟩ : Addr).add j = ⟨w.heap.size, 20 - l.length + j, none⟩ := by
      subst hb
      rw [show 20 - l.length = k by omega]
      simp [Addr.add]
    rw [e1, World.cell?_alloc_at _ _ _ _ rfl]
    exact hd)
  have e2 : 20 - k = l.length := by omega
  rw [e2] at e ⊢
  exact e

set_option maxHeartbeats 400000 in
/-- zzRender: digits that spell n, no leading zero unless it is the only one. -/
theorem render_any (n : Int) (h0 : 0 ≤ n) (h1 : n ≤ 18446744073709551615) (w : World) :
    Calls Tryd.prog 14 #[.int .u64 n] w fun e w' => ∃ l : List UInt8, e = .returned (.string ⟨l.toArray⟩) ∧ Hid ((val 0 l : Int) = n ∧ (∀ c ∈ l, isDig c = true) ∧ l ≠ [] ∧ l.length ≤ 20 ∧ (l.length = 1 ∨ l.head? ≠ some 48)) ∧ Below w.heap.size w w' := by
  go_enter Tryd.func14, Tryd.ntmps14
  go_wp2
  go_loopw [0, 4] (fun t i wr => ∃ (m : Int) (l : List UInt8) (k : Nat), t = .int .u64 m ∧ i = .int .i64 ((k : Int) + 1) ∧ wr = w.alloc (.cells (bufOf l) 37) ∧ 0 ≤ m ∧ m ≤ 18446744073709551615 ∧ k ≤ 19 ∧ Hid (k + l.length = 19 ∧ (val m.toNat l : Int) = n ∧ (∀ c ∈ l, isDig c = true) ∧ (l ≠ [] → 1 ≤ m))) (fun _ i _ => (intOf i).toNat)
  case atStart => exact ⟨n, [], 19, rfl, rfl, rfl, h0, h1, by omega, ⟨rfl, by rw [val_nil]; omega, by simp, by simp⟩⟩
  case round =>
    obtain ⟨m, l, k, rfl, rfl, rfl, m0, m1, hk, HI⟩ := hrel
    have hc := bufOf_get l k HI.out.1
    obtain ⟨l', hset, HF⟩ : ∃ l', (bufOf l).setIfInBounds k (.int .u8 (48 + m % 10)) = bufOf l' ∧ Hid (k + l'.length = 20 ∧ (val (m / 10).toNat l' : Int) = n ∧ (∀ c ∈ l', isDig c = true) ∧ (l'.length = 1 ∨ (m / 10 = 0 → l'.head? ≠ some 48))) :=
      ⟨_, (round_facts m l k n m0 HI.out).1, (round_facts m l k n m0 HI.out).2⟩
    by_cases hz : m / 10 = 0
    · have hsl := slice_run w.heap.size k hk
      have hcv := conv_run w.heap.size k l' HF.out.1 w rfl
      go_wp2
      go_ret
      obtain ⟨f1, f2, f3, f4⟩ := HF.out
      refine ⟨l', rfl, ⟨?_, f3, ?_, by omega, ?_⟩, (Below.refl _ _).alloc (Nat.le_refl _) _⟩
      · rw [hz] at f2
        exact f2
      · intro e
        rw [e] at f1
        simp at f1
        omega
      · rcases f4 with f4 | f4
        · exact .inl f4
        · exact .inr (f4 hz)
    · go_wp2
      go_roundw
      case rel =>
        obtain ⟨f1, f2, f3, f4⟩ := HF.out
        have hl19 : l'.length ≤ 19 := left_pos (m / 10).toNat n.toNat l' (by omega) (by unfold maxU; omega) (fun _ => by omega)
        exact ⟨m / 10, l', k - 1, rfl, by congr 1; omega, rfl, by omega, by omega, by omega, ⟨by omega, f2, f3, fun _ => by omega⟩⟩
      case measure => simp [intOf]
end Go.Proofs.Qxb6601801aDoor
