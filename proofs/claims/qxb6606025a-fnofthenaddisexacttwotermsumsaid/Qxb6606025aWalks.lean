/-
  The walks of the sums' functions: wide.Of, (Sum).Int64, (*Sum).Add, ZZhi, ZZlo.
-/
import Derived.Test.Qxb6606025aRows
import Derived.WalkKit
import Derived.WalkSpells
import Derived.StillTactics
import Derived.Laws.Pointers
import Derived.Laws.Externs
import Derived.Deep.RegionHeld3
import Derived.RowKit3
namespace Go.Proofs.Qxb6606025a
open Go.RowKit

theorem add64_0 (x y : Int) (hx : 0 ≤ x) (hy : 0 ≤ y) (w : World) : (callFunc 14 #[.int .u64 x, .int .u64 y, .int .u64 0]).run Try.prog w =
    .ok (.value (.tuple #[.int .u64 ((x + y) % 18446744073709551616), .int .u64 ((x + y) / 18446744073709551616)])) w := by
  rw [run_callFunc_extern Try.func14 (by kernel_rfl) (by kernel_rfl) (by kernel_rfl) (e := add64Entry) (by kernel_rfl), run_add64 x y 0 hx hy (by omega) (by omega)]
  simp [Result.andThen]

/-- The high word of a term: its sign. -/
def sgn (a : Int) : Int := a / 9223372036854775808
/-- The high word behind one more term. -/
def hi2 (h l v : Int) : Int := wrap64 (wrap64 (h + v / 9223372036854775808) + wrap64 ((l + IntKind.u64.wrap v) / 18446744073709551616))
/-- The low word behind one more term. -/
def lo2 (l v : Int) : Int := (l + IntKind.u64.wrap v) % 18446744073709551616

theorem of_any (a : Int) (w : World) :
    Calls Try.prog 7 #[.int .i64 a] w fun e w' => e = .returned (.agg #[.int .i64 (sgn a), .int .u64 (IntKind.u64.wrap a)]) ∧ w' = w.alloc (.cells #[.int .i64 (sgn a), .int .u64 (IntKind.u64.wrap a)] 25) := by
  go_enter Try.func7, Try.ntmps7
  go_wp2
  simp [bodyPost, results, Try.results7, go_sem, sgn]

theorem u64_pos (v : Int) : 0 ≤ IntKind.u64.wrap v := by rw [IntKind.wrap_u64]; omega
theorem of_wf {a : Int} (h : (Lit.int .i64 a).wf = true) : -9223372036854775808 ≤ a ∧ a ≤ 9223372036854775807 := by
  simp [Lit.wf, IntKind.min, IntKind.max, IntKind.signed, IntKind.bits] at h
  exact ⟨by omega, by omega⟩

theorem int64_any (a : Int) (ha : wrap64 (IntKind.u64.wrap a) = a) (w : World) :
    Calls Try.prog 8 #[.agg #[.int .i64 (sgn a), .int .u64 (IntKind.u64.wrap a)]] w fun e w' => e = .returned (.tuple #[.int .i64 a, .bool true]) ∧ w' = w.alloc (.cells #[.int .i64 (sgn a), .int .u64 (IntKind.u64.wrap a)] 25) := by
  unfold sgn
  go_enter Try.func8, Try.ntmps8
  go_wp2
  simp [bodyPost, results, Try.results8, go_sem, ha]

theorem add_any (h l v : Int) (hl : 0 ≤ l) (w : World) :
    Calls Try.prog 9 #[.pointer (some ⟨w.heap.size, 0, none⟩), .int .i64 v] (w.alloc (.cells #[.int .i64 h, .int .u64 l] 25)) fun e w' => e = .returned (.tuple #[]) ∧ w' = w.alloc (.cells #[.int .i64 (hi2 h l v), .int .u64 (lo2 l v)] 25) := by
  have k := u64_pos v
  go_enter Try.func9, Try.ntmps9
  go_wp2_with (simp only [add64_0 l (IntKind.u64.wrap v) hl k])
  simp [bodyPost, results, Try.results9, go_sem, hi2, lo2]

/-- The first term, added to zero. -/
theorem add0_any (v : Int) (hv : -9223372036854775808 ≤ v ∧ v ≤ 9223372036854775807) (w : World) :
    Calls Try.prog 9 #[.pointer (some ⟨w.heap.size, 0, none⟩), .int .i64 v] (w.alloc (.cells #[.int .i64 0, .int .u64 0] 25)) fun e w' => e = .returned (.tuple #[]) ∧ w' = w.alloc (.cells #[.int .i64 (sgn v), .int .u64 (IntKind.u64.wrap v)] 25) := by
  refine (add_any 0 0 v (Int.le_refl 0) w).mono ?_
  rintro e w' ⟨rfl, rfl⟩
  have e1 : hi2 0 0 v = sgn v := by unfold hi2 sgn wrap64; rw [IntKind.wrap_u64]; omega
  have e2 : lo2 0 v = IntKind.u64.wrap v := by unfold lo2; rw [IntKind.wrap_u64]; omega
  rw [e1, e2]
  exact ⟨rfl, rfl⟩

theorem hi_any (h l : Int) (w : World) :
    Calls Try.prog 10 #[.agg #[.int .i64 h, .int .u64 l]] w fun e w' => e = .returned (.int .i64 h) ∧ w' = w.alloc (.cells #[.int .i64 h, .int .u64 l] 25) := by
  go_enter Try.func10, Try.ntmps10
  go_wp2
  go_ret
  simp

theorem lo_any (h l : Int) (w : World) :
    Calls Try.prog 11 #[.agg #[.int .i64 h, .int .u64 l]] w fun e w' => e = .returned (.int .u64 l) ∧ w' = w.alloc (.cells #[.int .i64 h, .int .u64 l] 25) := by
  go_enter Try.func11, Try.ntmps11
  go_wp2
  go_ret
  simp

/-! ### The plain law -/
theorem lo_sum (a b : Int) : lo2 (IntKind.u64.wrap a) b = IntKind.u64.wrap (wrap64 (a + b)) := by
  unfold lo2 wrap64; simp only [IntKind.wrap_u64]; omega

/-- The carry that the law's own model reckons. -/
def carry (a b : Int) : Int :=
  if 0 ≤ a ∧ 0 ≤ b ∧ wrap64 (a + b) < 0 then 1 else if a < 0 ∧ b < 0 ∧ 0 ≤ wrap64 (a + b) then -1 else 0

theorem hi_sum (a b : Int) (ha : -9223372036854775808 ≤ a ∧ a ≤ 9223372036854775807) (hb : -9223372036854775808 ≤ b ∧ b ≤ 9223372036854775807) :
    hi2 (sgn a) (IntKind.u64.wrap a) b = if wrap64 (a + b) < 0 then carry a b - 1 else carry a b := by
  unfold hi2 sgn carry wrap64
  simp only [IntKind.wrap_u64]
  split <;> split <;> (try split) <;> omega

end Go.Proofs.Qxb6606025a
