/-
  Rows.FnOfThenAddIsExactTwoTermSumSaid: the frame is the guide's template at this function's number and types; the walk is filled in.
-/
import Derived.Test.Qxb6606025aWalks
import Derived.WalkKit
import Derived.ProofKit
import Derived.OpenShut
import Derived.ShutString
namespace Go.Proofs.Qxb6606025a.fnOfThenAddIsExactTwoTermSum
open Go.ChangeShapes Go.WideShapes Go.ChangeAt Go.RowKit
open Go.ChangeMaps (open_string shut_string)
set_option linter.unusedVariables false      -- a walk need not use every 'w<i>' (that an integer argument fits its kind)

theorem own : ownKnob Try.prog.godebug = none := by kernel_rfl

/-! ### STEP 1: THE WALK: the Go text returns true. 'Grown w w'': the world has at most new blocks (Derived/RowKit3.lean). Part the cases AHEAD of 'go_enter' where a test parts the walk; take each callee by a contract of your own. -/
/-- The contracts that the walk wants, at letters. -/
structure Parts (a b h l H : Int) : Prop where
  of : ∀ w : World, Calls Try.prog 7 #[.int .i64 a] w fun e w' => e = .returned (.agg #[.int .i64 h, .int .u64 l]) ∧ w' = w.alloc (.cells #[.int .i64 h, .int .u64 l] 25)
  zero : ∀ (w : World) (n : Nat), w.heap.size = n → Calls Try.prog 9 #[.pointer (some ⟨n, 0, none⟩), .int .i64 a] (w.alloc (.cells #[.int .i64 0, .int .u64 0] 25)) fun e w' => e = .returned (.tuple #[]) ∧ w' = w.alloc (.cells #[.int .i64 h, .int .u64 l] 25)
  add : ∀ (w : World) (n : Nat), w.heap.size = n → Calls Try.prog 9 #[.pointer (some ⟨n, 0, none⟩), .int .i64 b] (w.alloc (.cells #[.int .i64 h, .int .u64 l] 25)) fun e w' => e = .returned (.tuple #[]) ∧ w' = w.alloc (.cells #[.int .i64 H, .int .u64 (IntKind.u64.wrap (wrap64 (a + b)))] 25)

theorem parts (a b H : Int) (ha : -9223372036854775808 ≤ a ∧ a ≤ 9223372036854775807) (hb : -9223372036854775808 ≤ b ∧ b ≤ 9223372036854775807)
    (hH : (if wrap64 (a + b) < 0 then carry a b - 1 else carry a b) = H) : ∃ h l, Parts a b h l H := by
  refine ⟨sgn a, IntKind.u64.wrap a, of_any a, fun w n e => e ▸ add0_any a ha w, fun w n e => ?_⟩
  subst e
  rw [← hH, ← hi_sum a b ha hb, ← lo_sum a b]
  exact add_any _ _ b (u64_pos a) w

set_option maxHeartbeats 1600000 in
theorem walk (a0 : Int) (a1 : Int) (w0 : (Lit.int .i64 a0).wf = true) (w1 : (Lit.int .i64 a1).wf = true) (w : World) :
    Calls Try.prog 4 #[.int .i64 a0, .int .i64 a1] w fun e w' => e = .returned (.bool true) ∧ Grown w w' := by
  have K1 := fun H => parts a0 a1 H (of_wf w0) (of_wf w1)
  rcases Int.lt_or_le a0 0 with h1 | h1 <;> rcases Int.lt_or_le a1 0 with h2 | h2 <;> rcases Int.lt_or_le (wrap64 (a0 + a1)) 0 with h3 | h3
  · obtain ⟨h, l, K⟩ := K1 (-1) (by unfold carry; split <;> (try split) <;> (try split) <;> omega)
    clear K1
    go_enter Try.func4, Try.ntmps4
    go_wp2_with (first
      | (go_at_call 7; refine (K.of _).mono ?_; rintro e w' ⟨rfl, rfl⟩)
      | (go_at_call 9; with_reducible refine (K.zero _ _ ?_).mono ?_; · simp [go_sem]
         rintro e w' ⟨rfl, rfl⟩)
      | (go_at_call 9; with_reducible refine (K.add _ _ ?_).mono ?_; · simp [go_sem]
         rintro e w' ⟨rfl, rfl⟩)
      | (go_at_call 10; refine (hi_any _ _ _).mono ?_; rintro e w' ⟨rfl, rfl⟩)
      | (go_at_call 11; refine (lo_any _ _ _).mono ?_; rintro e w' ⟨rfl, rfl⟩))
    go_ret
    exact ⟨rfl, by repeat (first | exact Grown.refl _ | apply Grown.alloc)⟩
  · obtain ⟨h, l, K⟩ := K1 (-1) (by unfold carry; split <;> (try split) <;> (try split) <;> omega)
    clear K1
    go_enter Try.func4, Try.ntmps4
    go_wp2_with (first
      | (go_at_call 7; refine (K.of _).mono ?_; rintro e w' ⟨rfl, rfl⟩)
      | (go_at_call 9; with_reducible refine (K.zero _ _ ?_).mono ?_; · simp [go_sem]
         rintro e w' ⟨rfl, rfl⟩)
      | (go_at_call 9; with_reducible refine (K.add _ _ ?_).mono ?_; · simp [go_sem]
         rintro e w' ⟨rfl, rfl⟩)
      | (go_at_call 10; refine (hi_any _ _ _).mono ?_; rintro e w' ⟨rfl, rfl⟩)
      | (go_at_call 11; refine (lo_any _ _ _).mono ?_; rintro e w' ⟨rfl, rfl⟩))
    go_ret
    exact ⟨rfl, by repeat (first | exact Grown.refl _ | apply Grown.alloc)⟩
  · obtain ⟨h, l, K⟩ := K1 (-1) (by unfold carry; split <;> (try split) <;> (try split) <;> omega)
    clear K1
    go_enter Try.func4, Try.ntmps4
    go_wp2_with (first
      | (go_at_call 7; refine (K.of _).mono ?_; rintro e w' ⟨rfl, rfl⟩)
      | (go_at_call 9; with_reducible refine (K.zero _ _ ?_).mono ?_; · simp [go_sem]
         rintro e w' ⟨rfl, rfl⟩)
      | (go_at_call 9; with_reducible refine (K.add _ _ ?_).mono ?_; · simp [go_sem]
         rintro e w' ⟨rfl, rfl⟩)
      | (go_at_call 10; refine (hi_any _ _ _).mono ?_; rintro e w' ⟨rfl, rfl⟩)
      | (go_at_call 11; refine (lo_any _ _ _).mono ?_; rintro e w' ⟨rfl, rfl⟩))
    go_ret
    exact ⟨rfl, by repeat (first | exact Grown.refl _ | apply Grown.alloc)⟩
  · obtain ⟨h, l, K⟩ := K1 (0) (by unfold carry; split <;> (try split) <;> (try split) <;> omega)
    clear K1
    go_enter Try.func4, Try.ntmps4
    go_wp2_with (first
      | (go_at_call 7; refine (K.of _).mono ?_; rintro e w' ⟨rfl, rfl⟩)
      | (go_at_call 9; with_reducible refine (K.zero _ _ ?_).mono ?_; · simp [go_sem]
         rintro e w' ⟨rfl, rfl⟩)
      | (go_at_call 9; with_reducible refine (K.add _ _ ?_).mono ?_; · simp [go_sem]
         rintro e w' ⟨rfl, rfl⟩)
      | (go_at_call 10; refine (hi_any _ _ _).mono ?_; rintro e w' ⟨rfl, rfl⟩)
      | (go_at_call 11; refine (lo_any _ _ _).mono ?_; rintro e w' ⟨rfl, rfl⟩))
    go_ret
    exact ⟨rfl, by repeat (first | exact Grown.refl _ | apply Grown.alloc)⟩
  · obtain ⟨h, l, K⟩ := K1 (-1) (by unfold carry; split <;> (try split) <;> (try split) <;> omega)
    clear K1
    go_enter Try.func4, Try.ntmps4
    go_wp2_with (first
      | (go_at_call 7; refine (K.of _).mono ?_; rintro e w' ⟨rfl, rfl⟩)
      | (go_at_call 9; with_reducible refine (K.zero _ _ ?_).mono ?_; · simp [go_sem]
         rintro e w' ⟨rfl, rfl⟩)
      | (go_at_call 9; with_reducible refine (K.add _ _ ?_).mono ?_; · simp [go_sem]
         rintro e w' ⟨rfl, rfl⟩)
      | (go_at_call 10; refine (hi_any _ _ _).mono ?_; rintro e w' ⟨rfl, rfl⟩)
      | (go_at_call 11; refine (lo_any _ _ _).mono ?_; rintro e w' ⟨rfl, rfl⟩))
    go_ret
    exact ⟨rfl, by repeat (first | exact Grown.refl _ | apply Grown.alloc)⟩
  · obtain ⟨h, l, K⟩ := K1 (0) (by unfold carry; split <;> (try split) <;> (try split) <;> omega)
    clear K1
    go_enter Try.func4, Try.ntmps4
    go_wp2_with (first
      | (go_at_call 7; refine (K.of _).mono ?_; rintro e w' ⟨rfl, rfl⟩)
      | (go_at_call 9; with_reducible refine (K.zero _ _ ?_).mono ?_; · simp [go_sem]
         rintro e w' ⟨rfl, rfl⟩)
      | (go_at_call 9; with_reducible refine (K.add _ _ ?_).mono ?_; · simp [go_sem]
         rintro e w' ⟨rfl, rfl⟩)
      | (go_at_call 10; refine (hi_any _ _ _).mono ?_; rintro e w' ⟨rfl, rfl⟩)
      | (go_at_call 11; refine (lo_any _ _ _).mono ?_; rintro e w' ⟨rfl, rfl⟩))
    go_ret
    exact ⟨rfl, by repeat (first | exact Grown.refl _ | apply Grown.alloc)⟩
  · obtain ⟨h, l, K⟩ := K1 (0) (by unfold carry; split <;> (try split) <;> (try split) <;> omega)
    clear K1
    go_enter Try.func4, Try.ntmps4
    go_wp2_with (first
      | (go_at_call 7; refine (K.of _).mono ?_; rintro e w' ⟨rfl, rfl⟩)
      | (go_at_call 9; with_reducible refine (K.zero _ _ ?_).mono ?_; · simp [go_sem]
         rintro e w' ⟨rfl, rfl⟩)
      | (go_at_call 9; with_reducible refine (K.add _ _ ?_).mono ?_; · simp [go_sem]
         rintro e w' ⟨rfl, rfl⟩)
      | (go_at_call 10; refine (hi_any _ _ _).mono ?_; rintro e w' ⟨rfl, rfl⟩)
      | (go_at_call 11; refine (lo_any _ _ _).mono ?_; rintro e w' ⟨rfl, rfl⟩))
    go_ret
    exact ⟨rfl, by repeat (first | exact Grown.refl _ | apply Grown.alloc)⟩
  · obtain ⟨h, l, K⟩ := K1 (0) (by unfold carry; split <;> (try split) <;> (try split) <;> omega)
    clear K1
    go_enter Try.func4, Try.ntmps4
    go_wp2_with (first
      | (go_at_call 7; refine (K.of _).mono ?_; rintro e w' ⟨rfl, rfl⟩)
      | (go_at_call 9; with_reducible refine (K.zero _ _ ?_).mono ?_; · simp [go_sem]
         rintro e w' ⟨rfl, rfl⟩)
      | (go_at_call 9; with_reducible refine (K.add _ _ ?_).mono ?_; · simp [go_sem]
         rintro e w' ⟨rfl, rfl⟩)
      | (go_at_call 10; refine (hi_any _ _ _).mono ?_; rintro e w' ⟨rfl, rfl⟩)
      | (go_at_call 11; refine (lo_any _ _ _).mono ?_; rintro e w' ⟨rfl, rfl⟩))
    go_ret
    exact ⟨rfl, by repeat (first | exact Grown.refl _ | apply Grown.alloc)⟩

/-! ### THE ROW's STEP: WRITTEN OUT: LEAVE IT -/
set_option maxRecDepth 100000 in
theorem lifted (os : Os) (started : os.Started) (H : Type) (enc : TypeId × Value → H) :
    ReturnsInHanded {} Try.checked os 4 .any (Rows.fnOfThenAddIsExactTwoTermSumSpec.pre6 enc Try.prog Try.f4 Rows.fnOfThenAddIsExactTwoTermSumRow.domain false) (Rows.fnOfThenAddIsExactTwoTermSumSpec.post enc Try.prog Try.f4 false true false false) := by
  refine returnsInHanded_of_change (C := Try.checked) own started (by kernel_rfl) Try.func4
    (ChangeSpec.witness6 (enc := enc) (C := Try.checked) false ⟨#[], #[.int .i64 0, .int .i64 0], []⟩ 8 (by kernel_rfl) (by kernel_rfl) (by kernel_rfl) (by kernel_rfl)) ?_
  intro W base args ds gs before hval0 hW hcnd _
  have hval : ∀ (j : Nat) t v, Try.f4.params[j]? = some t → args[j]? = some v → Value.okWide Try.prog W .any base t v := hval0
  have hW' := hW
  obtain ⟨p, q, hA0, hV, rfl, hfz, hnd⟩ := hW
  have hA : DataW.TrodAll enc Try.prog W 0 (fun _ => true) true Try.f4.params.toList args.toList ds p := hA0
  rw [Try.params4] at hA hval
  obtain ⟨v0, vs0, d0, ds0, p0, q0, hargs, rfl, rfl, h0, r0⟩ := trodAll_cons hA
  obtain ⟨v1, vs1, d1, ds1, p1, q1, rfl, rfl, rfl, h1, r1⟩ := trodAll_cons r0
  obtain ⟨rfl, rfl, rfl⟩ := trodAll_nil r1
  obtain rfl : args = #[v0, v1] := by cases args; simp_all
  obtain ⟨rfl, rfl⟩ := trodVars_none hV
  obtain ⟨a0, rfl, rfl, rfl, w0⟩ := open_int Try.underlying2 (hval 0 2 v0 rfl rfl) h0
  obtain ⟨a1, rfl, rfl, rfl, w1⟩ := open_int Try.underlying2 (hval 1 2 v1 rfl rfl) h1
  clear hA0 hval0
  simp only [List.append_nil] at hW'
  refine (walk a0 a1 w0 w1 W).mono fun e W' ⟨he, hg⟩ => ?_
  subst he
  exact ⟨_, rfl, post_of_same (pa := []) (pv := []) hW' (fun _ _ _ => (trodAll_cons_mk (shut_bool Try.underlying4 _) trodAll_mk0)) (fun sp _ => (trodAll_cons_mk (shut_int Try.underlying2 w0) (trodAll_cons_mk (shut_int Try.underlying2 w1) trodAll_mk0))) (fun _ _ => rfl) rfl
    (hg.frame _) hg.2.1 (ok_one (by kernel_rfl) rfl (okWide_bool_mk Try.underlying4 _))⟩

theorem over : Rows.fnOfThenAddIsExactTwoTermSumRow.holds Try.pinned (OpenSpec.ofChange Rows.fnOfThenAddIsExactTwoTermSumSpec) :=
  OpenClaim.holds_of_wide 4 Try.f4 rfl rfl rfl rfl rfl rfl rfl ⟨rfl, rfl, rfl, rfl, rfl⟩ rfl rfl rfl rfl rfl (by kernel_rfl) Try.func4 (by kernel_rfl)
    (of_decide_eq_true (by kernel_rfl)) (by unfold Func.isWrapper; first | (rw [if_pos (by decide +kernel)]; kernel_rfl) | (rw [if_neg (by decide +kernel)]; exact ⟨rfl, rfl⟩))
    (fun os started H enc _ => lifted os started H enc)

/-- ████ THE STATEMENT ████ -/
theorem proved : Rows.FnOfThenAddIsExactTwoTermSumSaid :=
  over
#print axioms proved
end Go.Proofs.Qxb6606025a.fnOfThenAddIsExactTwoTermSum
