/-
  THE TOLD CARD OF FnReadNodeRoundTrip.
-/
import Derived.Test.Qxb6605704aFmtRound
import Derived.Test.Qxb6605704aFmtFrame
namespace Go.Proofs.Qxb6605704aFmt
open Go.ChangeShapes Go.WideShapes Go.ChangeAt Go.RowKit Go.Kit
open Go.Extern.Stop Go.Stop Go.Extern

theorem okWide_arr {P : Program} {w : World} {r : Reach} {base : Nat} {t : TypeId} {v : Value} {n : Nat} {e : TypeId} (ht : P.underlying t = some (.array n e)) (h : Value.okWide P w r base t v) : ∃ cs, v = .agg cs := by
  simp only [Value.okWide, ht] at h
  obtain ⟨cs, h1, _⟩ := h
  exact ⟨cs, h1⟩

set_option maxRecDepth 100000 in
theorem round_lifted (os : Os) (started : os.Started) (H : Type) (enc : TypeId × Value → H) :
    ReturnsInTold none {} Tryf.checked os 4 .any Input.okWide ((OpenSpec.ofChange Rows.fnReadNodeRoundTripSpec).preRow enc Tryf.prog Tryf.f4 [] false []) (fun F => ((OpenSpec.ofChange Rows.fnReadNodeRoundTripSpec).at F).post enc Tryf.prog Tryf.f4 false true false false) (aloneAtReturn Tryf.prog) nothingAlways := by
  refine returnsInTold_of_row (C := Tryf.checked) (s := OpenSpec.ofChange Rows.fnReadNodeRoundTripSpec) (by kernel_rfl) Tryf.own started (by kernel_rfl) Tryf.func4
    (OpenSpec.witness_stopped (enc := enc) (C := Tryf.checked) false ⟨#[], #[.agg (bv (List.replicate 32 0)).toArray, .agg (bv (List.replicate 32 0)).toArray, .int .i32 0, .slice none 0 0], []⟩ 8 (by kernel_rfl) (by kernel_rfl) (by kernel_rfl) (by kernel_rfl)) ?_
  intro F W base args ds gs before _ _ hval0 hW _ _ _ _ _
  have hval : ∀ (j : Nat) t v, Tryf.f4.params[j]? = some t → args[j]? = some v → Value.okWide Tryf.prog W .any base t v := hval0
  have hW' := hW
  obtain ⟨p, q, hA0, hV, rfl, _, _⟩ := hW
  have hA : DataW.TrodAll enc Tryf.prog W 0 (fun _ => true) true Tryf.f4.params.toList args.toList ds p := hA0
  rw [Tryf.params4] at hA hval
  obtain ⟨v0, v1, v2, v3, d0, d1, d2, d3, p0, p1, p2, p3, rfl, rfl, rfl, h0, h1, h2, h3⟩ := trodAll_four hA
  obtain ⟨rfl, rfl⟩ := trodVars_none hV
  obtain ⟨ver, rfl, rfl, rfl, wl⟩ := open_int Tryf.underlying21 (hval 2 21 v2 rfl rfl) h2
  obtain ⟨a3, l3, c3, rfl⟩ := okWide_slice Tryf.underlying22 (hval 3 22 v3 rfl rfl)
  obtain ⟨cs0, rfl⟩ := okWide_arr Tryf.underlying25 (hval 0 25 v0 rfl rfl)
  obtain ⟨cs1, rfl⟩ := okWide_arr Tryf.underlying25 (hval 1 25 v1 rfl rfl)
  clear hA0 hval0 hval hA
  simp only [List.append_nil] at hW'
  have hlt : ∀ x ∈ p0 ++ p1 ++ p3, x.block < W.heap.size := fun x hx => by simpa using hW'.lt x hx
  have ha0 : ∀ (W' : World), Below W.heap.size W W' → DataW.Trod enc Tryf.prog W' 0 (fun b => decide (b < W.heap.size)) true 25 (.agg cs0) d0 p0 :=
    fun W' hn => Below.trod Tryf.laidOut (by kernel_rfl) (of_decide_eq_true (by kernel_rfl)) h0 hn fun x hx => hlt x (by simp [hx])
  have ha1 : ∀ (W' : World), Below W.heap.size W W' → DataW.Trod enc Tryf.prog W' 0 (fun b => decide (b < W.heap.size)) true 25 (.agg cs1) d1 p1 :=
    fun W' hn => Below.trod Tryf.laidOut (by kernel_rfl) (of_decide_eq_true (by kernel_rfl)) h1 hn fun x hx => hlt x (by simp [hx])
  have ha3 : ∀ (W' : World), Below W.heap.size W W' → DataW.Trod enc Tryf.prog W' 0 (fun b => decide (b < W.heap.size)) true 22 (.slice a3 l3 c3) d3 p3 :=
    fun W' hn => Below.trod Tryf.laidOut (by kernel_rfl) (of_decide_eq_true (by kernel_rfl)) h3 hn fun x hx => hlt x (by simp [hx])
  obtain ⟨f0, hf0⟩ := h0
  obtain ⟨f1, hf1⟩ := h1
  obtain ⟨f3, hf3⟩ := h3
  obtain ⟨xs, e0, hx, hxb⟩ := open_arr hf0
  obtain ⟨ys, e1, hy, hyb⟩ := open_arr hf1
  obtain ⟨u, zs, eu, hu, hz, hzl⟩ := open_bytes hf3
  simp [Value.cells] at eu
  subst eu
  obtain rfl : cs0 = (bv xs).toArray := by apply Array.toList_inj.1; simpa [Value.cells] using e0
  obtain rfl : cs1 = (bv ys).toArray := by apply Array.toList_inj.1; simpa [Value.cells] using e1
  have hv := i32_wf wl
  refine (round_any ⟨xs, ys, ver, zs, .slice a3 l3 c3⟩ W ⟨hx, hy, hxb, hyb, hv.1, hv.2, hz⟩ hu hzl).mono fun e W' ⟨he, hB⟩ => ?_
  subst he
  have harg := trodAll_mk4 (ha0 _ hB) (ha1 _ hB) (shut_int Tryf.underlying21 wl) (ha3 _ hB)
  rw [List.nil_append, ← List.append_assoc] at harg
  exact ⟨_, rfl, _, _, _, [], p0 ++ p1 ++ p3, [], hW', trodAll_mk1 (shut_bool Tryf.underlying4 true), harg, rfl, hB.frame _, fun h => by cases h⟩

theorem round_holds : Rows.FnReadNodeRoundTripToldSaid :=
  Claim7.holds_of_told_any 4 Tryf.f4 _ _ [] _ _ _ (by kernel_rfl) rfl rfl rfl Tryf.laidOut (by kernel_rfl) rfl ⟨rfl, rfl, rfl, rfl, rfl, rfl, rfl⟩ rfl rfl (by kernel_rfl) (by kernel_rfl) Tryf.func4 (by kernel_rfl)
    (of_decide_eq_true (by kernel_rfl)) (by unfold Func.isWrapper; rw [if_neg (of_decide_eq_false (by kernel_rfl))]; exact ⟨rfl, rfl⟩) Tryf.stops.symm rfl Tryf.stopKnobs.symm (by kernel_rfl)
    (by kernel_rfl) (by kernel_rfl) (by kernel_rfl) (by kernel_rfl) (by kernel_rfl) (by kernel_rfl) (by kernel_rfl) (by kernel_rfl) (by kernel_rfl) rfl (by kernel_rfl) rfl rfl
    rfl rfl
    rfl (by kernel_rfl) (by kernel_rfl) (by kernel_rfl) (by decide) (by kernel_rfl)
    (OpenClaim.moreEntering_of (by kernel_rfl) (by kernel_rfl) (by kernel_rfl) (by kernel_rfl) (by kernel_rfl) (by kernel_rfl) (by kernel_rfl) (by kernel_rfl) (by kernel_rfl) (by kernel_rfl))
    ⟨_, WideRow.started_initial, Tryf.quiet _⟩
    (fun os started _ H enc _ => round_lifted os started H enc)
end Go.Proofs.Qxb6605704aFmt
