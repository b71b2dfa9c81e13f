/-
  THE TOLD CARD OF FnNodesTrimCount.
-/
import Derived.Test.Qxb6605704aFmtCount
import Derived.Test.Qxb6605704aFmtFrame
namespace Go.Proofs.Qxb6605704aFmt
open Go.ChangeShapes Go.WideShapes Go.ChangeAt Go.RowKit Go.Kit
open Go.Extern.Stop Go.Stop Go.Extern

set_option maxRecDepth 100000 in
theorem count_lifted (os : Os) (started : os.Started) (H : Type) (enc : TypeId × Value → H) :
    ReturnsInTold none {} Tryf.checked os 8 .any Input.okWide ((OpenSpec.ofChange Rows.fnNodesTrimCountSpec).preRow enc Tryf.prog Tryf.f8 [] false []) (fun F => ((OpenSpec.ofChange Rows.fnNodesTrimCountSpec).at F).post enc Tryf.prog Tryf.f8 false true false false) (aloneAtReturn Tryf.prog) nothingAlways := by
  refine returnsInTold_of_row (C := Tryf.checked) (s := OpenSpec.ofChange Rows.fnNodesTrimCountSpec) (by kernel_rfl) Tryf.own started (by kernel_rfl) Tryf.func8
    (OpenSpec.witness_stopped (enc := enc) (C := Tryf.checked) false ⟨#[], #[.slice none 0 0, .int .i64 0], []⟩ 8 (by kernel_rfl) (by kernel_rfl) (by kernel_rfl) (by kernel_rfl)) ?_
  intro F W base args ds gs before _ _ hval0 hW _ _ _ _ _
  have hval : ∀ (j : Nat) t v, Tryf.f8.params[j]? = some t → args[j]? = some v → Value.okWide Tryf.prog W .any base t v := hval0
  have hW' := hW
  obtain ⟨p, q, hA0, hV, rfl, _, _⟩ := hW
  have hA : DataW.TrodAll enc Tryf.prog W 0 (fun _ => true) true Tryf.f8.params.toList args.toList ds p := hA0
  rw [Tryf.params8] at hA hval
  obtain ⟨v0, v1, d0, d1, p0, p1, rfl, rfl, rfl, h0, h1⟩ := trodAll_two hA
  obtain ⟨rfl, rfl⟩ := trodVars_none hV
  obtain ⟨a0, l0, c0, rfl⟩ := okWide_slice Tryf.underlying47 (hval 0 47 v0 rfl rfl)
  obtain ⟨lim, rfl, rfl, rfl, wl⟩ := open_int Tryf.underlying3 (hval 1 3 v1 rfl rfl) h1
  clear hA0 hval0 hval hA
  simp only [List.append_nil] at hW'
  have hlt : ∀ x ∈ p0, x.block < W.heap.size := fun x hx => by simpa using hW'.lt x hx
  have ha0 : ∀ (W' : World), Below W.heap.size W W' → DataW.Trod enc Tryf.prog W' 0 (fun b => decide (b < W.heap.size)) true 47 (.slice a0 l0 c0) d0 p0 :=
    fun W' hn => Below.trod Tryf.laidOut (by kernel_rfl) (of_decide_eq_true (by kernel_rfl)) h0 hn hlt
  obtain ⟨f0, hf0⟩ := h0
  obtain ⟨v, ns, ev, hv, hk, hN⟩ := open_nodes hf0
  simp [Value.cells] at ev
  subst ev
  refine (count_any _ ns lim W hv hk hN).mono fun e W' ⟨he, hB⟩ => ?_
  subst he
  have harg := trodAll_mk2 (ha0 _ hB) (shut_int Tryf.underlying3 wl)
  rw [List.append_nil] at harg
  exact ⟨_, rfl, _, _, _, [], p0, [], hW', trodAll_mk1 (shut_bool Tryf.underlying4 true), harg, rfl, hB.frame _, fun h => by cases h⟩

theorem count_holds : Rows.FnNodesTrimCountToldSaid :=
  Claim7.holds_of_told_any 8 Tryf.f8 _ _ [] _ _ _ (by kernel_rfl) rfl rfl rfl Tryf.laidOut (by kernel_rfl) rfl ⟨rfl, rfl, rfl, rfl, rfl, rfl, rfl⟩ rfl rfl (by kernel_rfl) (by kernel_rfl) Tryf.func8 (by kernel_rfl)
    (of_decide_eq_true (by kernel_rfl)) (by unfold Func.isWrapper; rw [if_neg (of_decide_eq_false (by kernel_rfl))]; exact ⟨rfl, rfl⟩) Tryf.stops.symm rfl Tryf.stopKnobs.symm (by kernel_rfl)
    (by kernel_rfl) (by kernel_rfl) (by kernel_rfl) (by kernel_rfl) (by kernel_rfl) (by kernel_rfl) (by kernel_rfl) (by kernel_rfl) (by kernel_rfl) rfl (by kernel_rfl) rfl rfl
    rfl rfl
    rfl (by kernel_rfl) (by kernel_rfl) (by kernel_rfl) (by decide) (by kernel_rfl)
    (OpenClaim.moreEntering_of (by kernel_rfl) (by kernel_rfl) (by kernel_rfl) (by kernel_rfl) (by kernel_rfl) (by kernel_rfl) (by kernel_rfl) (by kernel_rfl) (by kernel_rfl) (by kernel_rfl))
    ⟨_, WideRow.started_initial, Tryf.quiet _⟩
    (fun os started _ H enc _ => count_lifted os started H enc)
end Go.Proofs.Qxb6605704aFmt
