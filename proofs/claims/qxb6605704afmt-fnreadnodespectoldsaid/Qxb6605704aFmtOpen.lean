/-
  FROM THE READING OF THE ARGUMENTS TO FACTS ON MEMORY: a []byte, a []NodeB1.
-/
import Derived.Test.Qxb6605704aFmtLay
import Derived.ProofKit
import Derived.Deep.Slices
import Derived.OpenShut
namespace Go.Proofs.Qxb6605704aFmt
open Go.ChangeShapes Go.WideShapes Go.ChangeAt Go.RowKit Go.Deep

theorem Tryf.cells5 : Tryf.prog.cellsOf 5 = 1 := by kernel_rfl
theorem Tryf.cells21 : Tryf.prog.cellsOf 21 = 1 := by kernel_rfl
theorem Tryf.cells22 : Tryf.prog.cellsOf 22 = 1 := by kernel_rfl
theorem Tryf.cells25 : Tryf.prog.cellsOf 25 = 32 := by kernel_rfl
theorem Tryf.cells46 : Tryf.prog.cellsOf 46 = 66 := by kernel_rfl

section
variable {H : Type} {enc : TypeId × Value → H} {w : World} {base : Nat} {spare : Nat → Bool} {held : Bool}

theorem u8_wf {n : Int} (h : (Lit.int .u8 n).wf = true) : 0 ≤ n ∧ n < 256 := by
  simp [Lit.wf, IntKind.min, IntKind.max, IntKind.signed, IntKind.bits] at h
  omega
theorem i32_wf {n : Int} (h : (Lit.int .i32 n).wf = true) : -2147483648 ≤ n ∧ n < 2147483648 := by
  simp [Lit.wf, IntKind.min, IntKind.max, IntKind.signed, IntKind.bits] at h
  omega

/-- A []byte that can be read. -/
theorem open_bytes {fuel : Nat} {cs : List Value} {x : DataW H × List MemPlace} (h : DataW.trod enc Tryf.prog w base spare held fuel 22 cs = some x) :
    ∃ v xs, cs = [v] ∧ Rd w v xs ∧ Byts xs ∧ xs.length ≤ 9223372036854775807 := by
  rcases open_ints Tryf.underlying22 Tryf.underlying5 Tryf.cells5 h with ⟨rfl, _⟩ | ⟨a, len, cap, zs, rfl, _, hl, hm, hz, _, hc, hw⟩
  · exact ⟨_, [], rfl, Rd.nil w 0, fun x hx => (by cases hx), by simp⟩
  · unfold maxLen at hm
    have hlz : len ≤ zs.length := by rw [hz]; split <;> omega
    have htl : (zs.take len).length = len := by rw [List.length_take]; omega
    refine ⟨_, zs.take len, rfl, ?_, fun x hx => u8_wf (hw x (List.mem_of_mem_take hx)), by omega⟩
    refine ⟨some a, cap, by rw [htl], fun hn => ?_⟩
    obtain ⟨b, off, spot⟩ := a
    have hspot : spot = none := by simpa [Addr.add] using World.cell?_spot (hc 0 (by omega))
    subst hspot
    refine ⟨b, off, rfl, range_mk fun j hj => ?_⟩
    have := hc j (by omega)
    rw [Addr.add_mid] at this
    rw [this, List.getElem?_take_of_lt (by omega)]
    rw [List.getD_eq_getElem?_getD]

/-- A [32]byte among the cells. -/
theorem open_arr {fuel : Nat} {cs : List Value} {x : DataW H × List MemPlace} (h : DataW.trod enc Tryf.prog w base spare held fuel 25 cs = some x) :
    ∃ xs, cs = bv xs ∧ xs.length = 32 ∧ Byts xs := by
  obtain ⟨ys, m, _, _, hl, hn, hx⟩ := DataW.trod_array Tryf.underlying25 h
  rw [Tryf.cells25] at hl
  rw [Tryf.cells5] at hx
  have each : ∀ i, i < 32 → ∃ n, cs[i]? = some (.int .u8 n) ∧ 0 ≤ n ∧ n < 256 := by
    intro i hi
    have h1 := hx i hi
    rw [Nat.mul_one, List.getElem?_eq_getElem (show i < ys.length by omega)] at h1
    obtain ⟨n, e, _, hw⟩ := DataW.trod_int Tryf.underlying5 h1
    refine ⟨n, ?_, u8_wf hw⟩
    have : (List.take 1 (cs.drop i))[0]? = some (.int .u8 n) := by rw [e]; rfl
    rw [List.getElem?_take_of_lt (by omega), List.getElem?_drop] at this
    simpa using this
  refine ⟨cs.map intOf, ?_, by simpa using hl, ?_⟩
  · apply List.ext_getElem?
    intro i
    by_cases hi : i < 32
    · obtain ⟨n, e, _⟩ := each i hi
      simp [bv, e, intOf]
    · rw [List.getElem?_eq_none (by omega), List.getElem?_eq_none (by simp [bv]; omega)]
  · intro x hx
    obtain ⟨u, hu, rfl⟩ := List.mem_map.1 hx
    obtain ⟨i, hi, rfl⟩ := List.mem_iff_getElem.1 hu
    obtain ⟨n, e, hb⟩ := each i (by omega)
    rw [List.getElem?_eq_getElem hi] at e
    rw [Option.some.inj e]
    exact hb

/-- A NodeB1 among the cells. -/
theorem open_node {fuel : Nat} {cs : List Value} {x : DataW H × List MemPlace} (h : DataW.trod enc Tryf.prog w base spare held fuel 46 cs = some x) :
    ∃ n : Nd, cs = n.cells ∧ n.Ok ∧ RdA w none n.sv n.sig := by
  obtain ⟨ys, m, _, _, hl, hn, hx⟩ := DataW.trod_struct Tryf.underlying46 h
  rw [Tryf.cells46] at hl
  have e0 : DataW.trod enc Tryf.prog w base spare held m 25 ((cs.drop 0).take (Tryf.prog.cellsOf 25)) = ys[0]? := hx 0 _ rfl
  have e1 : DataW.trod enc Tryf.prog w base spare held m 25 ((cs.drop 32).take (Tryf.prog.cellsOf 25)) = ys[1]? := hx 1 _ rfl
  have e2 : DataW.trod enc Tryf.prog w base spare held m 21 ((cs.drop 64).take (Tryf.prog.cellsOf 21)) = ys[2]? := hx 2 _ rfl
  have e3 : DataW.trod enc Tryf.prog w base spare held m 22 ((cs.drop 65).take (Tryf.prog.cellsOf 22)) = ys[3]? := hx 3 _ rfl
  have hn4 : ys.length = 4 := hn
  rw [List.getElem?_eq_getElem (by omega)] at e0 e1 e2 e3
  simp only [Tryf.cells25, Tryf.cells21, Tryf.cells22] at e0 e1 e2 e3
  obtain ⟨a, ha, la, ba⟩ := open_arr e0
  obtain ⟨b, hb, lb, bb⟩ := open_arr e1
  obtain ⟨c, hc, _, wc⟩ := DataW.trod_int Tryf.underlying21 e2
  obtain ⟨v, sg, hv, rv, bs, _⟩ := open_bytes e3
  have wc' := i32_wf wc
  refine ⟨⟨a, b, c, sg, v⟩, ?_, ⟨la, lb, ba, bb, wc'.1, wc'.2, bs⟩, ?_⟩
  · have s1 : cs = cs.take 32 ++ cs.drop 32 := (List.take_append_drop 32 cs).symm
    have s2 : cs.drop 32 = (cs.drop 32).take 32 ++ cs.drop 64 := by
      have := (List.take_append_drop 32 (cs.drop 32)).symm
      rwa [List.drop_drop] at this
    have s3 : cs.drop 64 = (cs.drop 64).take 1 ++ cs.drop 65 := by
      have := (List.take_append_drop 1 (cs.drop 64)).symm
      rwa [List.drop_drop] at this
    have s4 : cs.drop 65 = (cs.drop 65).take 1 := by rw [List.take_of_length_le]; simp; omega
    rw [s1, s2, s3, s4]
    simp only [List.drop_zero] at ha
    unfold Nd.cells
    rw [ha, hb, hc, hv]
    rfl
  · obtain ⟨a5, c5, e5, h5⟩ := rv
    exact ⟨a5, c5, e5, fun hz => let ⟨b5, o5, e6, h6⟩ := h5 hz; ⟨b5, o5, e6, fun h => (by cases h), h6⟩⟩

/-- A []NodeB1 that can be read. -/
theorem open_nodes {fuel : Nat} {cs : List Value} {x : DataW H × List MemPlace} (h : DataW.trod enc Tryf.prog w base spare held fuel 47 cs = some x) :
    ∃ v ns, cs = [v] ∧ RdN w none v ns ∧ (∀ n ∈ ns, n.Ok) ∧ ns.length ≤ 9223372036854775807 := by
  rcases open_slice Tryf.underlying47 h with ⟨rfl, _⟩ | ⟨a, len, cap, m, k, D, Pl, rfl, _, hl, hm, hmm, _, hx⟩
  · exact ⟨_, [], rfl, ⟨none, 0, rfl, fun h => absurd rfl h⟩, fun n hn => (by cases hn), by simp⟩
  · unfold maxLen at hm
    have hlm : len ≤ m := by rw [hmm]; split <;> omega
    rw [Tryf.cells46] at hx
    have each : ∀ i, i < len → ∃ n : Nd, w.cells? base (a.add (i * 66)) 66 = some n.cells ∧ n.Ok ∧ RdA w none n.sv n.sig := by
      intro i hi
      obtain ⟨cs', h1, h2⟩ := hx i (by omega)
      obtain ⟨n, rfl, h3, h4⟩ := open_node h2
      exact ⟨n, h1, h3, h4⟩
    obtain ⟨F, hF⟩ : ∃ F : Nat → Nd, ∀ i, i < len → w.cells? base (a.add (i * 66)) 66 = some (F i).cells ∧ (F i).Ok ∧ RdA w none (F i).sv (F i).sig := by
      refine ⟨fun i => if hi : i < len then Classical.choose (each i hi) else ⟨[], [], 0, [], .slice none 0 0⟩, fun i hi => ?_⟩
      simp only [hi, dif_pos]
      exact Classical.choose_spec (each i hi)
    refine ⟨_, (List.range len).map F, rfl, ⟨some a, cap, by simp, fun hn => ?_⟩, ?_, by simp; omega⟩
    · simp at hn
      obtain ⟨b, off, spot⟩ := a
      have h0 := (World.cells?_some (hF 0 (by omega)).1).2.2 0 (by omega)
      have hlen0 := (hF 0 (by omega)).2.1.length
      have hspot : spot = none := by
        rw [List.getElem?_eq_getElem (by omega)] at h0
        simpa [Addr.add] using World.cell?_spot h0
      subst hspot
      refine ⟨b, off, rfl, fun i n e => ?_⟩
      have hi : i < len := by have := (List.getElem?_eq_some_iff.1 e).1; simpa using this
      simp [hi] at e
      subst e
      obtain ⟨h1, h2, h3⟩ := hF i hi
      refine ⟨fun j u hj => ?_, fun h => (by cases h), h3⟩
      have hj66 : j < 66 := by have := (List.getElem?_eq_some_iff.1 hj).1; rw [h2.length] at this; exact this
      have := (World.cells?_some h1).2.2 j hj66
      rw [Addr.add_mid, Addr.add_mid] at this
      rw [this, hj]
    · intro n hn
      obtain ⟨i, hi, rfl⟩ := List.mem_map.1 hn
      exact (hF i (by simpa using hi)).2.1
end
end Go.Proofs.Qxb6605704aFmt
