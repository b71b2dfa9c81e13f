/-
  WALK OF buildB1 (25); WHAT cloneNodesB1 AND buildB1 GIVE, SAID OF WHAT IS READ.
-/
import Derived.Test.Qxb6605704aFmtClone
namespace Go.Proofs.Qxb6605704aFmt
open Go.RowKit

set_option maxRecDepth 100000 in
set_option maxHeartbeats 1000000 in
theorem build_some (ad : Addr) (c : Nat) (ns : List Nd) (w : World) (hns : ns.length ≠ 0 → ∃ b o, ad = ⟨b, o, none⟩ ∧ NdsAt w none b o ns) (k : ∀ n ∈ ns, n.Ok) (hN : ns.length ≤ 1048576) :
    Calls Tryf.prog 25 #[.slice (some ad) ns.length c] w fun e w' => e = .returned (.slice (some ⟨w.heap.size, 0, none⟩) ns.length ns.length) ∧ ClInv w w.heap.size w' ns.length ns.length ns := by
  have hq := eqnil47
  have hmk := make43 ns.length hN
  go_enter Tryf.func25, Tryf.ntmps25
  go_wp2
  clear hmk
  go_loopw [12] (fun i wr => ∃ (m : Nat), m ≤ ns.length ∧ i = .int .i64 m ∧ ClInv w w.heap.size wr ns.length m (ns.take m)) (fun i _ => ns.length - (intOf i).toNat)
  case atStart => exact ⟨0, Nat.zero_le _, rfl, ClInv.start w ns.length 34⟩
  case round =>
    obtain ⟨m, hm, rfl, hI⟩ := hrel
    by_cases hlt : m < ns.length
    · obtain ⟨b, o, rfl, hnd⟩ := hns (by omega)
      have hi : (m : Int) < ns.length := by omega
      have km := k _ (List.getElem_mem hlt)
      have hn := hnd m _ (List.getElem?_eq_getElem hlt)
      have hsn : Hid (ns.take (m + 1) = ns.take m ++ [ns[m]]) := List.take_succ_eq_append_getElem hlt
      generalize ns[m] = n at km hn hsn
      obtain ⟨a3, c3, hsv, _⟩ := hn.sig
      have hbw : b < w.heap.size := range_lt hn.cells (by rw [km.length]; decide)
      have hH : wr.drew.rangeAt b (o + m * 66) (bv n.id) ∧ wr.drew.rangeAt b (o + m * 66 + 32) (bv n.ov) ∧ wr.drew.cell? ⟨b, o + m * 66 + 64, none⟩ = some (.int .i32 n.ver) ∧ wr.drew.cell? ⟨b, o + m * 66 + 65, none⟩ = some (.slice a3 n.sig.length c3) ∧ wr.drew.there w.heap.size (m * 66) 66 := by
        have hb := hI.below.block b hbw
        refine ⟨by simpa using range_of_block hb hn.id, by simpa using range_of_block hb (hn.ov km), ?_, ?_, ?_⟩
        · rw [World.cell?_drew, World.cell?_of_block (w := w) (a := ⟨b, o + m * 66 + 64, none⟩) hb]; exact hn.ver km
        · rw [World.cell?_drew, World.cell?_of_block (w := w) (a := ⟨b, o + m * 66 + 65, none⟩) hb, ← hsv]; exact hn.sv km
        · rw [World.there_drew]
          intro j hj
          have := hI.there (m * 66 + j) (by omega)
          simpa using this
      have i25 : (Tryf.prog.info? 25).map (·.size) = some (bv n.id).length := by rw [bv_length, km.id]; exact Tryf.size25
      have i25' : (Tryf.prog.info? 25).map (·.size) = some (bv n.ov).length := by rw [bv_length, km.ov]; exact Tryf.size25
      have hb34 := fun W => build34 n km a3 n.sig.length c3 W hsv
      have hone := cells_one n hsv
      have hsv := hide hsv
      have hrA : RdA wr (some w.heap.size) n.sv n.sig := by
        obtain ⟨a5, c5, e5, h5⟩ := hn.sig
        refine ⟨a5, c5, e5, fun hz => ?_⟩
        obtain ⟨b5, o5, e6, _, h6⟩ := h5 hz
        have hlt5 := range_lt h6 (by simpa [bv] using hz)
        exact ⟨b5, o5, e6, fun e => by have := Option.some.inj e; omega, range_of_block (hI.below.block b5 hlt5) h6⟩
      clear hns hnd
      go_wp2
      refine wp_region_noPanic ?_
      refine wp_region_held_drew (S := fun W => W.rangeAt b (o + m * 66) (bv n.id) ∧ W.rangeAt b (o + m * 66 + 32) (bv n.ov) ∧ W.cell? ⟨b, o + m * 66 + 64, none⟩ = some (.int .i32 n.ver) ∧ W.cell? ⟨b, o + m * 66 + 65, none⟩ = some (.slice a3 n.sig.length c3) ∧ W.there w.heap.size (m * 66) 66)
        (by kernel_rfl) hH (fun hHeld => ?_)
      refine takeL (i := 0) (v := ?_) rfl (by kernel_rfl) (by kernel_rfl) (by kernel_rfl) (fun _ _ _ h => h) (Or.inl ⟨by rfl, ?_⟩) hHeld ?_
      rotate_left
      · intro W hW; obtain ⟨_, _, _, _, _⟩ := hW; go_simp; first | done | with_reducible rfl
      simp only [Act.put, List.setIfInBounds_toArray, List.set_cons_zero, List.set_cons_succ]
      refine takeL (i := 1) (v := ?_) rfl (by kernel_rfl) (by kernel_rfl) (by kernel_rfl) (fun _ _ _ h => h) (Or.inl ⟨by rfl, ?_⟩) hHeld ?_
      rotate_left
      · intro W hW; obtain ⟨_, _, _, _, _⟩ := hW; go_simp; first | done | with_reducible rfl
      simp only [Act.put, List.setIfInBounds_toArray, List.set_cons_zero, List.set_cons_succ]
      refine takeL (i := 2) (v := ?_) rfl (by kernel_rfl) (by kernel_rfl) (by kernel_rfl) (fun _ _ _ h => h) (Or.inl ⟨by rfl, ?_⟩) hHeld ?_
      rotate_left
      · intro W hW; obtain ⟨_, _, _, _, _⟩ := hW; go_simp; first | done | with_reducible rfl
      simp only [Act.put, List.setIfInBounds_toArray, List.set_cons_zero, List.set_cons_succ]
      refine takeL (i := 3) (v := ?_) rfl (by kernel_rfl) (by kernel_rfl) (by kernel_rfl) (fun _ _ _ h => h) (Or.inl ⟨by rfl, ?_⟩) hHeld ?_
      rotate_left
      · intro W hW; obtain ⟨_, _, _, _, _⟩ := hW; go_simp; first | done | with_reducible rfl
      simp only [Act.put, List.setIfInBounds_toArray, List.set_cons_zero, List.set_cons_succ]
      refine takeL (i := 4) (v := ?_) rfl (by kernel_rfl) (by kernel_rfl) (by kernel_rfl) (fun _ _ _ h => h) (Or.inl ⟨by rfl, ?_⟩) hHeld ?_
      rotate_left
      · intro W hW; obtain ⟨_, _, _, _, _⟩ := hW; go_simp; first | done | with_reducible rfl
      simp only [Act.put, List.setIfInBounds_toArray, List.set_cons_zero, List.set_cons_succ]
      refine takeL (i := 5) (v := ?_) rfl (by kernel_rfl) (by kernel_rfl) (by kernel_rfl) (fun _ _ _ h => h) (Or.inl ⟨by rfl, ?_⟩) hHeld ?_
      rotate_left
      · intro W hW; obtain ⟨_, _, _, _, _⟩ := hW; go_simp; first | done | with_reducible rfl
      simp only [Act.put, List.setIfInBounds_toArray, List.set_cons_zero, List.set_cons_succ]
      refine takeL (i := 6) rfl (by kernel_rfl) (by kernel_rfl) (by kernel_rfl) (fun _ _ _ h => h) (yieldsIf_load_mid (by rfl) 25 (.tmp 20) rfl b (o + m * 66) rfl (bv n.id) _ (fun _ hW => hW.1) Tryf.underlying25 rfl i25) hHeld ?_
      simp only [Act.put, List.setIfInBounds_toArray, List.set_cons_zero, List.set_cons_succ]
      refine takeL (i := 7) (v := ?_) rfl (by kernel_rfl) (by kernel_rfl) (by kernel_rfl) (fun _ _ _ h => h) (Or.inl ⟨by rfl, ?_⟩) hHeld ?_
      rotate_left
      · intro W hW; obtain ⟨_, _, _, _, _⟩ := hW; go_simp; first | done | with_reducible rfl
      simp only [Act.put, List.setIfInBounds_toArray, List.set_cons_zero, List.set_cons_succ]
      refine takeL (i := 8) (v := ?_) rfl (by kernel_rfl) (by kernel_rfl) (by kernel_rfl) (fun _ _ _ h => h) (Or.inl ⟨by rfl, ?_⟩) hHeld ?_
      rotate_left
      · intro W hW; obtain ⟨_, _, _, _, _⟩ := hW; go_simp; first | done | with_reducible rfl
      simp only [Act.put, List.setIfInBounds_toArray, List.set_cons_zero, List.set_cons_succ]
      refine takeL (i := 9) (v := ?_) rfl (by kernel_rfl) (by kernel_rfl) (by kernel_rfl) (fun _ _ _ h => h) (Or.inl ⟨by rfl, ?_⟩) hHeld ?_
      rotate_left
      · intro W hW; obtain ⟨_, _, _, _, _⟩ := hW; go_simp; first | done | with_reducible rfl
      simp only [Act.put, List.setIfInBounds_toArray, List.set_cons_zero, List.set_cons_succ]
      refine takeL (i := 10) (v := ?_) rfl (by kernel_rfl) (by kernel_rfl) (by kernel_rfl) (fun _ _ _ h => h) (Or.inl ⟨by rfl, ?_⟩) hHeld ?_
      rotate_left
      · intro W hW; obtain ⟨_, _, _, _, _⟩ := hW; go_simp; first | done | with_reducible rfl
      simp only [Act.put, List.setIfInBounds_toArray, List.set_cons_zero, List.set_cons_succ]
      refine takeL (i := 11) rfl (by kernel_rfl) (by kernel_rfl) (by kernel_rfl) (fun _ _ _ h => h) (yieldsIf_load_mid (by rfl) 25 (.tmp 25) rfl b (o + m * 66 + 32) rfl (bv n.ov) _ (fun _ hW => hW.2.1) Tryf.underlying25 rfl i25') hHeld ?_
      simp only [Act.put, List.setIfInBounds_toArray, List.set_cons_zero, List.set_cons_succ]
      refine takeL (i := 12) (v := ?_) rfl (by kernel_rfl) (by kernel_rfl) (by kernel_rfl) (fun _ _ _ h => h) (Or.inl ⟨by rfl, ?_⟩) hHeld ?_
      rotate_left
      · intro W hW; obtain ⟨_, _, _, _, _⟩ := hW; go_simp; first | done | with_reducible rfl
      simp only [Act.put, List.setIfInBounds_toArray, List.set_cons_zero, List.set_cons_succ]
      refine takeL (i := 13) (v := ?_) rfl (by kernel_rfl) (by kernel_rfl) (by kernel_rfl) (fun _ _ _ h => h) (Or.inl ⟨by rfl, ?_⟩) hHeld ?_
      rotate_left
      · intro W hW; obtain ⟨_, _, _, _, _⟩ := hW; go_simp; first | done | with_reducible rfl
      simp only [Act.put, List.setIfInBounds_toArray, List.set_cons_zero, List.set_cons_succ]
      refine takeL (i := 14) (v := ?_) rfl (by kernel_rfl) (by kernel_rfl) (by kernel_rfl) (fun _ _ _ h => h) (Or.inl ⟨by rfl, ?_⟩) hHeld ?_
      rotate_left
      · intro W hW; obtain ⟨_, _, _, _, _⟩ := hW; go_simp; first | done | with_reducible rfl
      simp only [Act.put, List.setIfInBounds_toArray, List.set_cons_zero, List.set_cons_succ]
      refine takeL (i := 15) (v := ?_) rfl (by kernel_rfl) (by kernel_rfl) (by kernel_rfl) (fun _ _ _ h => h) (Or.inl ⟨by rfl, ?_⟩) hHeld ?_
      rotate_left
      · intro W hW; obtain ⟨_, _, _, _, _⟩ := hW; go_simp; first | done | with_reducible rfl
      simp only [Act.put, List.setIfInBounds_toArray, List.set_cons_zero, List.set_cons_succ]
      refine takeL (i := 16) (v := ?_) rfl (by kernel_rfl) (by kernel_rfl) (by kernel_rfl) (fun _ _ _ h => h) (Or.inl ⟨by rfl, ?_⟩) hHeld ?_
      rotate_left
      · intro W hW; obtain ⟨_, _, _, _, _⟩ := hW; go_simp; first | done | with_reducible rfl
      simp only [Act.put, List.setIfInBounds_toArray, List.set_cons_zero, List.set_cons_succ]
      refine takeL (i := 17) (v := ?_) rfl (by kernel_rfl) (by kernel_rfl) (by kernel_rfl) (fun _ _ _ h => h) (Or.inl ⟨by rfl, ?_⟩) hHeld ?_
      rotate_left
      · intro W hW; obtain ⟨_, _, _, _, _⟩ := hW; go_simp; first | done | with_reducible rfl
      simp only [Act.put, List.setIfInBounds_toArray, List.set_cons_zero, List.set_cons_succ]
      refine takeL (i := 18) (v := ?_) rfl (by kernel_rfl) (by kernel_rfl) (by kernel_rfl) (fun _ _ _ h => h) (Or.inl ⟨by rfl, ?_⟩) hHeld ?_
      rotate_left
      · intro W hW; obtain ⟨_, _, _, _, _⟩ := hW; go_simp; first | done | with_reducible rfl
      simp only [Act.put, List.setIfInBounds_toArray, List.set_cons_zero, List.set_cons_succ]
      refine takeL (i := 19) (v := ?_) rfl (by kernel_rfl) (by kernel_rfl) (by kernel_rfl) (fun _ _ _ h => h) (Or.inl ⟨by rfl, ?_⟩) hHeld ?_
      rotate_left
      · intro W hW; obtain ⟨_, _, _, _, _⟩ := hW; go_simp; first | done | with_reducible rfl
      simp only [Act.put, List.setIfInBounds_toArray, List.set_cons_zero, List.set_cons_succ]
      refine takeL (i := 20) (v := ?_) rfl (by kernel_rfl) (by kernel_rfl) (by kernel_rfl) (fun _ _ _ h => h) (Or.inl ⟨by rfl, ?_⟩) hHeld ?_
      rotate_left
      · intro W hW; obtain ⟨_, _, _, _, _⟩ := hW; go_simp; first | done | with_reducible rfl
      simp only [Act.put, List.setIfInBounds_toArray, List.set_cons_zero, List.set_cons_succ]
      refine takeL (i := 21) (v := ?_) rfl (by kernel_rfl) (by kernel_rfl) (by kernel_rfl) (fun _ _ _ h => h) (Or.inl ⟨by rfl, ?_⟩) hHeld ?_
      rotate_left
      · intro W hW; obtain ⟨_, _, _, _, _⟩ := hW; go_simp; first | done | with_reducible rfl
      simp only [Act.put, List.setIfInBounds_toArray, List.set_cons_zero, List.set_cons_succ]
      refine takeL (i := 22) (v := .agg n.cells.toArray) rfl (by kernel_rfl) (by kernel_rfl) (by kernel_rfl) (fun _ _ _ h => h) (yieldsIf_build (by rfl) 34 (.tmp 21) (.tmp 26) (.tmp 31) (.tmp 36) rfl _ hb34) hHeld ?_
      simp only [Act.put, List.setIfInBounds_toArray, List.set_cons_zero, List.set_cons_succ]
      refine takeL (i := 23) (v := .pointer (some ⟨w.heap.size, m * 66, none⟩)) rfl (by kernel_rfl) (by kernel_rfl) (by kernel_rfl) (fun _ _ _ h => h) (Or.inl ⟨by rfl, ?_⟩) hHeld ?_
      · intro W hW; clear hHeld hW; go_simp
      simp only [Act.put, List.setIfInBounds_toArray, List.set_cons_zero, List.set_cons_succ]
      have hsz : n.cells.toArray.size = 66 := by rw [List.size_toArray]; exact km.length
      refine stepL (i := 24) rfl (by kernel_rfl) (by rfl) (fun K hK => ?_)
      refine wp_store_mid 34 (.tmp 38) (.tmp 37) rfl w.heap.size (m * 66) n.cells.toArray rfl rfl ?_ ?_ (all_oneCell_toArray hone) ?_
      · rw [hsz]; exact hHeld.2.2.2.2
      · rw [hsz]; exact Tryf.size34
      refine hK.out _ _ (held_store' hHeld (by omega)) (fun _ => ?_)
      clear hK K hHeld hb34
      refine wpAnyH_done (by kernel_rfl) ?_ _
      refine NoPanic.normal ?_
      have hst := hI.step (w1 := wr.drew) hlt (Nat.le_refl _) km (Below.refl _ _).drew (hrA.kept fun _ _ _ => rfl)
      clear hI hrA hH
      go_wp2
      go_roundw
      case rel => exact ⟨m + 1, by omega, by go_num, by rw [unhide hsn]; exact hst⟩
      case measure => simp [intOf]; omega
    · have hi : ¬ (m : Int) < ns.length := by omega
      go_wp2
      go_ret
      have : m = ns.length := by omega
      subst this
      rw [List.take_length] at hI
      exact ⟨rfl, hI⟩

/-! ### What is read -/
theorem RdA.any {w : World} {row : Option Nat} {sv : Value} {ys : List Int} (h : RdA w row sv ys) : RdA w none sv ys := by
  obtain ⟨a, c, e, h⟩ := h
  exact ⟨a, c, e, fun hn => let ⟨b, o, e', _, hr⟩ := h hn; ⟨b, o, e', fun h => (by cases h), hr⟩⟩
theorem RdA.row {w : World} {sv : Value} {ys : List Int} (h : RdA w none sv ys) {g : Nat} (hg : w.heap.size ≤ g) : RdA w (some g) sv ys := by
  obtain ⟨a, c, e, h⟩ := h
  refine ⟨a, c, e, fun hn => ?_⟩
  obtain ⟨b, o, e', _, hr⟩ := h hn
  have := range_lt hr (by simpa [bv] using hn)
  exact ⟨b, o, e', fun h => by have := Option.some.inj h; omega, hr⟩
theorem ClInv.nds {w : World} {g : Nat} {wr : World} {N m : Nat} {ms : List Nd} (h : ClInv w g wr N m ms) : NdsAt wr none g 0 ms := fun i n e =>
  ⟨by rw [Nat.zero_add]; exact h.cells i n e, fun h => (by cases h), (h.sig n (List.mem_of_getElem? e)).any⟩
theorem NdsAt.row {w : World} {b o : Nat} {ns : List Nd} (h : NdsAt w none b o ns) (k : ∀ n ∈ ns, n.Ok) {g : Nat} (hg : w.heap.size ≤ g) : NdsAt w (some g) b o ns := fun i n e => by
  have hn := h i n e
  have hlt := range_lt hn.cells (by rw [(k n (List.mem_of_getElem? e)).length]; decide)
  exact ⟨hn.cells, fun h => by have := Option.some.inj h; omega, hn.sig.row hg⟩
theorem NdAt.kept {w w' : World} {row : Option Nat} {b o : Nat} {n : Nd} (h : NdAt w row b o n) (k : n.Ok) (hk : ∀ b, b < w.heap.size → some b ≠ row → w'.heap[b]? = w.heap[b]?) : NdAt w' row b o n :=
  ⟨range_of_block (hk b (range_lt h.cells (by rw [k.length]; decide)) h.ne) h.cells, h.ne, h.sig.kept hk⟩
theorem NdsAt.kept {w w' : World} {row : Option Nat} {b o : Nat} {ns : List Nd} (h : NdsAt w row b o ns) (k : ∀ n ∈ ns, n.Ok) (hk : ∀ b, b < w.heap.size → some b ≠ row → w'.heap[b]? = w.heap[b]?) : NdsAt w' row b o ns := fun i n e =>
  (h i n e).kept (k n (List.mem_of_getElem? e)) hk
theorem RdN.kept {w w' : World} {row : Option Nat} {v : Value} {ns : List Nd} (h : RdN w row v ns) (k : ∀ n ∈ ns, n.Ok) (hk : ∀ b, b < w.heap.size → some b ≠ row → w'.heap[b]? = w.heap[b]?) : RdN w' row v ns := by
  obtain ⟨a, c, e, h⟩ := h
  exact ⟨a, c, e, fun hn => let ⟨b, o, e', hr⟩ := h hn; ⟨b, o, e', hr.kept k hk⟩⟩
theorem RdN.below {B : Nat} {w w' : World} {row : Option Nat} {v : Value} {ns : List Nd} (h : RdN w row v ns) (k : ∀ n ∈ ns, n.Ok) (hb : Below B w w') (hB : w.heap.size ≤ B) : RdN w' row v ns := h.kept k fun b hb' _ => hb.block b (by omega)
theorem RdN.row {w : World} {v : Value} {ns : List Nd} (h : RdN w none v ns) (k : ∀ n ∈ ns, n.Ok) {g : Nat} (hg : w.heap.size ≤ g) : RdN w (some g) v ns := by
  obtain ⟨a, c, e, h⟩ := h
  exact ⟨a, c, e, fun hn => let ⟨b, o, e', hr⟩ := h hn; ⟨b, o, e', hr.row k hg⟩⟩

set_option maxHeartbeats 400000 in
theorem cloneNodes_nil (n c : Nat) (w : World) : Calls Tryf.prog 23 #[.slice none n c] w fun e w' => e = .returned (.slice none 0 0) ∧ w' = w := by
  have hq := eqnil47
  go_enter Tryf.func23, Tryf.ntmps23
  go_wp2
  go_ret
  exact ⟨rfl, rfl⟩
set_option maxHeartbeats 400000 in
theorem build_nil (n c : Nat) (w : World) : Calls Tryf.prog 25 #[.slice none n c] w fun e w' => e = .returned (.slice none 0 0) ∧ w' = w := by
  have hq := eqnil47
  go_enter Tryf.func25, Tryf.ntmps25
  go_wp2
  go_ret
  exact ⟨rfl, rfl⟩

theorem RdN.nil_of {w : World} {row : Option Nat} {ns : List Nd} (h : ns.length ≠ 0 → ∃ b o, (none : Option Addr) = some ⟨b, o, none⟩ ∧ NdsAt w row b o ns) : ns = [] := by
  by_cases hz : ns.length = 0
  · exact List.eq_nil_of_length_eq_zero hz
  · obtain ⟨_, _, e, _⟩ := h hz; cases e

/-- cloneNodesB1. -/
theorem cloneNodes_any (v : Value) (ns : List Nd) (w : World) (hv : RdN w none v ns) (k : ∀ n ∈ ns, n.Ok ∧ n.sig.length ≤ 1048576) (hN : ns.length ≤ 1048576) :
    Calls Tryf.prog 23 #[v] w fun e w' => ∃ v' ms, e = .returned v' ∧ RdN w' none v' ms ∧ (∀ n ∈ ms, n.Ok) ∧ ms.map (·.sig.length) = ns.map (·.sig.length) ∧ Below w.heap.size w w' ∧ nilS v' = nilS v := by
  obtain ⟨a, c, rfl, h⟩ := hv
  cases a with
  | none =>
    have hx := RdN.nil_of h
    subst hx
    refine (cloneNodes_nil _ c w).mono ?_
    rintro e w' ⟨rfl, rfl⟩
    exact ⟨_, [], rfl, ⟨none, 0, rfl, fun h => absurd rfl h⟩, fun n h => (by cases h), rfl, Below.refl _ _, rfl⟩
  | some a =>
    refine (cloneNodes_some a c ns w (fun hz => ?_) k hN).mono ?_
    · obtain ⟨b, o, e, hr⟩ := h hz
      exact ⟨b, o, Option.some.inj e, hr⟩
    · rintro e w' ⟨rfl, ms, hI, hl⟩
      have hlen : ms.length = ns.length := hI.len
      refine ⟨_, ms, rfl, ⟨some ⟨w.heap.size, 0, none⟩, ns.length, by rw [hlen], fun _ => ⟨_, _, rfl, hI.nds⟩⟩, hI.ok, hl, hI.below, rfl⟩

/-- buildB1. -/
theorem build_any (v : Value) (ns : List Nd) (w : World) (hv : RdN w none v ns) (k : ∀ n ∈ ns, n.Ok) (hN : ns.length ≤ 1048576) :
    Calls Tryf.prog 25 #[v] w fun e w' => ∃ a, e = .returned (.slice a ns.length ns.length) ∧ (ns.length ≠ 0 → a = some ⟨w.heap.size, 0, none⟩ ∧ NdsAt w' none w.heap.size 0 ns) ∧ Below w.heap.size w w' ∧ a.isNone = nilS v := by
  obtain ⟨a, c, rfl, h⟩ := hv
  cases a with
  | none =>
    have hx := RdN.nil_of h
    subst hx
    refine (build_nil _ c w).mono ?_
    rintro e w' ⟨rfl, rfl⟩
    exact ⟨none, rfl, fun h => absurd rfl h, Below.refl _ _, rfl⟩
  | some a =>
    refine (build_some a c ns w (fun hz => ?_) k hN).mono ?_
    · obtain ⟨b, o, e, hr⟩ := h hz
      exact ⟨b, o, Option.some.inj e, hr⟩
    · rintro e w' ⟨rfl, hI⟩
      exact ⟨_, rfl, fun _ => ⟨rfl, hI.nds⟩, hI.below, rfl⟩
end Go.Proofs.Qxb6605704aFmt
