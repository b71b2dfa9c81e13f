/-
  THE READER: the walk of Int256 (42) where nothing fails.
-/
import Derived.Test.Qxb6605704aFmtReaderI
namespace Go.Proofs.Qxb6605704aFmt
open Go.RowKit
theorem RS.own {w : World} {rb : Nat} {v : Value} {G : List Int} {off : Nat} {err : Value} (h : RS w rb v G off err) : ∀ b, v.ownBlock = some b → b < w.heap.size ∧ b ≠ rb := by
  rcases h.dat with ⟨rfl, _⟩ | ⟨b, o, c, rfl, _, h2, _, h4⟩
  · intro b hb; cases hb
  · intro b' hb; cases hb; exact ⟨h4, h2⟩
/-- Where neither the reader's block nor its data's has turned the reader stands as it stood. -/
theorem RS.kept2 {w w' : World} {rb : Nat} {v : Value} {G : List Int} {off : Nat} {err : Value} (h : RS w rb v G off err) (hs : w.heap.size ≤ w'.heap.size) (hb : w'.heap[rb]? = w.heap[rb]?) (hv : ∀ b, v.ownBlock = some b → w'.heap[b]? = w.heap[b]?) : RS w' rb v G off err := by
  refine ⟨?_, ?_, ?_, ?_, ?_, ?_, h.le, h.small⟩
  · rw [World.cell?_of_block (w := w) (w' := w') (a := ⟨rb, 0, none⟩) hb]; exact h.c0
  · rw [World.cell?_of_block (w := w) (w' := w') (a := ⟨rb, 1, none⟩) hb]; exact h.c1
  · rw [World.cell?_of_block (w := w) (w' := w') (a := ⟨rb, 2, none⟩) hb]; exact h.c2
  · rw [World.frozen?_of_block (w := w) (w' := w') (a := ⟨rb, 1, none⟩) hb]; exact h.f1
  · rw [World.frozen?_of_block (w := w) (w' := w') (a := ⟨rb, 2, none⟩) hb]; exact h.f2
  · rcases h.dat with h | ⟨b, o, c, rfl, h1, h2, h3, h4⟩
    · exact .inl h
    · exact .inr ⟨b, o, c, rfl, h1, h2, range_of_block (hv b rfl) h3, by omega⟩

/-- A block that is new since w is written. -/
theorem grown_into {w w0 w1 : World} {r : Option Nat} {ob : Obj} (h0 : (w.alloc ob).grownBy w0 r) (hg : w0.grownBy w1 r) (o : Nat) (cs : List Value) : w.grownBy (w1.setCells w.heap.size o cs) r := by
  have k := grown_trans (grown_trans (grown_alloc w r ob) h0) hg
  refine ⟨(setCells_os _ _ _ _).trans k.os, (setCells_tape _ _ _ _).trans k.tape, (setCells_output _ _ _ _).trans k.output, by rw [setCells_size]; exact k.size, fun j hj hn => ?_⟩
  rw [setCells_other _ _ (by omega)]
  exact k.block j hj hn

theorem Tryf.size5 : (Tryf.prog.info? 5).map (·.size) = some 1 := by kernel_rfl
theorem copy256 (w : World) (p b o c : Nat) (xs : List Int) (hx : xs.length = 32) (hr : w.rangeAt b o (bv xs)) (ht : w.there p 0 32) :
    (Builtin.copy_ #[22, 22] 3 #[.slice (some ⟨p, 0, none⟩) 32 32, .slice (some ⟨b, o, none⟩) 32 c]).run Tryf.prog w = .ok (.int .i64 32) (w.setCells p 0 (bv xs)) := by
  have := run_copy_cells (P := Tryf.prog) w 22 22 3 5 p 0 32 32 ⟨b, o, none⟩ 32 c (bv xs) Tryf.underlying22 Tryf.size5 (by rw [bv_length, hx]; rfl)
    (fun j v hj => by rw [Addr.add_mid]; exact hr j v hj) (fun j hj => (ht j (by rw [bv_length, hx] at hj; exact hj)).1) (fun j hj => (ht j (by rw [bv_length, hx] at hj; exact hj)).2) (bv_one xs)
  rw [this, bv_length, hx]; rfl

theorem there_alloc (w : World) (cs : List Value) (t : TypeId) : (w.alloc (.cells cs.toArray t)).there w.heap.size 0 cs.length := by
  intro j hj
  refine ⟨?_, ?_⟩
  · rw [cell_of_row _ w.heap.size (0 + j) _ t (0, 0) (heap_alloc_new w _), Nat.zero_add, List.getElem?_toArray, List.getElem?_eq_getElem hj]; rfl
  · have hh := heap_alloc_new w (.cells cs.toArray t)
    simp only [World.frozen?]
    rw [hh]
    simp

theorem Rd.at {w : World} {b o n c : Nat} {xs : List Int} (h : Rd w (.slice (some ⟨b, o, none⟩) n c) xs) : w.rangeAt b o (bv xs) := by
  obtain ⟨a, c', e, hh⟩ := h
  by_cases hx : xs.length = 0
  · rw [List.eq_nil_of_length_eq_zero hx]; intro j v hj; simp [bv] at hj
  · obtain ⟨b', o', rfl, hr⟩ := hh hx
    cases e
    exact hr

set_option maxHeartbeats 800000 in
theorem int256_ok (rb : Nat) (v : Value) (G : List Int) (off : Nat) (w : World) (h : RS w rb v G off .nilIface) (hl : off + 32 ≤ G.length) :
    Calls Tryf.prog 42 #[.pointer (some ⟨rb, 0, none⟩)] w fun e w' => e = .returned (.agg (bv ((G.drop off).take 32)).toArray) ∧ RS w' rb v G (off + 32) .nilIface ∧ w.grownBy w' (some rb) := by
  obtain ⟨xs, hxs⟩ : ∃ xs, (G.drop off).take 32 = xs := ⟨_, rfl⟩
  have hx : xs.length = 32 := by rw [← hxs]; simp; omega
  rw [hxs]
  have hxs' := hide hxs
  have hx' := hide hx
  clear hxs hx
  have hlt := h.lt
  go_enter Tryf.func42, Tryf.ntmps42
  go_wp2
  go_region_with (go_at_call 34; refine (next_pos rb v G off 32 _ ((h.alloc _).drewN _) hl (by decide)).mono ?_; rintro e w1 ⟨b, o, c, rfl, hS, hg, hu⟩; have ht : w1.there w.heap.size 0 32 := there_of_block (hg.block w.heap.size (by simp) (by simp; omega)) (there_alloc w (List.replicate 32 (.int .u8 0)) 25); have hcp := copy256 w1 w.heap.size b o c xs (unhide hx') (by rw [← unhide hxs']; exact hu.at) ht)
  have hrng := World.rangeAt_setCells_same w1 w.heap.size 0 (bv xs) (by rw [bv_length, unhide hx']; exact ht)
  go_wp2
  refine bodyPost_ret (v := .agg (bv xs).toArray) ?_ rfl ⟨rfl, ?_, ?_⟩
  · simp only [results, Tryf.results42]
    simp [asAddr, run_loadVar_mid _ _ 0 25 (bv xs) _ hrng Tryf.underlying25 rfl (by rw [bv_length, unhide hx']; exact Tryf.size25)]
  · exact hS.kept2 (by rw [setCells_size]; exact Nat.le_refl _) (setCells_other _ _ (by omega) _ _ _) fun k hk => setCells_other _ _ (by have := (h.own k hk).1; omega) _ _ _
  · exact grown_into (grown_drewN _ _ 1) hg _ _
end Go.Proofs.Qxb6605704aFmt
