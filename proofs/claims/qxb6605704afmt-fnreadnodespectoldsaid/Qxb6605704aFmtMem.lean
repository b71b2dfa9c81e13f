/-
  MEMORY: byte slices that are read ('Rd'), byte slices that the call owns ('Own'), what a chain of appends does ('App'). No walk here.
-/
import Derived.Test.Qxb6605704aFmtProg
import Derived.WalkKit
import Derived.WalkSpells
import Derived.WalkLawsBesides
import Derived.Deep.MidRow
import Derived.Deep.AppendSrc
namespace Go.Proofs.Qxb6605704aFmt
open Go.RowKit

theorem Tryf.info5 : (Tryf.prog.info? 5).map (fun i => (i.zero, i.size, i.bytes)) = some (some (.int .u8 0), 1, 1) := by kernel_rfl

/-- Bytes as cells. -/
def bv (xs : List Int) : List Value := xs.map (Value.int .u8)
theorem bv_length (xs : List Int) : (bv xs).length = xs.length := by simp [bv]
theorem bv_append (xs ys : List Int) : bv (xs ++ ys) = bv xs ++ bv ys := by simp [bv]
theorem bv_one (xs : List Int) : ∀ v ∈ bv xs, v.oneCell' = true := by
  intro v hv
  simp only [bv, List.mem_map] at hv
  obtain ⟨_, _, rfl⟩ := hv
  rfl
theorem bv_get (xs : List Int) (j : Nat) (h : j < xs.length) : (bv xs)[j]? = some (.int .u8 (xs[j]?.getD 0)) := by simp [bv, h]

theorem range_mk {w : World} {b o : Nat} {xs : List Int} (h : ∀ j, j < xs.length → w.cell? ⟨b, o + j, none⟩ = some (.int .u8 (xs[j]?.getD 0))) : w.rangeAt b o (bv xs) := by
  intro j v hv
  have hj : j < xs.length := by have := (List.getElem?_eq_some_iff.1 hv).1; simpa [bv] using this
  rw [bv_get _ _ hj] at hv
  rw [h j hj, hv]
theorem range_at {w : World} {b o : Nat} {xs : List Int} (h : w.rangeAt b o (bv xs)) (j : Nat) (hj : j < xs.length) : w.cell? ⟨b, o + j, none⟩ = some (.int .u8 (xs[j]?.getD 0)) :=
  h j _ (bv_get _ _ hj)
theorem range_take {w : World} {b o : Nat} {xs ys : List Value} (h : w.rangeAt b o (xs ++ ys)) : w.rangeAt b o xs := fun j v hv =>
  h j v (by rw [List.getElem?_append_left (List.getElem?_eq_some_iff.1 hv).1]; exact hv)
theorem range_drop {w : World} {b o : Nat} {xs ys : List Value} (h : w.rangeAt b o (xs ++ ys)) : w.rangeAt b (o + xs.length) ys := fun j v hv => by
  have := h (xs.length + j) v (by rw [List.getElem?_append_right (by omega)]; simpa using hv)
  rw [← Nat.add_assoc] at this
  exact this
theorem range_append {w : World} {b o : Nat} {xs ys : List Value} (h1 : w.rangeAt b o xs) (h2 : w.rangeAt b (o + xs.length) ys) : w.rangeAt b o (xs ++ ys) := fun j v hv => by
  by_cases hj : j < xs.length
  · exact h1 j v (by rwa [List.getElem?_append_left hj] at hv)
  · rw [List.getElem?_append_right (by omega)] at hv
    have := h2 (j - xs.length) v hv
    rwa [show o + xs.length + (j - xs.length) = o + j by omega] at this
theorem range_of_block {w w' : World} {b o : Nat} {cs : List Value} (hb : w'.heap[b]? = w.heap[b]?) (h : w.rangeAt b o cs) : w'.rangeAt b o cs := fun j v hv => by
  rw [World.cell?_of_block (w := w) (w' := w') (a := ⟨b, o + j, none⟩) hb]; exact h j v hv
theorem there_of_block {w w' : World} {b o n : Nat} (hb : w'.heap[b]? = w.heap[b]?) (h : w.there b o n) : w'.there b o n := fun j hj => by
  rw [World.cell?_of_block (w := w) (w' := w') (a := ⟨b, o + j, none⟩) hb, World.frozen?_of_block (w := w) (w' := w') (a := ⟨b, o + j, none⟩) hb]; exact h j hj
theorem range_lt {w : World} {b o : Nat} {cs : List Value} (h : w.rangeAt b o cs) (hl : cs.length ≠ 0) : b < w.heap.size := by
  have h0 : cs[0]? = some (cs[0]'(by omega)) := List.getElem?_eq_getElem _
  exact World.block_lt_of_cell? w ⟨b, o + 0, none⟩ (h 0 _ h0)

/-- THE SLICE VALUE v READS AS THE BYTES xs. -/
def Rd (w : World) (v : Value) (xs : List Int) : Prop :=
  ∃ a c, v = .slice a xs.length c ∧ (xs.length ≠ 0 → ∃ b o, a = some ⟨b, o, none⟩ ∧ w.rangeAt b o (bv xs))

theorem Rd.nil (w : World) (c : Nat) : Rd w (.slice none 0 c) [] := ⟨none, c, rfl, fun h => absurd rfl h⟩
theorem Rd.empty (w : World) (a : Option Addr) (c : Nat) : Rd w (.slice a 0 c) [] := ⟨a, c, rfl, fun h => absurd rfl h⟩
theorem Rd.mk' {w : World} {b o : Nat} {xs : List Int} (c : Nat) (h : w.rangeAt b o (bv xs)) : Rd w (.slice (some ⟨b, o, none⟩) xs.length c) xs := ⟨_, c, rfl, fun _ => ⟨b, o, rfl, h⟩⟩
/-- Where no old block has turned it reads as it did. -/
theorem Rd.kept {w w' : World} {v : Value} {xs : List Int} (h : Rd w v xs) (hk : ∀ k, k < w.heap.size → w'.heap[k]? = w.heap[k]?) : Rd w' v xs := by
  obtain ⟨a, c, rfl, h⟩ := h
  refine ⟨a, c, rfl, fun hn => ?_⟩
  obtain ⟨b, o, rfl, hr⟩ := h hn
  exact ⟨b, o, rfl, range_of_block (hk b (range_lt hr (by simpa [bv] using hn))) hr⟩
theorem Rd.below {B : Nat} {w w' : World} {v : Value} {xs : List Int} (h : Rd w v xs) (hb : Below B w w') (hB : w.heap.size ≤ B) : Rd w' v xs := h.kept fun k hk => hb.block k (by omega)

/-- THE SLICE VALUE v IS nil, OR IT OWNS A ROW AMONG THE BLOCKS FROM B ON; it reads as xs. -/
def Own (w : World) (B : Nat) (v : Value) (xs : List Int) : Prop :=
  (v = .slice none 0 0 ∧ xs = []) ∨ ∃ g cap, v = .slice (some ⟨g, 0, none⟩) xs.length cap ∧ B ≤ g ∧ g < w.heap.size ∧ xs.length ≤ cap ∧ w.rangeAt g 0 (bv xs) ∧ w.there g 0 cap

theorem Own.nil (w : World) (B : Nat) : Own w B (.slice none 0 0) [] := .inl ⟨rfl, rfl⟩
theorem Own.rd {w : World} {B : Nat} {v : Value} {xs : List Int} (h : Own w B v xs) : Rd w v xs := by
  rcases h with ⟨rfl, rfl⟩ | ⟨g, cap, rfl, _, _, _, hr, _⟩
  · exact Rd.nil w 0
  · exact Rd.mk' cap hr
theorem Own.kept {w w' : World} {B : Nat} {v : Value} {xs : List Int} (h : Own w B v xs) (hs : w.heap.size ≤ w'.heap.size) (hk : ∀ g, v.ownBlock = some g → w'.heap[g]? = w.heap[g]?) : Own w' B v xs := by
  rcases h with ⟨rfl, rfl⟩ | ⟨g, cap, rfl, h1, h2, h3, hr, ht⟩
  · exact Own.nil w' B
  · exact .inr ⟨g, cap, rfl, h1, by omega, h3, range_of_block (hk g rfl) hr, there_of_block (hk g rfl) ht⟩
theorem Own.alloc {w : World} {B : Nat} {v : Value} {xs : List Int} (h : Own w B v xs) (o : Obj) : Own (w.alloc o) B v xs := by
  refine h.kept (by simp) fun g hg => ?_
  rcases h with ⟨rfl, rfl⟩ | ⟨g', cap, rfl, h1, h2, h3, hr, ht⟩
  · cases hg
  · cases hg; exact Below.heap_alloc _ _ _ h2
theorem Own.lt {w : World} {B : Nat} {v : Value} {xs : List Int} (h : Own w B v xs) : ∀ g, v.ownBlock = some g → B ≤ g ∧ g < w.heap.size := by
  rcases h with ⟨rfl, rfl⟩ | ⟨g', cap, rfl, h1, h2, h3, hr, ht⟩
  · intro g hg; cases hg
  · intro g hg; cases hg; exact ⟨h1, h2⟩

/-- WHAT A CHAIN OF APPENDS HAS DONE: v (which read as xs in w) has become v', which reads as xs ++ ys in w'; v still reads as xs; of the old blocks only v's own may have turned. -/
structure App (B : Nat) (w : World) (v : Value) (xs : List Int) (w' : World) (v' : Value) (ys : List Int) : Prop where
  own : Own w' B v' (xs ++ ys)
  old : Rd w' v xs
  grow : w.grownBy w' v.ownBlock
  blk : v'.ownBlock = v.ownBlock ∨ ∀ g, v'.ownBlock = some g → w.heap.size ≤ g

theorem grownBy_refl (w : World) (row : Option Nat) : w.grownBy w row := ⟨rfl, rfl, rfl, Nat.le_refl _, fun _ _ _ => rfl⟩

theorem App.refl {B : Nat} {w : World} {v : Value} {xs : List Int} (h : Own w B v xs) : App B w v xs w v [] :=
  ⟨by simpa using h, h.rd, grownBy_refl _ _, .inl rfl⟩

theorem App.trans {B : Nat} {w w1 w2 : World} {v v1 v2 : Value} {xs ys zs : List Int} (hv : Own w B v xs) (h : App B w v xs w1 v1 ys) (k : App B w1 v1 (xs ++ ys) w2 v2 zs) : App B w v xs w2 v2 (ys ++ zs) := by
  have hlt := hv.lt
  have hs := h.grow.size
  refine ⟨by simpa using k.own, ?_, ⟨k.grow.os.trans h.grow.os, k.grow.tape.trans h.grow.tape, k.grow.output.trans h.grow.output, Nat.le_trans hs k.grow.size, fun j hj hne => ?_⟩, ?_⟩
  · rcases hv with ⟨rfl, rfl⟩ | ⟨g, cap, rfl, h1, h2, h3, hr, ht⟩
    · exact Rd.nil w2 0
    · by_cases e : v1.ownBlock = some g
      · obtain ⟨a, c, rfl, hk⟩ := k.old
        by_cases hz : xs.length = 0
        · have : xs = [] := List.eq_nil_of_length_eq_zero hz
          subst this
          exact Rd.empty w2 _ _
        · obtain ⟨b, o, rfl, hro⟩ := hk (by rw [List.length_append]; omega)
          have hb : b = g := by simpa [Value.ownBlock] using e
          subst hb
          have h0 : o = 0 := by
            rcases h.own with ⟨e1, _⟩ | ⟨g', cap', e1, _⟩
            · cases e1
            · cases e1; rfl
          subst h0
          rw [bv_append] at hro
          exact Rd.mk' cap (range_take hro)
      · obtain ⟨a, c, e0, hk⟩ := h.old
        refine ⟨a, c, e0, fun hn => ?_⟩
        obtain ⟨b, o, e1, hro⟩ := hk hn
        subst e1
        cases e0
        exact ⟨g, 0, rfl, range_of_block (k.grow.block g (by omega) (fun e' => e e'.symm)) hro⟩
  · refine (k.grow.block j (by omega) ?_).trans (h.grow.block j hj hne)
    rcases h.blk with e | e
    · rw [e]; exact hne
    · intro e'; have := e j e'.symm; omega
  · rcases k.blk with e | e
    · rcases h.blk with e' | e'
      · exact .inl (e.trans e')
      · exact .inr fun g hg => e' g (by rw [← e]; exact hg)
    · exact .inr fun g hg => by have := e g hg; omega

/-- A new block ahead of the chain. -/
theorem App.of_alloc {B : Nat} {w w' : World} {o : Obj} {v v' : Value} {xs ys : List Int} (h : App B (w.alloc o) v xs w' v' ys) : App B w v xs w' v' ys := by
  refine ⟨h.own, h.old, ⟨h.grow.os, h.grow.tape, h.grow.output, by have := h.grow.size; simp at this; omega, fun j hj hne => ?_⟩, ?_⟩
  · rw [h.grow.block j (by simp; omega) hne, Below.heap_alloc _ _ _ hj]
  · rcases h.blk with e | e
    · exact .inl e
    · exact .inr fun g hg => by have := e g hg; simp at this; omega
/-- Draws ahead of the chain. -/
theorem App.of_drew {B : Nat} {w w' : World} {v v' : Value} {xs ys : List Int} (h : App B w.drew v xs w' v' ys) : App B w v xs w' v' ys :=
  ⟨h.own, h.old, ⟨h.grow.os, h.grow.tape, h.grow.output, h.grow.size, h.grow.block⟩, h.blk⟩
theorem App.below {B : Nat} {w w' : World} {v v' : Value} {xs ys : List Int} (h : App B w v xs w' v' ys) (hB : B ≤ w.heap.size) (hv : Own w B v xs) : Below B w w' :=
  (Below.refl B w).grown h.grow hB fun k hk => (hv.lt k hk).1
theorem App.ownB {B : Nat} {w w' : World} {v v' : Value} {xs ys : List Int} (h : App B w v xs w' v' ys) : w.heap.size ≤ w'.heap.size := h.grow.size

theorem setCells_os (b : Nat) : ∀ (vs : List Value) (o : Nat) (w : World), (w.setCells b o vs).os = w.os
  | [], _, _ => rfl
  | _ :: r, o, w => by rw [World.setCells, setCells_os b r]; rfl
theorem setCells_tape (b : Nat) : ∀ (vs : List Value) (o : Nat) (w : World), (w.setCells b o vs).tape = w.tape
  | [], _, _ => rfl
  | _ :: r, o, w => by rw [World.setCells, setCells_tape b r]; rfl
theorem setCells_output (b : Nat) : ∀ (vs : List Value) (o : Nat) (w : World), (w.setCells b o vs).output = w.output
  | [], _, _ => rfl
  | _ :: r, o, w => by rw [World.setCells, setCells_output b r]; rfl
theorem setCells_size (b : Nat) : ∀ (vs : List Value) (o : Nat) (w : World), (w.setCells b o vs).heap.size = w.heap.size
  | [], _, _ => rfl
  | _ :: r, o, w => by rw [World.setCells, setCells_size b r]; simp [World.setCell]
theorem setCells_other (b k : Nat) (hk : k ≠ b) : ∀ (vs : List Value) (o : Nat) (w : World), (w.setCells b o vs).heap[k]? = w.heap[k]?
  | [], _, _ => rfl
  | _ :: r, o, w => by rw [World.setCells, setCells_other b k hk r]; exact Below.heap_setCell _ _ _ _ hk

/-- THE BUILTIN append AT BYTES, whatever the source. -/
theorem run_app (w : World) (B : Nat) (v : Value) (xs : List Int) (hown : Own w B v xs) (sv : Value) (ys : List Int) (hsrc : Rd w sv ys) (hlen : xs.length + ys.length ≤ 140737488355328) (hB : B ≤ w.heap.size) (ty : TypeId) :
    ∃ v' w', (Builtin.append_ #[22, 22] ty #[v, sv]).run Tryf.prog w = .ok v' w' ∧ App B w v xs w' v' ys := by
  obtain ⟨i0, hi, hz0, hz1, hz2⟩ := info_parts Tryf.info5
  have hsrc' : Src Tryf.prog i0.size 22 sv ys.length (bv ys) w := by
    rw [hz1]
    obtain ⟨a, c, rfl, h⟩ := hsrc
    by_cases hn : ys.length = 0
    · have : ys = [] := List.eq_nil_of_length_eq_zero hn
      subst this
      cases a with
      | none => exact Src.ofNil w Tryf.underlying22 c
      | some a => exact Src.ofSlice w Tryf.underlying22 a 0 c [] rfl (fun j u h => by simp at h) (fun _ h => by cases h)
    · obtain ⟨b, o, rfl, hr⟩ := h hn
      exact Src.ofSlice w Tryf.underlying22 ⟨b, o, none⟩ ys.length c (bv ys) (by simp [bv]) (fun j u h => by rw [Addr.add_mid]; exact hr j u h) (bv_one ys)
  have hgrown : ∀ (a : Option Addr) (old : Nat), v = .slice a xs.length old → (∀ g, v.ownBlock = some g → a = some ⟨g, 0, none⟩ ∧ w.rangeAt g 0 (bv xs)) → (a = none → xs = []) → old < xs.length + ys.length →
      ∃ v' w', (Builtin.append_ #[22, 22] ty #[v, sv]).run Tryf.prog w = .ok v' w' ∧ App B w v xs w' v' ys := by
    intro a old hv hg hnone ho
    have hold : (Builtin.firstCells i0.size xs.length (.slice a xs.length old)).run Tryf.prog w.drew = .ok (bv xs).toArray w.drew := by
      rw [hz1]
      cases a with
      | none => have := hnone rfl; subst this; exact run_firstCells_none w.drew 1 0 0 old
      | some a =>
        obtain ⟨e, hr⟩ := hg a.block (by rw [hv]; rfl)
        have e' : a = ⟨a.block, 0, none⟩ := Option.some.inj e
        rw [e']
        exact run_firstCells_some w.drew 1 xs.length _ xs.length old (bv xs) (by simp [bv]) (fun j u h => by rw [World.cell?_drew, Addr.add_mid]; exact hr j u h)
    have hr := run_append_grow_src (P := Tryf.prog) w 22 22 ty 5 i0 _ Tryf.underlying22 hi hz0 a xs.length old (bv xs) hold sv ys.length (bv ys) hsrc' ho (by omega) (growslice_fits ho (by rw [hz2]; omega))
    rw [← hv] at hr
    have hge := grownCap_ge w (xs.length + ys.length) old 5
    have hcs : (((bv xs ++ bv ys).toArray ++ Builtin.zeroCells (Value.int .u8 0).cells (grownCap w (xs.length + ys.length) old 5 - (xs.length + ys.length))).size) = grownCap w (xs.length + ys.length) old 5 := by
      simp [size_zeroCells, Value.cells, bv]; omega
    refine ⟨_, _, hr, ⟨?_, ?_, ⟨rfl, rfl, rfl, by simp, fun k hk _ => Below.heap_alloc w.drew _ k hk⟩, .inr fun g hg => ?_⟩⟩
    · refine .inr ⟨w.heap.size, _, by rw [List.length_append], hB, by simp, by simpa using hge, ?_, ?_⟩
      · intro j u hj
        have hjl : j < (bv xs ++ bv ys).length := by rw [← bv_append]; exact (List.getElem?_eq_some_iff.1 hj).1
        rw [cell_of_row _ w.heap.size (0 + j) _ 5 (0, 0) (heap_alloc_new w.drew _), Nat.zero_add, Array.getElem?_append_left (by simpa using hjl), List.getElem?_toArray, ← bv_append]
        exact hj
      · intro j hj
        refine ⟨?_, ?_⟩
        · rw [cell_of_row _ w.heap.size (0 + j) _ 5 (0, 0) (heap_alloc_new w.drew _), Nat.zero_add, Array.getElem?_eq_getElem (by rw [hcs]; exact hj)]; rfl
        · have hh := heap_alloc_new w.drew (Obj.cells ((bv xs ++ bv ys).toArray ++ Builtin.zeroCells (Value.int IntKind.u8 0).cells (grownCap w (xs.length + ys.length) old 5 - (xs.length + ys.length))) 5)
          simp only [World.frozen?]
          rw [show w.heap.size = w.drew.heap.size from rfl, hh]
          simp
    · exact (Own.rd hown).kept fun k hk => Below.heap_alloc w.drew _ k hk
    · simp [Value.ownBlock] at hg; omega
  rcases hown with ⟨rfl, rfl⟩ | ⟨g, cap, rfl, h1, h2, h3, hr, ht⟩
  · by_cases hz : ys.length = 0
    · have : ys = [] := List.eq_nil_of_length_eq_zero hz
      subst this
      refine ⟨.slice none 0 0, w, ?_, App.refl (Own.nil w B)⟩
      obtain ⟨a, c, rfl, _⟩ := hsrc
      cases a with
      | none => simp [Builtin.append_, run_underlying Tryf.underlying22, sizeOf, typeInfo, hi, Builtin.lenOf, Builtin.firstCells]
      | some a => simp [Builtin.append_, run_underlying Tryf.underlying22, sizeOf, typeInfo, hi, Builtin.lenOf, Builtin.firstCells, loadCells, loadCellsFrom]
    · exact hgrown none 0 rfl (fun g hg => by cases hg) (fun _ => rfl) (by simp; omega)
  · by_cases hroom : xs.length + ys.length ≤ cap
    · have hin : w.there g xs.length ys.length := fun j hj => by have := ht (xs.length + j) (by omega); simpa [Nat.add_assoc] using this
      have hrun := run_append_room_src (P := Tryf.prog) w 22 22 ty 5 i0 Tryf.underlying22 hi g 0 xs.length cap sv ys.length (bv ys) hsrc' hroom
        (fun j hj => by rw [hz1]; have := (hin j (by simpa [bv] using hj)).1; simpa using this) (fun j hj => by rw [hz1]; have := (hin j (by simpa [bv] using hj)).2; simpa using this)
      rw [hz1] at hrun
      simp only [Nat.mul_one, Nat.zero_add] at hrun
      have hap : (w.setCells g xs.length (bv ys)).rangeAt g 0 (bv xs) := World.rangeAt_setCells_apart hr g xs.length (bv ys) (by rw [bv_length]; omega)
      have hsame := World.rangeAt_setCells_same w g xs.length (bv ys) (by rw [bv_length]; exact hin)
      refine ⟨_, _, hrun, ⟨.inr ⟨g, cap, by rw [List.length_append], h1, ?_, by rw [List.length_append]; exact hroom, ?_, World.there_setCells ht _ _ _⟩, Rd.mk' cap hap, ⟨?_, ?_, ?_, ?_, ?_⟩, .inl rfl⟩⟩
      · rw [setCells_size]; exact h2
      · rw [bv_append]; exact range_append hap (by rw [bv_length, Nat.zero_add]; exact hsame)
      · exact setCells_os _ _ _ _
      · exact setCells_tape _ _ _ _
      · exact setCells_output _ _ _ _
      · rw [setCells_size]; exact Nat.le_refl _
      · intro k _ hne
        exact setCells_other _ _ (fun e => hne (by rw [e]; rfl)) _ _ _
    · exact hgrown (some ⟨g, 0, none⟩) cap rfl (fun g' hg => by cases hg; exact ⟨rfl, hr⟩) (fun h => by cases h) (by omega)

end Go.Proofs.Qxb6605704aFmt
