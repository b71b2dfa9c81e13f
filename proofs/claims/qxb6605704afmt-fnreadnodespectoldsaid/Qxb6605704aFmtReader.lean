/-
  THE READER: its three cells ('RS'), the walks of next (34), littleEndian.Uint32 (35), Int (16), Constructor (40), Err (14), NewReader (12) where nothing fails.
-/
import Derived.Test.Qxb6605704aFmtTrim
namespace Go.Proofs.Qxb6605704aFmt
open Go.RowKit

/-- The reader's data: nil, or a slice in a block other than the reader's own. -/
def Dat (w : World) (rb : Nat) (v : Value) (G : List Int) : Prop :=
  (v = .slice none 0 0 ∧ G = []) ∨ ∃ b o c, v = .slice (some ⟨b, o, none⟩) G.length c ∧ G.length ≤ c ∧ b ≠ rb ∧ w.rangeAt b o (bv G) ∧ b < w.heap.size

/-- THE READER IN BLOCK rb: over the bytes G (in the slice v), at 'off', its error 'err'. -/
structure RS (w : World) (rb : Nat) (v : Value) (G : List Int) (off : Nat) (err : Value) : Prop where
  c0 : w.cell? ⟨rb, 0, none⟩ = some v
  c1 : w.cell? ⟨rb, 1, none⟩ = some (.int .i64 off)
  c2 : w.cell? ⟨rb, 2, none⟩ = some err
  f1 : w.frozen? ⟨rb, 1, none⟩ = false
  f2 : w.frozen? ⟨rb, 2, none⟩ = false
  dat : Dat w rb v G
  le : off ≤ G.length
  small : G.length ≤ 1099511627776

theorem RS.lt {w : World} {rb : Nat} {v : Value} {G : List Int} {off : Nat} {err : Value} (h : RS w rb v G off err) : rb < w.heap.size := World.block_lt_of_cell? w _ h.c0

theorem Dat.kept {w w' : World} {rb : Nat} {v : Value} {G : List Int} (h : Dat w rb v G) (hs : w.heap.size ≤ w'.heap.size) (hk : ∀ k, k < w.heap.size → k ≠ rb → w'.heap[k]? = w.heap[k]?) : Dat w' rb v G := by
  rcases h with h | ⟨b, o, c, rfl, h1, h2, h3, h4⟩
  · exact .inl h
  · exact .inr ⟨b, o, c, rfl, h1, h2, range_of_block (hk b h4 h2) h3, by omega⟩

/-- Where no old block has turned the reader stands as it stood. -/
theorem RS.kept {w w' : World} {rb : Nat} {v : Value} {G : List Int} {off : Nat} {err : Value} (h : RS w rb v G off err) (hs : w.heap.size ≤ w'.heap.size) (hk : ∀ k, k < w.heap.size → w'.heap[k]? = w.heap[k]?) : RS w' rb v G off err := by
  have hb := hk rb h.lt
  refine ⟨?_, ?_, ?_, ?_, ?_, h.dat.kept hs fun k hk' _ => hk k hk', h.le, h.small⟩
  · rw [World.cell?_of_block (w := w) (w' := w') (a := ⟨rb, 0, none⟩) hb]; exact h.c0
  · rw [World.cell?_of_block (w := w) (w' := w') (a := ⟨rb, 1, none⟩) hb]; exact h.c1
  · rw [World.cell?_of_block (w := w) (w' := w') (a := ⟨rb, 2, none⟩) hb]; exact h.c2
  · rw [World.frozen?_of_block (w := w) (w' := w') (a := ⟨rb, 1, none⟩) hb]; exact h.f1
  · rw [World.frozen?_of_block (w := w) (w' := w') (a := ⟨rb, 2, none⟩) hb]; exact h.f2
theorem RS.alloc {w : World} {rb : Nat} {v : Value} {G : List Int} {off : Nat} {err : Value} (h : RS w rb v G off err) (o : Obj) : RS (w.alloc o) rb v G off err :=
  h.kept (by simp) fun k hk => Below.heap_alloc w o k hk
theorem RS.drewN {w : World} {rb : Nat} {v : Value} {G : List Int} {off : Nat} {err : Value} (h : RS w rb v G off err) (q : Nat) : RS (w.drewN q) rb v G off err :=
  h.kept (by simp) fun k _ => by simp

theorem Dat.rd {w : World} {rb : Nat} {v : Value} {G : List Int} (h : Dat w rb v G) : Rd w v G := by
  rcases h with ⟨rfl, rfl⟩ | ⟨b, o, c, rfl, h1, h2, h3, h4⟩
  · exact Rd.nil w 0
  · exact Rd.mk' c h3

/-- One cell of the reader's block is written. -/
theorem grown_set (w : World) (rb k : Nat) (x : Value) : w.grownBy (w.setCell ⟨rb, k, none⟩ x) (some rb) :=
  ⟨rfl, rfl, rfl, by simp [World.setCell], fun j _ hj => Below.heap_setCell _ _ _ _ (fun e => hj (by rw [e]))⟩
theorem grown_trans {w w1 w2 : World} {r : Option Nat} (h : w.grownBy w1 r) (k : w1.grownBy w2 r) : w.grownBy w2 r :=
  ⟨k.os.trans h.os, k.tape.trans h.tape, k.output.trans h.output, Nat.le_trans h.size k.size, fun j hj hn => (k.block j (Nat.lt_of_lt_of_le hj h.size) hn).trans (h.block j hj hn)⟩
theorem grown_alloc (w : World) (r : Option Nat) (o : Obj) : w.grownBy (w.alloc o) r := ⟨rfl, rfl, rfl, by simp, fun j hj _ => Below.heap_alloc w o j hj⟩
theorem grown_drewN (w : World) (r : Option Nat) (q : Nat) : w.grownBy (w.drewN q) r := ⟨rfl, rfl, rfl, by simp, fun j _ _ => by simp⟩

/-- The reader's place, moved. -/
theorem RS.move {w : World} {rb : Nat} {v : Value} {G : List Int} {off : Nat} {err : Value} (h : RS w rb v G off err) (off' : Nat) (hl : off' ≤ G.length) :
    RS (w.setCell ⟨rb, 1, none⟩ (.int .i64 off')) rb v G off' err := by
  have g := grown_set w rb 1 (.int .i64 off')
  refine ⟨?_, ?_, ?_, ?_, ?_, h.dat.kept g.size fun k hk hn => g.block k hk (fun e => hn (Option.some.inj e)), hl, h.small⟩
  · rw [World.cell?_setCell_other _ _ _ _ (by simp)]; exact h.c0
  · exact World.cell?_setCell_same _ _ _ (by rw [h.c1])
  · rw [World.cell?_setCell_other _ _ _ _ (by simp)]; exact h.c2
  · rw [World.frozen?_setCell]; exact h.f1
  · rw [World.frozen?_setCell]; exact h.f2

set_option maxHeartbeats 800000 in
theorem next_core (b o c n off len rb : Nat) (w : World) (h0 : w.cell? ⟨rb, 0, none⟩ = some (.slice (some ⟨b, o, none⟩) len c)) (h1 : w.cell? ⟨rb, 1, none⟩ = some (.int .i64 off)) (h2 : w.cell? ⟨rb, 2, none⟩ = some .nilIface)
    (f1 : w.frozen? ⟨rb, 1, none⟩ = false) (hc : len ≤ c) (hl : off + n ≤ len) (hs : len ≤ 1099511627776) :
    Calls Tryf.prog 34 #[.pointer (some ⟨rb, 0, none⟩), .int .i64 n] w fun e w' => e = .returned (.slice (if c = off then some ⟨b, o, none⟩ else some ⟨b, o + off, none⟩) (off + n - off) (c - off)) ∧ ∃ q, w' = (w.drewN q).setCell ⟨rb, 1, none⟩ (.int .i64 (off + n : Nat)) := by
  have i1 : ¬ (n : Int) > (len : Int) - off := by omega
  go_enter Tryf.func34, Tryf.ntmps34
  go_wp2
  go_quiet (fail)
  go_wp2
  go_quiet (fail)
  go_wp2
  all_goals (go_ret; exact ⟨rfl, _, rfl⟩)

/-- next, where the bytes are there. -/
theorem next_ok (rb : Nat) (v : Value) (G : List Int) (off n : Nat) (w : World) (h : RS w rb v G off .nilIface) (hl : off + n ≤ G.length) (hG : G.length ≠ 0) :
    Calls Tryf.prog 34 #[.pointer (some ⟨rb, 0, none⟩), .int .i64 n] w fun e w' => ∃ u, e = .returned u ∧ RS w' rb v G (off + n) .nilIface ∧ w.grownBy w' (some rb) ∧ Rd w' u ((G.drop off).take n) ∧ (n ≠ 0 → nilS u = false) ∧ u.ownBlock = v.ownBlock := by
  obtain ⟨b, o, c, rfl, k1, k2, k3, k4⟩ : ∃ b o c, v = .slice (some ⟨b, o, none⟩) G.length c ∧ G.length ≤ c ∧ b ≠ rb ∧ w.rangeAt b o (bv G) ∧ b < w.heap.size := by
    rcases h.dat with ⟨_, rfl⟩ | h
    · exact absurd rfl hG
    · exact h
  refine (next_core b o c n off G.length rb w h.c0 h.c1 h.c2 h.f1 k1 hl h.small).mono ?_
  rintro e w' ⟨rfl, q, rfl⟩
  have hlen : ((G.drop off).take n).length = n := by simp; omega
  have hg := grown_trans (grown_drewN w (some rb) q) (grown_set (w.drewN q) rb 1 (.int .i64 (off + n : Nat)))
  refine ⟨_, rfl, (h.drewN q).move (off + n) hl, hg, ?_, ?_, ?_⟩
  · by_cases hn : n = 0
    · subst hn
      simp only [List.take_zero, Nat.add_zero, Nat.sub_self]
      exact Rd.empty _ _ _
    · rw [if_neg (by omega), show off + n - off = ((G.drop off).take n).length by omega]
      refine Rd.mk' _ (range_of_block (w := w) (hg.block b k4 (fun e => k2 (Option.some.inj e))) ?_)
      have e1 : bv G = bv (G.take off) ++ (bv ((G.drop off).take n) ++ bv ((G.drop off).drop n)) := by
        rw [← bv_append, ← bv_append, List.take_append_drop, List.take_append_drop]
      rw [e1] at k3
      have k5 := range_take (range_drop k3)
      rwa [bv_length, List.length_take, Nat.min_eq_left (by omega)] at k5
  · intro hn; rw [if_neg (by omega)]; rfl
  · split <;> rfl

theorem RS.rd {w : World} {rb : Nat} {v : Value} {G : List Int} {off : Nat} {err : Value} (h : RS w rb v G off err) : Rd w v G := h.dat.rd

/-! ### littleEndian.Uint32 -/
set_option maxHeartbeats 800000 in
theorem uint32_core (b off n c : Nat) (x0 x1 x2 x3 : Int) (w : World) (hn : 3 < n) (hn2 : n ≤ 9223372036854775807)
    (a0 : 0 ≤ x0 ∧ x0 < 256) (a1 : 0 ≤ x1 ∧ x1 < 256) (a2 : 0 ≤ x2 ∧ x2 < 256) (a3 : 0 ≤ x3 ∧ x3 < 256)
    (h0 : w.cell? ⟨b, off + 0, none⟩ = some (.int .u8 x0)) (h1 : w.cell? ⟨b, off + 1, none⟩ = some (.int .u8 x1))
    (h2 : w.cell? ⟨b, off + 2, none⟩ = some (.int .u8 x2)) (h3 : w.cell? ⟨b, off + 3, none⟩ = some (.int .u8 x3)) :
    Calls Tryf.prog 35 #[.agg #[], .slice (some ⟨b, off, none⟩) n c] w fun e w' => e = .returned (.int .u32 (x0 + x1 * 256 + x2 * 65536 + x3 * 16777216)) ∧ ∃ o q, w' = (w.alloc o).drewN q := by
  have hs := hide (le_sum x0 x1 x2 x3 a0 a1 a2 a3)
  have hb : b < w.heap.size := World.block_lt_of_cell? w _ h0
  have g0 : (w.alloc (.cells #[] 60)).cell? ⟨b, off + 0, none⟩ = some (.int .u8 x0) := by rw [World.cell?_of_block (w := w) (Below.heap_alloc w _ b hb)]; exact h0
  have g1 : (w.alloc (.cells #[] 60)).cell? ⟨b, off + 1, none⟩ = some (.int .u8 x1) := by rw [World.cell?_of_block (w := w) (Below.heap_alloc w _ b hb)]; exact h1
  have g2 : (w.alloc (.cells #[] 60)).cell? ⟨b, off + 2, none⟩ = some (.int .u8 x2) := by rw [World.cell?_of_block (w := w) (Below.heap_alloc w _ b hb)]; exact h2
  have g3 : (w.alloc (.cells #[] 60)).cell? ⟨b, off + 3, none⟩ = some (.int .u8 x3) := by rw [World.cell?_of_block (w := w) (Below.heap_alloc w _ b hb)]; exact h3
  have i0 : (0 : Int) < n := by omega
  have i1 : (1 : Int) < n := by omega
  have i2 : (2 : Int) < n := by omega
  have i3 : (3 : Int) < n := by omega
  simp only [Nat.add_zero] at g0
  clear h0 h1 h2 h3
  go_enter Tryf.func35, Tryf.ntmps35
  go_wp2
  generalize hw1 : w.alloc (.cells #[] 60) = w1 at *
  go_quiet (fail)
  go_wp2
  go_ret
  refine ⟨?_, (.cells #[] 60), _, by rw [hw1]⟩
  rw [← unhide hs]
  rfl
end Go.Proofs.Qxb6605704aFmt
