/-
  THE READER WHERE IT FAILS: Sprintf at the five formats, Fail (36), next (34).
-/
import Derived.Test.Qxb6605704aFmtFmt
namespace Go.Proofs.Qxb6605704aFmt
open Go.RowKit Go.Extern.Stop Go.Stop Go.Extern

def Tryf.shape5 : List UInt8 := [6, 5, 0, 0, 0, 0, 0, 0, 0, 117, 105, 110, 116, 56]
def Tryf.shape26 : List UInt8 := [8, 6, 0, 0, 0, 0, 0, 0, 0, 117, 105, 110, 116, 51, 50]
@[go_sem] theorem Tryf.act5_120 (name : String) (x : Value) (w : World) : (FmtCalls.act name false 120 false (.iface 5 x)).run Tryf.prog w = .ok (.closed false) w := by kernel_rfl
@[go_sem] theorem Tryf.op5_120 (name : String) (x : Int) (w : World) : (FmtStop.operand name false 120 false (.iface 5 (.int .u8 x))).run Tryf.prog w = .ok (Tryf.shape5, Go.Extern.Stop.digits 8 (x % 2 ^ 64).toNat) w := by kernel_rfl
@[go_sem] theorem Tryf.act26_120 (name : String) (x : Value) (w : World) : (FmtCalls.act name false 120 false (.iface 26 x)).run Tryf.prog w = .ok (.closed false) w := by kernel_rfl
@[go_sem] theorem Tryf.op26_120 (name : String) (x : Int) (w : World) : (FmtStop.operand name false 120 false (.iface 26 (.int .u32 x))).run Tryf.prog w = .ok (Tryf.shape26, Go.Extern.Stop.digits 8 (x % 2 ^ 64).toNat) w := by kernel_rfl

theorem sp_want (x y : Int) (blk : Nat) (w : World) (hx : w.cell? ⟨blk, 0, none⟩ = some (.iface 3 (.int .i64 x))) (hy : w.cell? ⟨blk, 1, none⟩ = some (.iface 3 (.int .i64 y))) : Sprints ⟨#[119, 97, 110, 116, 32, 37, 100, 32, 98, 121, 116, 101, 115, 44, 32, 37, 100, 32, 108, 101, 102, 116]⟩ (.slice (some ⟨blk, 0, none⟩) 2 2) w := by
  refine ⟨FmtCalls.save 0 0 (.slice (some ⟨blk, 0, none⟩) 2 2) ⟨#[119, 97, 110, 116, 32, 37, 100, 32, 98, 121, 116, 101, 115, 44, 32, 37, 100, 32, 108, 101, 102, 116]⟩ [] [(0, 100, false), (1, 100, false)], ?_, fun R h => rows_dd _ x y blk w R hx hy h⟩
  rw [Tryf.call45]
  go_simp
theorem sp_over (x : Int) (blk : Nat) (w : World) (hx : w.cell? ⟨blk, 0, none⟩ = some (.iface 3 (.int .i64 x))) : Sprints ⟨#[37, 100, 32, 98, 121, 116, 101, 115, 32, 108, 101, 102, 116, 32, 111, 118, 101, 114]⟩ (.slice (some ⟨blk, 0, none⟩) 1 1) w := by
  refine ⟨FmtCalls.save 0 0 (.slice (some ⟨blk, 0, none⟩) 1 1) ⟨#[37, 100, 32, 98, 121, 116, 101, 115, 32, 108, 101, 102, 116, 32, 111, 118, 101, 114]⟩ [] [(0, 100, false)], ?_, fun R h => ?_⟩
  · rw [Tryf.call45]
    go_simp
  · apply rows_value Tryf.nextTurns
    case hr =>
      go_simp
      exact ⟨rfl, rfl⟩
    case h => exact h _
theorem sp_byts (x : Int) (blk : Nat) (w : World) (hx : w.cell? ⟨blk, 0, none⟩ = some (.iface 5 (.int .u8 x))) : Sprints ⟨#[98, 121, 116, 101, 115, 32, 102, 105, 101, 108, 100, 32, 115, 116, 97, 114, 116, 115, 32, 119, 105, 116, 104, 32, 48, 120, 37, 48, 50, 120]⟩ (.slice (some ⟨blk, 0, none⟩) 1 1) w := by
  refine ⟨FmtCalls.save 0 0 (.slice (some ⟨blk, 0, none⟩) 1 1) ⟨#[98, 121, 116, 101, 115, 32, 102, 105, 101, 108, 100, 32, 115, 116, 97, 114, 116, 115, 32, 119, 105, 116, 104, 32, 48, 120, 37, 48, 50, 120]⟩ [] [(0, 120, false)], ?_, fun R h => ?_⟩
  · rw [Tryf.call45]
    go_simp
  · apply rows_value Tryf.nextTurns
    case hr =>
      go_simp
      exact ⟨rfl, rfl⟩
    case h => exact h _
theorem sp_con (x : Int) (blk : Nat) (w : World) (hx : w.cell? ⟨blk, 0, none⟩ = some (.iface 26 (.int .u32 x))) : Sprints ⟨#[112, 117, 98, 108, 105, 99, 32, 107, 101, 121, 32, 111, 102, 32, 99, 111, 110, 115, 116, 114, 117, 99, 116, 111, 114, 32, 48, 120, 37, 48, 56, 120]⟩ (.slice (some ⟨blk, 0, none⟩) 1 1) w := by
  refine ⟨FmtCalls.save 0 0 (.slice (some ⟨blk, 0, none⟩) 1 1) ⟨#[112, 117, 98, 108, 105, 99, 32, 107, 101, 121, 32, 111, 102, 32, 99, 111, 110, 115, 116, 114, 117, 99, 116, 111, 114, 32, 48, 120, 37, 48, 56, 120]⟩ [] [(0, 120, false)], ?_, fun R h => ?_⟩
  · rw [Tryf.call45]
    go_simp
  · apply rows_value Tryf.nextTurns
    case hr =>
      go_simp
      exact ⟨rfl, rfl⟩
    case h => exact h _
theorem sp_key (x : ByteArray) (blk : Nat) (w : World) (hx : w.cell? ⟨blk, 0, none⟩ = some (.iface 9 (.string x))) : Sprints ⟨#[37, 115, 32, 107, 101, 121, 32, 105, 115, 32, 110, 111, 116, 32, 112, 117, 98, 46, 101, 100, 50, 53, 53, 49, 57]⟩ (.slice (some ⟨blk, 0, none⟩) 1 1) w := by
  refine ⟨FmtCalls.save 0 0 (.slice (some ⟨blk, 0, none⟩) 1 1) ⟨#[37, 115, 32, 107, 101, 121, 32, 105, 115, 32, 110, 111, 116, 32, 112, 117, 98, 46, 101, 100, 50, 53, 53, 49, 57]⟩ [] [(0, 115, false)], ?_, fun R h => ?_⟩
  · rw [Tryf.call45]
    go_simp
  · apply rows_value Tryf.nextTurns
    case hr =>
      go_simp
      exact ⟨rfl, rfl⟩
    case h => exact h _

theorem cell_new0 (w : World) (x : Value) (r : List Value) (t : TypeId) : (w.alloc (.cells (x :: r).toArray t)).drew.cell? ⟨w.heap.size, 0, none⟩ = some x := by
  rw [World.cell?_drew, cell_of_row _ w.heap.size 0 _ t (0, 0) (heap_alloc_new w _)]; rfl
theorem cell_new1 (w : World) (x y : Value) (t : TypeId) : (w.alloc (.cells #[x, y] t)).drew.cell? ⟨w.heap.size, 1, none⟩ = some y := by
  rw [World.cell?_drew, cell_of_row _ w.heap.size 1 _ t (0, 0) (heap_alloc_new w _)]; rfl
theorem spn_want (x y : Int) (w : World) : Sprints ⟨#[119, 97, 110, 116, 32, 37, 100, 32, 98, 121, 116, 101, 115, 44, 32, 37, 100, 32, 108, 101, 102, 116]⟩ (.slice (some ⟨w.heap.size, 0, none⟩) 2 2) (w.alloc (.cells #[.iface 3 (.int .i64 x), .iface 3 (.int .i64 y)] 20)).drew := sp_want x y _ _ (cell_new0 w _ _ 20) (cell_new1 w _ _ 20)
theorem spn_over (x : Int) (w : World) : Sprints ⟨#[37, 100, 32, 98, 121, 116, 101, 115, 32, 108, 101, 102, 116, 32, 111, 118, 101, 114]⟩ (.slice (some ⟨w.heap.size, 0, none⟩) 1 1) (w.alloc (.cells #[.iface 3 (.int .i64 x)] 20)).drew := sp_over x _ _ (cell_new0 w _ _ 20)
theorem spn_byts (x : Int) (w : World) : Sprints ⟨#[98, 121, 116, 101, 115, 32, 102, 105, 101, 108, 100, 32, 115, 116, 97, 114, 116, 115, 32, 119, 105, 116, 104, 32, 48, 120, 37, 48, 50, 120]⟩ (.slice (some ⟨w.heap.size, 0, none⟩) 1 1) (w.alloc (.cells #[.iface 5 (.int .u8 x)] 20)).drew := sp_byts x _ _ (cell_new0 w _ _ 20)
theorem spn_con (x : Int) (w : World) : Sprints ⟨#[112, 117, 98, 108, 105, 99, 32, 107, 101, 121, 32, 111, 102, 32, 99, 111, 110, 115, 116, 114, 117, 99, 116, 111, 114, 32, 48, 120, 37, 48, 56, 120]⟩ (.slice (some ⟨w.heap.size, 0, none⟩) 1 1) (w.alloc (.cells #[.iface 26 (.int .u32 x)] 20)).drew := sp_con x _ _ (cell_new0 w _ _ 20)
theorem spn_key (x : ByteArray) (w : World) : Sprints ⟨#[37, 115, 32, 107, 101, 121, 32, 105, 115, 32, 110, 111, 116, 32, 112, 117, 98, 46, 101, 100, 50, 53, 53, 49, 57]⟩ (.slice (some ⟨w.heap.size, 0, none⟩) 1 1) (w.alloc (.cells #[.iface 9 (.string x)] 20)).drew := sp_key x _ _ (cell_new0 w _ _ 20)

/-- The reader has failed. -/
theorem RS.failed {w w1 : World} {rb : Nat} {v : Value} {G : List Int} {off : Nat} (h : RS w rb v G off .nilIface) (u : Value) (hg : w.grownBy w1 none) : RS (w1.setCell ⟨rb, 2, none⟩ (.iface 84 u)) rb v G off (.iface 84 u) ∧ w.grownBy (w1.setCell ⟨rb, 2, none⟩ (.iface 84 u)) (some rb) := by
  have h1 : RS w1 rb v G off .nilIface := h.kept hg.size fun k hk => hg.block k hk (by simp)
  have g := grown_set w1 rb 2 (.iface 84 u)
  refine ⟨⟨?_, ?_, ?_, ?_, ?_, h1.dat.kept g.size fun k hk hn => g.block k hk (fun e => hn (Option.some.inj e)), h1.le, h1.small⟩, grown_trans ⟨hg.os, hg.tape, hg.output, hg.size, fun k hk _ => hg.block k hk (by simp)⟩ g⟩
  · rw [World.cell?_setCell_other _ _ _ _ (by simp)]; exact h1.c0
  · rw [World.cell?_setCell_other _ _ _ _ (by simp)]; exact h1.c1
  · exact World.cell?_setCell_same _ _ _ (by rw [h1.c2])
  · rw [World.frozen?_setCell]; exact h1.f1
  · rw [World.frozen?_setCell]; exact h1.f2

/-- Fail, the error not yet set. -/
theorem fail_ok (rb : Nat) (v : Value) (G : List Int) (off : Nat) (f : ByteArray) (a : Value) (w : World) (h : RS w rb v G off .nilIface) (hs : Sprints f a w.drew) :
    Calls Tryf.prog 36 #[.pointer (some ⟨rb, 0, none⟩), .string f, a] w fun e w' => e = .returned (.tuple #[]) ∧ ∃ u, RS w' rb v G off (.iface 84 u) ∧ w.grownBy w' (some rb) := by
  refine (fail_core rb off f a w h.lt h.c1 h.c2 h.f2 hs).mono ?_
  rintro e w' ⟨rfl, w1, u, rfl, hg⟩
  exact ⟨rfl, u, h.failed u hg⟩

/-- Fail, the error set: nothing turns. -/
theorem fail_bad (rb : Nat) (u : Value) (f : ByteArray) (a : Value) (w : World) (h : w.cell? ⟨rb, 2, none⟩ = some (.iface 84 u)) :
    Calls Tryf.prog 36 #[.pointer (some ⟨rb, 0, none⟩), .string f, a] w fun e w' => e = .returned (.tuple #[]) ∧ w' = w := by
  go_enter Tryf.func36, Tryf.ntmps36
  go_wp2
  simp [bodyPost, results, Tryf.results36, go_sem]

theorem next_bad (rb : Nat) (u : Value) (n : Int) (w : World) (h : w.cell? ⟨rb, 2, none⟩ = some (.iface 84 u)) :
    Calls Tryf.prog 34 #[.pointer (some ⟨rb, 0, none⟩), .int .i64 n] w fun e w' => e = .returned (.slice none 0 0) ∧ w' = w := by
  go_enter Tryf.func34, Tryf.ntmps34
  go_wp2
  go_ret
  exact ⟨rfl, rfl⟩

set_option maxHeartbeats 1600000 in
theorem next_short (a : Option Addr) (c n off len rb : Nat) (G : List Int) (hG : G.length = len) (w : World) (h : RS w rb (.slice a len c) G off .nilIface) (hl : len < off + n) (_hn : n ≤ 1099511627776) :
    Calls Tryf.prog 34 #[.pointer (some ⟨rb, 0, none⟩), .int .i64 n] w fun e w' => e = .returned (.slice none 0 0) ∧ ∃ u, RS w' rb (.slice a len c) G off (.iface 84 u) ∧ w.grownBy w' (some rb) := by
  have h0 := h.c0
  have h1 := h.c1
  have h2 := h.c2
  have hle := h.le
  have hsm := h.small
  rw [hG] at hle hsm
  have i1 : (len : Int) - off < n := by omega
  have h' := hide h
  have hG' := hide hG
  clear h hG
  go_enter Tryf.func34, Tryf.ntmps34
  go_wp2
  go_quiet (fail)
  go_wp2
  go_region_with (go_at_call 36; refine (fail_ok rb (.slice a len c) G off _ _ _ (((unhide h').drewN _).alloc _) (spn_want _ _ (w.drewN _))).mono ?_; rintro e w1 ⟨rfl, u, hS, hg⟩)
  all_goals
    go_wp2
    go_ret
    exact ⟨rfl, u, hS, grown_trans (grown_trans (grown_drewN w _ _) (grown_alloc _ _ _)) hg⟩
end Go.Proofs.Qxb6605704aFmt
