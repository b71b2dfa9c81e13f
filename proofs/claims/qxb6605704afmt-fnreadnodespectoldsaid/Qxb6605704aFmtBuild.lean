/-
  A STRUCT LITERAL OF FOUR FIELDS WITH ARRAYS BY VALUE: NodeB1{..} (type 46), overlay.Node{..} (type 34).
-/
import Derived.Test.Qxb6605704aFmtGuard
import Derived.Laws.Tables
namespace Go.Proofs.Qxb6605704aFmt
open Go.RowKit

theorem fold_set : ∀ (xs : List Value) (off k : Nat) (cs : Array Value), off + k + xs.length ≤ cs.size →
    (xs.zipIdx k).foldl (fun (cs : Array Value) (x : Value × Nat) => cs.setIfInBounds (off + x.2) x.1) cs = (cs.toList.take (off + k) ++ (xs ++ cs.toList.drop (off + k + xs.length))).toArray
  | [], off, k, cs, _ => by simp
  | x :: xs, off, k, cs, h => by
    simp only [List.length_cons] at h
    rw [List.zipIdx_cons, List.foldl_cons]
    rw [fold_set xs off (k + 1) (cs.setIfInBounds (off + k) x) (by simp; omega)]
    apply Array.toList_inj.1
    simp only [Array.toList_setIfInBounds]
    have h1 : (cs.toList.set (off + k) x).take (off + (k + 1)) = cs.toList.take (off + k) ++ [x] := by
      rw [← Nat.add_assoc, List.take_succ_eq_append_getElem (by simp; omega), List.take_set_of_le (by omega)]
      simp
    have h2 : (cs.toList.set (off + k) x).drop (off + (k + 1) + xs.length) = cs.toList.drop (off + k + (x :: xs).length) := by
      rw [List.drop_set_of_lt (by omega)]
      congr 1
      simp; omega
    rw [h1, h2]
    simp

theorem fill_step (place : Nat → Option (Nat × Nat)) (cells : Array Value) (i : Nat) (v : Value) (rest : List (Nat × Value)) (off : Nat) (xs : List Value)
    (hp : place i = some (off, xs.length)) (hv : v.cells = xs.toArray) (hs : off + xs.length ≤ cells.size) :
    Instr.fill place cells ((i, v) :: rest) = Instr.fill place (cells.toList.take off ++ (xs ++ cells.toList.drop (off + xs.length))).toArray rest := by
  rw [Instr.fill, hp]
  simp only [hv, List.size_toArray]
  rw [if_neg (by simp; omega)]
  have := fold_set xs off 0 cells (by omega)
  rw [Nat.add_zero] at this
  rw [← this]
  congr 1
  rw [← Array.foldl_toList]
  simp

theorem fill_four (place : Nat → Option (Nat × Nat)) (cells : Array Value) (h0 : place 0 = some (0, 32)) (h1 : place 1 = some (32, 32)) (h2 : place 2 = some (64, 1)) (h3 : place 3 = some (65, 1)) (hs : cells.size = 66)
    (v0 v1 v2 v3 : Value) (xs ys : List Value) (hx : xs.length = 32) (hy : ys.length = 32) (e0 : v0.cells = xs.toArray) (e1 : v1.cells = ys.toArray) (e2 : v2.cells = #[v2]) (e3 : v3.cells = #[v3]) :
    Instr.fill place cells [(0, v0), (1, v1), (2, v2), (3, v3)] = some (xs ++ (ys ++ [v2, v3])).toArray := by
  rw [fill_step place cells 0 v0 _ 0 xs (by rw [h0, hx]) e0 (by omega)]
  rw [fill_step place _ 1 v1 _ 32 ys (by rw [h1, hy]) e1 (by simp; omega)]
  rw [fill_step place _ 2 v2 _ 64 [v2] (by rw [h2]; rfl) (by rw [e2]) (by simp; omega)]
  rw [fill_step place _ 3 v3 _ 65 [v3] (by rw [h3]; rfl) (by rw [e3]) (by simp; omega)]
  rw [Instr.fill]
  congr 2
  simp only [hx, hy, Nat.zero_add, List.take_zero, List.nil_append, List.length_cons, List.length_nil]
  have a1 : (xs ++ cells.toList.drop 32).take 32 = xs := by rw [List.take_append_of_le_length (by omega), List.take_of_length_le (by omega)]
  have a2 : (xs ++ cells.toList.drop 32).drop (32 + 32) = cells.toList.drop 64 := by
    rw [List.drop_append, hx, List.drop_of_length_le (by omega), List.nil_append, List.drop_drop]
  rw [a1, a2]
  have b1 : (xs ++ (ys ++ cells.toList.drop 64)).take 64 = xs ++ ys := by
    rw [← List.append_assoc, List.take_append_of_le_length (by simp; omega), List.take_of_length_le (by simp; omega)]
  have b2 : (xs ++ (ys ++ cells.toList.drop 64)).drop (64 + 1) = cells.toList.drop 65 := by
    rw [← List.append_assoc, List.drop_append, List.drop_of_length_le (by simp; omega), List.nil_append, List.drop_drop]
    congr 1
    simp; omega
  rw [b1, b2]
  have c1 : ((xs ++ ys) ++ ([v2] ++ cells.toList.drop 65)).take 65 = (xs ++ ys) ++ [v2] := by
    rw [← List.append_assoc, List.take_append_of_le_length (by simp; omega), List.take_of_length_le (by simp; omega)]
  have c2 : ((xs ++ ys) ++ ([v2] ++ cells.toList.drop 65)).drop (65 + 1) = [] := by
    rw [List.drop_of_length_le (by simp; omega)]
  rw [c1, c2]
  simp

def zN : Array Value := (List.replicate 64 (Value.int .u8 0) ++ [Value.int .i32 0, Value.slice none 0 0]).toArray
theorem zN_size : zN.size = 66 := rfl
theorem built46 (parts : List (Nat × Value)) : Tryf.prog.built 46 parts = Instr.fill (#[(0, 32), (32, 32), (64, 1), (65, 1)][·]?) zN parts := by kernel_rfl
theorem built34 (parts : List (Nat × Value)) : Tryf.prog.built 34 parts = Instr.fill (#[(0, 32), (32, 32), (64, 1), (65, 1)][·]?) zN parts := by kernel_rfl

theorem build46 (n : Nd) (k : n.Ok) (a : Option Addr) (m c : Nat) (w : World) (hs : n.sv = .slice a m c) :
    (Instr.build 46 #[(0, .agg (bv n.id).toArray), (1, .agg (bv n.ov).toArray), (2, .int .i32 n.ver), (3, .slice a m c)]).run Tryf.prog w = .ok (.agg n.cells.toArray) w := by
  refine run_build w 46 _ _ ?_
  rw [built46]
  have := fill_four (#[(0, 32), (32, 32), (64, 1), (65, 1)][·]?) zN rfl rfl rfl rfl zN_size (.agg (bv n.id).toArray) (.agg (bv n.ov).toArray) (.int .i32 n.ver) n.sv (bv n.id) (bv n.ov) (by rw [bv_length, k.id]) (by rw [bv_length, k.ov]) rfl rfl rfl (by rw [hs]; rfl)
  rw [hs] at this
  rw [this]
  unfold Nd.cells
  rw [hs]
theorem build34 (n : Nd) (k : n.Ok) (a : Option Addr) (m c : Nat) (w : World) (hs : n.sv = .slice a m c) :
    (Instr.build 34 #[(0, .agg (bv n.id).toArray), (1, .agg (bv n.ov).toArray), (2, .int .i32 n.ver), (3, .slice a m c)]).run Tryf.prog w = .ok (.agg n.cells.toArray) w := by
  refine run_build w 34 _ _ ?_
  rw [built34]
  have := fill_four (#[(0, 32), (32, 32), (64, 1), (65, 1)][·]?) zN rfl rfl rfl rfl zN_size (.agg (bv n.id).toArray) (.agg (bv n.ov).toArray) (.int .i32 n.ver) n.sv (bv n.id) (bv n.ov) (by rw [bv_length, k.id]) (by rw [bv_length, k.ov]) rfl rfl rfl (by rw [hs]; rfl)
  rw [hs] at this
  rw [this]
  unfold Nd.cells
  rw [hs]
end Go.Proofs.Qxb6605704aFmt
