/-
  WALKS OF THE WRITERS: littleEndian.AppendUint32 (46), tl.AppendInt (37), tl.AppendConstructor (38), tl.AppendInt256 (48), tl.AppendBytes (49), PublicKey.AppendTL (47), Node.appendBare (39), Nodes.AppendTL (19).
-/
import Derived.Test.Qxb6605704aFmtLeaf
namespace Go.Proofs.Qxb6605704aFmt
open Go.RowKit

theorem wpList_app {ops : Array Oper} {rest : List Oper} {o : Oper} {a : Act} {w : World} {Q : Exit → Act → World → Prop} (hgd : o.guard = none) (s x : Operand)
    (ho : o.op = .call { callee := .builtin .append, args := #[s, x], argTypes := #[22, 22] }) (B : Nat) (v : Value) (xs : List Int) (hs : a.eval s = v) (hown : Own w B v xs)
    (sv : Value) (ys : List Int) (hx : a.eval x = sv) (hsrc : Rd w sv ys) (hlen : xs.length + ys.length ≤ 140737488355328) (hB : B ≤ w.heap.size)
    (h : ∀ v' w', App B w v xs w' v' ys → wpList Tryf.prog ops Q rest (a.put o.dst v') w') : wpList Tryf.prog ops Q (o :: rest) a w :=
  wpList_plain hgd fun _ hK => by
    obtain ⟨v', w', hr, hA⟩ := run_app w B v xs hown sv ys hsrc hlen hB o.type
    unfold Oper.wp execOp
    simp only [ho, resolve, invoke, builtin, Sem.run_bind, Sem.run_pure, Result.andThen_ok, List.map_toArray, List.map_cons, List.map_nil, hs, hx, hr]
    exact hK _ _ (h v' w' hA)

theorem Rd.lit (w : World) (ys : List Int) (n c H : Nat) (hn : n = ys.length) (hH : w.heap.size = H) : Rd (w.alloc (.cells (bv ys).toArray 5)) (.slice (some ⟨H, 0, none⟩) n c) ys := by
  subst hn
  subst hH
  refine Rd.mk' c fun j u hj => ?_
  rw [cell_of_row _ w.heap.size (0 + j) _ 5 (0, 0) (heap_alloc_new w _), Nat.zero_add, List.getElem?_toArray]
  exact hj

theorem Rd.lit' (w : World) (ys : List Int) (n c H : Nat) (hn : n = ys.length) (hH : w.heap.size = H) : Rd (w.alloc (.cells (bv ys).toArray 25)) (.slice (some ⟨H, 0, none⟩) n c) ys := by
  subst hn
  subst hH
  refine Rd.mk' c fun j u hj => ?_
  rw [cell_of_row _ w.heap.size (0 + j) _ 25 (0, 0) (heap_alloc_new w _), Nat.zero_add, List.getElem?_toArray]
  exact hj

theorem range_lit (w : World) (ys : List Int) (t : TypeId) : (w.alloc (.cells (bv ys).toArray t)).rangeAt w.heap.size 0 (bv ys) := fun j u hj => by
  rw [cell_of_row _ w.heap.size (0 + j) _ t (0, 0) (heap_alloc_new w _), Nat.zero_add, List.getElem?_toArray]
  exact hj
theorem Tryf.size31 : (Tryf.prog.info? 31).map (·.size) = some 32 := by kernel_rfl
theorem Tryf.size32 : (Tryf.prog.info? 32).map (·.size) = some 32 := by kernel_rfl
theorem Tryf.size25 : (Tryf.prog.info? 25).map (·.size) = some 32 := by kernel_rfl
theorem Tryf.size34 : (Tryf.prog.info? 34).map (·.size) = some 66 := by kernel_rfl
theorem Tryf.size46 : (Tryf.prog.info? 46).map (·.size) = some 66 := by kernel_rfl

/-- The four bytes of a number below 2^32. -/
def le4 (x : Int) : List Int := [x % 256, x / 256 % 256, x / 65536 % 256, x / 16777216]
theorem le4_length (x : Int) : (le4 x).length = 4 := rfl

set_option maxHeartbeats 400000 in
theorem appU32_any (B : Nat) (v : Value) (xs : List Int) (x : Int) (w : World) (hx0 : 0 ≤ x) (hx1 : x < 4294967296) (hown : Own w B v xs) (hB : B ≤ w.heap.size) (hl : xs.length + 4 ≤ 140737488355328) :
    Calls Tryf.prog 46 #[.agg #[], v, .int .u32 x] w fun e w' => ∃ v', e = .returned v' ∧ App B w v xs w' v' (le4 x) := by
  go_enter Tryf.func46, Tryf.ntmps46
  go_wp2_with (at_builtin; refine wpList_app rfl (.tmp 7) (.tmp 19) rfl B v xs rfl ((hown.alloc _).alloc _) _ (le4 x) rfl ?h2 hl ?h4 ?_; rotate_right; intro v' w' hA)
  case h2 => exact Rd.lit (w.alloc (Obj.cells #[] 60)) (le4 x) 4 4 _ rfl (by simp)
  case h4 => simp; omega
  go_wp2
  go_ret
  exact ⟨v', rfl, hA.of_alloc.of_alloc⟩
set_option maxHeartbeats 400000 in
theorem appCon_any (B : Nat) (v : Value) (xs : List Int) (x : Int) (w : World) (hx0 : 0 ≤ x) (hx1 : x < 4294967296) (hown : Own w B v xs) (hB : B ≤ w.heap.size) (hl : xs.length + 4 ≤ 140737488355328) :
    Calls Tryf.prog 38 #[v, .int .u32 x] w fun e w' => ∃ v', e = .returned v' ∧ App B w v xs w' v' (le4 x) := by
  go_enter Tryf.func38, Tryf.ntmps38
  go_wp2_with fail
  refine (appU32_any B v xs x _ hx0 hx1 hown hB hl).mono ?_
  rintro e w' ⟨v', rfl, hA⟩
  go_wp2
  go_ret
  exact ⟨v', rfl, hA⟩
/-- An int32 as a uint32. -/
def u32 (x : Int) : Int := x % 4294967296
set_option maxHeartbeats 400000 in
theorem appInt_any (B : Nat) (v : Value) (xs : List Int) (x : Int) (w : World) (hown : Own w B v xs) (hB : B ≤ w.heap.size) (hl : xs.length + 4 ≤ 140737488355328) :
    Calls Tryf.prog 37 #[v, .int .i32 x] w fun e w' => ∃ v', e = .returned v' ∧ App B w v xs w' v' (le4 (u32 x)) := by
  go_enter Tryf.func37, Tryf.ntmps37
  go_wp2_with fail
  refine (appU32_any B v xs (u32 x) _ (by unfold u32; omega) (by unfold u32; omega) hown hB hl).mono ?_
  rintro e w' ⟨v', rfl, hA⟩
  go_wp2
  go_ret
  exact ⟨v', rfl, hA⟩
set_option maxHeartbeats 400000 in
theorem app256_any (B : Nat) (v : Value) (xs ys : List Int) (w : World) (hy : ys.length = 32) (hown : Own w B v xs) (hB : B ≤ w.heap.size) (hl : xs.length + 32 ≤ 140737488355328) :
    Calls Tryf.prog 48 #[v, .agg (bv ys).toArray] w fun e w' => ∃ v', e = .returned v' ∧ App B w v xs w' v' ys := by
  have hy' := hide hy
  clear hy
  go_enter Tryf.func48, Tryf.ntmps48
  go_wp2_with (at_builtin; refine wpList_app rfl (.tmp 5) (.tmp 6) rfl B v xs rfl (hown.alloc _) _ ys rfl ?h2 ?h3 ?h4 ?_; rotate_right; intro v' w' hA)
  case h2 => exact Rd.lit' w ys 32 32 _ (unhide hy').symm rfl
  case h3 => have := unhide hy'; omega
  case h4 => simp; omega
  go_wp2
  go_ret
  exact ⟨v', rfl, hA.of_alloc⟩
set_option maxHeartbeats 400000 in
theorem keyTL_any (B : Nat) (v : Value) (xs ys : List Int) (w : World) (hy : ys.length = 32) (hown : Own w B v xs) (hB : B ≤ w.heap.size) (hl : xs.length + 36 ≤ 140737488355328) :
    Calls Tryf.prog 47 #[.agg (bv ys).toArray, v] w fun e w' => ∃ v', e = .returned v' ∧ App B w v xs w' v' (le4 1209251014 ++ ys) := by
  have hy' := hide hy
  clear hy
  go_enter Tryf.func47, Tryf.ntmps47
  go_wp2_with fail
  refine (appCon_any B v xs 1209251014 _ (by decide) (by decide) (hown.alloc _) ?_ (by omega)).mono ?_
  · simp; omega
  rintro e w1 ⟨v1, rfl, hA⟩
  have hlt := hown.lt
  have hr : w1.rangeAt w.heap.size 0 (bv ys) := range_of_block (hA.grow.block w.heap.size (by simp) (fun e => by have := hlt _ e.symm; omega)) (range_lit w ys 31)
  have hi : (Tryf.prog.info? 31).map (·.size) = some (bv ys).length := by rw [bv_length, unhide hy']; exact Tryf.size31
  have hs1 := hA.grow.size
  simp only [World.size_alloc] at hs1
  go_wp2_with (refine wpList_load_mid rfl 31 (.tmp 2) rfl w.heap.size 0 rfl (bv ys) _ hr Tryf.underlying31 rfl hi ?_)
  refine (app256_any B v1 (xs ++ le4 1209251014) ys _ (unhide hy') hA.own (by omega) (by rw [List.length_append, le4_length]; omega)).mono ?_
  rintro e w2 ⟨v2, rfl, hA2⟩
  clear hr hi
  go_wp2
  go_ret
  exact ⟨v2, rfl, (App.trans (hown.alloc _) hA hA2).of_alloc⟩
end Go.Proofs.Qxb6605704aFmt
