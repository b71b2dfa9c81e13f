/-
  THE READER: the walk of Bytes (43) where nothing fails.
-/
import Derived.Test.Qxb6605704aFmtReaderA
namespace Go.Proofs.Qxb6605704aFmt
open Go.RowKit

theorem next_pos' (rb : Nat) (v : Value) (G : List Int) (off n : Nat) (m : Int) (w : World) (hm : m = (n : Int)) (h : RS w rb v G off .nilIface) (hl : off + n ≤ G.length) (hn : n ≠ 0) :
    Calls Tryf.prog 34 #[.pointer (some ⟨rb, 0, none⟩), .int .i64 m] w fun e w' => ∃ (b o c : Nat), e = .returned (.slice (some ⟨b, o, none⟩) n c) ∧ RS w' rb v G (off + n) .nilIface ∧ w.grownBy w' (some rb) ∧ Rd w' (.slice (some ⟨b, o, none⟩) n c) ((G.drop off).take n) := by
  subst hm
  exact next_pos rb v G off n w h hl hn

theorem next_ok' (rb : Nat) (v : Value) (G : List Int) (off n : Nat) (m : Int) (w : World) (hm : m = (n : Int)) (h : RS w rb v G off .nilIface) (hl : off + n ≤ G.length) (hG : G.length ≠ 0) :
    Calls Tryf.prog 34 #[.pointer (some ⟨rb, 0, none⟩), .int .i64 m] w fun e w' => ∃ a c, e = .returned (.slice a n c) ∧ RS w' rb v G (off + n) .nilIface ∧ w.grownBy w' (some rb) ∧ Rd w' (.slice a n c) ((G.drop off).take n) ∧ (∀ g, (Value.slice a n c).ownBlock = some g → g ≠ rb) := by
  subst hm
  refine (next_ok rb v G off n w h hl hG).mono ?_
  rintro e w' ⟨u, rfl, hS, hg, hu, _, hb⟩
  have hu' := hu
  obtain ⟨a, c, e, _⟩ := hu
  rw [show ((G.drop off).take n).length = n by simp; omega] at e
  subst e
  exact ⟨a, c, rfl, hS, hg, hu', fun g hg => (h.own g (by rw [← hb]; exact hg)).2⟩

theorem Rd.grown {w w' : World} {rb : Nat} {u : Value} {xs : List Int} (h : Rd w u xs) (hg : w.grownBy w' (some rb)) (hb : ∀ g, u.ownBlock = some g → g ≠ rb) : Rd w' u xs := by
  obtain ⟨a, c, rfl, h⟩ := h
  refine ⟨a, c, rfl, fun hn => ?_⟩
  obtain ⟨b, o, rfl, hr⟩ := h hn
  exact ⟨b, o, rfl, range_of_block (hg.block b (range_lt hr (by simpa [bv] using hn)) (fun e => hb b rfl (Option.some.inj e))) hr⟩

/-- append to nil. -/
theorem run_appnil (w : World) (B : Nat) (sv : Value) (ys : List Int) (hsrc : Rd w sv ys) (hlen : ys.length ≤ 140737488355328) (hB : B ≤ w.heap.size) (ty : TypeId) :
    ∃ v' w', (Builtin.append_ #[22, 22] ty #[.slice none 0 0, sv]).run Tryf.prog w = .ok v' w' ∧ App B w (.slice none 0 0) [] w' v' ys ∧ nilS v' = decide (ys.length = 0) := by
  by_cases hz : ys.length = 0
  · have : ys = [] := List.eq_nil_of_length_eq_zero hz
    subst this
    refine ⟨.slice none 0 0, w, ?_, App.refl (Own.nil w B), rfl⟩
    obtain ⟨i0, hi, hz0, hz1, hz2⟩ := info_parts Tryf.info5
    obtain ⟨a, c, rfl, _⟩ := hsrc
    cases a with
    | none => simp [Builtin.append_, run_underlying Tryf.underlying22, sizeOf, typeInfo, hi, Builtin.lenOf, Builtin.firstCells]
    | some a => simp [Builtin.append_, run_underlying Tryf.underlying22, sizeOf, typeInfo, hi, Builtin.lenOf, Builtin.firstCells, loadCells, loadCellsFrom]
  · obtain ⟨v', w', hr, hA⟩ := run_app w B (.slice none 0 0) [] (Own.nil w B) sv ys hsrc (by simpa using hlen) hB ty
    refine ⟨v', w', hr, hA, ?_⟩
    rcases hA.own with ⟨_, e⟩ | ⟨g, cap, rfl, _⟩
    · exact absurd (by simpa using congrArg List.length e) hz
    · simp [nilS, hz]

theorem wpList_appnil {ops : Array Oper} {rest : List Oper} {o : Oper} {a : Act} {w : World} {Q : Exit → Act → World → Prop} (hgd : o.guard = none) (s x : Operand)
    (ho : o.op = .call { callee := .builtin .append, args := #[s, x], argTypes := #[22, 22] }) (B : Nat) (hs : a.eval s = .slice none 0 0)
    (sv : Value) (ys : List Int) (hx : a.eval x = sv) (hsrc : Rd w sv ys) (hlen : ys.length ≤ 140737488355328) (hB : B ≤ w.heap.size)
    (h : ∀ v' w', App B w (.slice none 0 0) [] w' v' ys → nilS v' = decide (ys.length = 0) → wpList Tryf.prog ops Q rest (a.put o.dst v') w') : wpList Tryf.prog ops Q (o :: rest) a w :=
  wpList_plain hgd fun _ hK => by
    obtain ⟨v', w', hr, hA, hN⟩ := run_appnil w B sv ys hsrc hlen hB o.type
    unfold Oper.wp execOp
    simp only [ho, resolve, invoke, builtin, Sem.run_bind, Sem.run_pure, Result.andThen_ok, List.map_toArray, List.map_cons, List.map_nil, hs, hx, hr]
    exact hK _ _ (h v' w' hA hN)

theorem one_cell {w : World} {b o c : Nat} {G : List Int} {off n : Nat} (h : Rd w (.slice (some ⟨b, o, none⟩) n c) ((G.drop off).take n)) (j : Nat) (hj : j < n) (hl : off + n ≤ G.length) : w.cell? ⟨b, o + j, none⟩ = some (.int .u8 (G[off + j]?.getD 0)) := by
  rw [range_at h.at j (by simp; omega)]
  simp [List.getElem?_drop, hj]

/-- The padding behind a field of hd + n bytes. -/
def padN (hd n : Nat) : Nat := (4 - (hd + n) % 4) % 4

set_option maxHeartbeats 1600000 in
theorem bytes_short (rb : Nat) (v : Value) (G : List Int) (off n : Nat) (w : World) (h : RS w rb v G off .nilIface) (hx : G[off]?.getD 0 = (n : Int)) (hn : n < 254) (hl : off + 1 + n + padN 1 n ≤ G.length) :
    Calls Tryf.prog 43 #[.pointer (some ⟨rb, 0, none⟩)] w fun e w' => ∃ u, e = .returned u ∧ RS w' rb v G (off + 1 + n + padN 1 n) .nilIface ∧ w.grownBy w' (some rb) ∧ Own w' w.heap.size u ((G.drop (off + 1)).take n) ∧ nilS u = decide (n = 0) := by
  have hq := eqnil22
  have i1 : (n : Int) < 254 := by omega
  have hx' := hide hx
  have hsm := h.small
  clear hx
  go_enter Tryf.func43, Tryf.ntmps43
  go_wp2_with fail
  refine (next_pos' rb v G off 1 1 _ ?_ ?_ ?_ ?_).mono ?_
  · rfl
  · exact h
  · omega
  · decide
  rintro e w1 ⟨b, o, c, rfl, hS, hg, hu⟩
  have hc0 := one_cell hu 0 (by decide) (by omega)
  rw [Nat.add_zero, Nat.add_zero, unhide hx'] at hc0
  clear hu
  go_wp2_with fail
  refine (next_ok' rb v G (off + 1) n n _ ?_ ?_ ?_ ?_).mono ?_
  · rfl
  · exact hS
  · omega
  · omega
  rintro e w2 ⟨a2, c2, rfl, hS2, hg2, hu2, hb2⟩
  clear hc0
  go_wp2_with fail
  refine (next_ok' rb v G (off + 1 + n) (padN 1 n) _ _ ?_ ?_ ?_ ?_).mono ?_
  · unfold padN; omega
  · exact hS2
  · omega
  · omega
  rintro e w3 ⟨a3, c3, rfl, hS3, hg3, hu3, hb3⟩
  have h2 := hS3.c2
  have hu4 : Rd w3 (.slice a2 n c2) ((G.drop (off + 1)).take n) := hu2.grown hg3 hb2
  have hgs := grown_trans (grown_trans hg hg2) hg3
  go_wp2_with (at_builtin; refine wpList_appnil rfl (.const (.slice none 0 0)) (.tmp 77) rfl w.heap.size rfl _ _ rfl hu4 ?h1 ?h2 ?_; rotate_right; intro v' w' hA hN)
  case h1 => simp; omega
  case h2 => exact hgs.size
  go_ret
  refine ⟨v', rfl, hS3.kept hA.grow.size fun k hk => hA.grow.block k hk (by simp [Value.ownBlock]), ?_, by simpa using hA.own, ?_⟩
  · exact grown_trans hgs ⟨hA.grow.os, hA.grow.tape, hA.grow.output, hA.grow.size, fun k hk _ => hA.grow.block k hk (by simp [Value.ownBlock])⟩
  · rw [hN, show ((G.drop (off + 1)).take n).length = n by simp; omega]

/-- Three bytes, the low one ahead. -/
def le24at (xs : List Int) (k : Nat) : Int := xs[k]?.getD 0 + xs[k + 1]?.getD 0 * 256 + xs[k + 2]?.getD 0 * 65536

theorem i64_or_nat (a b : Nat) (ha : a < 16777216) (hb : b < 16777216) : bits .or .i64 (a : Int) (b : Int) = ((a ||| b : Nat) : Int) := by
  have hx : a ||| b < 2 ^ 24 := Nat.or_lt_two_pow (by omega) (by omega)
  show IntKind.i64.wrap ((BitVec.ofInt 64 (a : Int) ||| BitVec.ofInt 64 (b : Int)).toNat : Int) = _
  rw [BitVec.toNat_or, ofInt_u64 a (by omega), ofInt_u64 b (by omega), IntKind.wrap_i64]
  omega
theorem le_sum3 (x0 x1 x2 : Int) (a0 : 0 ≤ x0 ∧ x0 < 256) (a1 : 0 ≤ x1 ∧ x1 < 256) (a2 : 0 ≤ x2 ∧ x2 < 256) :
    bits BinOp.or IntKind.i64 (bits BinOp.or IntKind.i64 x0 (x1 * 256)) (x2 * 65536) = x0 + x1 * 256 + x2 * 65536 := by
  obtain ⟨n0, rfl⟩ := Int.eq_ofNat_of_zero_le a0.1
  obtain ⟨n1, rfl⟩ := Int.eq_ofNat_of_zero_le a1.1
  obtain ⟨n2, rfl⟩ := Int.eq_ofNat_of_zero_le a2.1
  have e1 : ((n1 : Int) * 256) = ((n1 * 256 : Nat) : Int) := by omega
  have e2 : ((n2 : Int) * 65536) = ((n2 * 65536 : Nat) : Int) := by omega
  rw [e1, e2, i64_or_nat n0 (n1 * 256) (by omega) (by omega), or_mul n0 n1 8 256 (by decide) (by omega), i64_or_nat _ (n2 * 65536) (by omega) (by omega), or_mul _ n2 16 65536 (by decide) (by omega)]
  omega

set_option maxHeartbeats 1600000 in
theorem bytes_long (rb : Nat) (v : Value) (G : List Int) (off n : Nat) (w : World) (h : RS w rb v G off .nilIface) (hb : Byts G) (hx : G[off]?.getD 0 = 254) (hx2 : le24at G (off + 1) = (n : Int)) (hl : off + 4 + n + padN 4 n ≤ G.length) :
    Calls Tryf.prog 43 #[.pointer (some ⟨rb, 0, none⟩)] w fun e w' => ∃ u, e = .returned u ∧ RS w' rb v G (off + 4 + n + padN 4 n) .nilIface ∧ w.grownBy w' (some rb) ∧ Own w' w.heap.size u ((G.drop (off + 4)).take n) ∧ nilS u = decide (n = 0) := by
  have hq := eqnil22
  have hsm := h.small
  have hs := hide ((le_sum3 _ _ _ (hb.get (off + 1)) (hb.get (off + 1 + 1)) (hb.get (off + 1 + 2))).trans hx2)
  have hx' := hide hx
  have j0 := hb.get (off + 1)
  have j1 := hb.get (off + 1 + 1)
  have j2 := hb.get (off + 1 + 2)
  clear hx hx2
  go_enter Tryf.func43, Tryf.ntmps43
  go_wp2_with fail
  refine (next_pos' rb v G off 1 1 _ ?_ ?_ ?_ ?_).mono ?_
  · rfl
  · exact h
  · omega
  · decide
  rintro e w1 ⟨b, o, c, rfl, hS, hg, hu⟩
  have hc0 := one_cell hu 0 (by decide) (by omega)
  rw [Nat.add_zero, Nat.add_zero, unhide hx'] at hc0
  clear hu
  go_wp2_with fail
  refine (next_pos' rb v G (off + 1) 3 3 _ ?_ ?_ ?_ ?_).mono ?_
  · rfl
  · exact hS
  · omega
  · decide
  rintro e wq ⟨bq, oq, cq, rfl, hSq, hgq, huq⟩
  have d0 := one_cell huq 0 (by decide) (by omega)
  have d1 := one_cell huq 1 (by decide) (by omega)
  have d2 := one_cell huq 2 (by decide) (by omega)
  clear hc0 huq
  simp only [Nat.add_zero] at d0
  generalize G[off + 1]?.getD 0 = y0 at *
  generalize G[off + 1 + 1]?.getD 0 = y1 at *
  generalize G[off + 1 + 2]?.getD 0 = y2 at *
  go_wp2
  go_quiet (fail)
  go_wp2_with fail
  rw [unhide hs]
  refine (next_ok' rb v G (off + 4) n n _ ?_ ?_ ?_ ?_).mono ?_
  · rfl
  · exact hSq.drewN _
  · omega
  · omega
  rintro e w2 ⟨a2, c2, rfl, hS2, hg2, hu2, hb2⟩
  clear d0 d1 d2
  go_wp2_with fail
  refine (next_ok' rb v G (off + 4 + n) (padN 4 n) _ _ ?_ ?_ ?_ ?_).mono ?_
  · unfold padN; omega
  · exact hS2
  · omega
  · omega
  rintro e w3 ⟨a3, c3, rfl, hS3, hg3, hu3, hb3⟩
  have h2 := hS3.c2
  have hu4 : Rd w3 (.slice a2 n c2) ((G.drop (off + 4)).take n) := hu2.grown hg3 hb2
  have hgs := grown_trans (grown_trans (grown_trans (grown_trans hg hgq) (grown_drewN _ _ _)) hg2) hg3
  go_wp2_with (at_builtin; refine wpList_appnil rfl (.const (.slice none 0 0)) (.tmp 77) rfl w.heap.size rfl _ _ rfl hu4 ?h1 ?h2 ?_; rotate_right; intro v' w' hA hN)
  case h1 => simp; omega
  case h2 => exact hgs.size
  go_ret
  refine ⟨v', rfl, hS3.kept hA.grow.size fun k hk => hA.grow.block k hk (by simp [Value.ownBlock]), ?_, by simpa using hA.own, ?_⟩
  · exact grown_trans hgs ⟨hA.grow.os, hA.grow.tape, hA.grow.output, hA.grow.size, fun k hk _ => hA.grow.block k hk (by simp [Value.ownBlock])⟩
  · rw [hN, show ((G.drop (off + 4)).take n).length = n by simp; omega]
end Go.Proofs.Qxb6605704aFmt
