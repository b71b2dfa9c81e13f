/-
  WALKS OF Nodes.Trim (30) AND sameExactB1 (31).
-/
import Derived.Test.Qxb6605704aFmtWirePlain
import Derived.Stop.BytesEq
namespace Go.Proofs.Qxb6605704aFmt
open Go.RowKit

/-- WHAT Trim GIVES: k entries, as many as fit. -/
structure Fits (ns : List Nd) (lim : Int) (k : Nat) : Prop where
  le : k ≤ ns.length
  yes : ∀ i, i < k → (8 + tot ns (i + 1) : Int) ≤ lim
  no : k < ns.length → lim < (8 + tot ns (k + 1) : Int)

theorem appTL_nil (a : Option Addr) (c : Nat) (ns : List Nd) (w : World) (k : ∀ n ∈ ns, n.Ok ∧ n.sig.length ≤ 16777215) (hns : ns.length ≠ 0 → ∃ b o, a = some ⟨b, o, none⟩ ∧ NdsAt w none b o ns) (hN : ns.length ≤ 1048576) (hl : (encNs ns).length ≤ 140737480000000) :
    Calls Tryf.prog 19 #[.slice a ns.length c, .slice none 0 0] w fun e w' => ∃ g cap, e = .returned (.slice (some ⟨g, 0, none⟩) (8 + (encNs ns).length) cap) ∧ Below w.heap.size w w' ∧ w'.rangeAt g 0 (bv (encTL ns)) := by
  refine (appTL_any w.heap.size (.slice none 0 0) [] a c ns w k (Own.nil _ _) (Nat.le_refl _) hns hN (by simpa using hl)).mono ?_
  rintro e w' ⟨v', rfl, hA⟩
  have ho := hA.own
  rw [List.nil_append] at ho
  obtain ⟨g, cap, e, _, hr⟩ := own_pos ho (by rw [encTL_length]; omega)
  subst e
  exact ⟨g, cap, by rw [encTL_length], hA.below (Nat.le_refl _) (Own.nil _ _), hr⟩
theorem bare_nil (b o : Nat) (n : Nd) (w : World) (k : n.Ok) (hn : NdAt w none b o n) (hs : n.sig.length ≤ 16777215) :
    Calls Tryf.prog 39 #[.pointer (some ⟨b, o, none⟩), .slice none 0 0] w fun e w' => ∃ g cap, e = .returned (.slice (some ⟨g, 0, none⟩) (72 + fieldLen n.sig.length) cap) ∧ Below w.heap.size w w' := by
  refine (bare_any w.heap.size (.slice none 0 0) [] b o n w k (Own.nil _ _) (Nat.le_refl _) hn hs (by simp; omega)).mono ?_
  rintro e w' ⟨v', rfl, hA⟩
  have ho := hA.own
  rw [List.nil_append] at ho
  obtain ⟨g, cap, e, _, _⟩ := own_pos ho (by rw [encN_length n k]; omega)
  subst e
  exact ⟨g, cap, by rw [encN_length n k], hA.below (Nat.le_refl _) (Own.nil _ _)⟩

set_option maxHeartbeats 1000000 in
theorem trim_any (a : Option Addr) (ns : List Nd) (lim : Int) (w : World) (k : ∀ n ∈ ns, n.Ok) (hns : ns.length ≠ 0 → ∃ b o, a = some ⟨b, o, none⟩ ∧ NdsAt w none b o ns) (hN : ns.length ≤ 16384) (hs : sigs ns ≤ 1048576) :
    Calls Tryf.prog 30 #[.slice a ns.length ns.length, .int .i64 lim] w fun e w' => ∃ m, e = .returned (.slice a m ns.length) ∧ Fits ns lim m ∧ Below w.heap.size w w' := by
  have hle := encNs_le ns k
  go_enter Tryf.func30, Tryf.ntmps30
  go_wp2_with fail
  refine (appTL_nil none 0 [] w (fun n h => (by cases h)) (fun h => absurd rfl h) (by simp) (by simp [encNs])).mono ?_
  rintro e w1 ⟨g, cap, rfl, hB1, _⟩
  rw [show 8 + (encNs []).length = 8 from rfl]
  go_wp2
  go_loopw [5, 11] (fun z i wr => ∃ m : Nat, m ≤ ns.length ∧ i = .int .i64 m ∧ z = .int .i64 (8 + tot ns m : Int) ∧ (∀ j, j < m → (8 + tot ns (j + 1) : Int) ≤ lim) ∧ Below w.heap.size w wr) (fun _ i _ => ns.length - (intOf i).toNat)
  case atStart => exact ⟨0, Nat.zero_le _, rfl, by simp [tot, encNs], fun j h => absurd h (by omega), hB1⟩
  case round =>
    obtain ⟨m, hm, rfl, rfl, hyes, hBr⟩ := hrel
    have hyes := hide hyes
    have htm : tot ns m ≤ (encNs ns).length := encNs_take_le ns m
    by_cases hlt : m < ns.length
    · obtain ⟨b, o, rfl, hnd⟩ := hns (by omega)
      have hi : (m : Int) < ns.length := by omega
      have km := k _ (List.getElem_mem hlt)
      have hn : NdAt wr none b (o + m * 66) ns[m] := (hnd m _ (List.getElem?_eq_getElem hlt)).kept km fun b hb _ => hBr.block b hb
      have hsn := hide (tot_succ ns m hlt km)
      have hsl := sig_le_sigs ns _ (List.getElem_mem hlt)
      have hfl := fieldLen_le ns[m].sig.length
      generalize ns[m] = n at km hn hsn hsl hfl
      clear hns hnd
      go_wp2_with fail
      refine (bare_nil b (o + m * 66) n _ km hn (by omega)).mono ?_
      rintro e w2 ⟨g2, cap2, rfl, hB2⟩
      have hB3 := hide (hBr.trans (hB2.mono hBr.size))
      clear hB2 hBr hB1 hn
      have hcast : ((72 + fieldLen n.sig.length : Nat) : Int) = 72 + (fieldLen n.sig.length : Int) := by omega
      have hcast := hide hcast
      by_cases hgt : lim < 8 + tot ns m + (72 + (fieldLen n.sig.length : Int))
      · go_wp2
        go_ret
        refine ⟨m, rfl, ⟨hm, unhide hyes, fun _ => ?_⟩, unhide hB3⟩
        rw [unhide hsn]; omega
      · go_wp2
        go_roundw
        case rel =>
          refine ⟨m + 1, by omega, by go_num, by rw [unhide hsn]; go_num, fun j hj => ?_, unhide hB3⟩
          by_cases hjm : j < m
          · exact unhide hyes j hjm
          · have : j = m := by omega
            subst this
            rw [unhide hsn]; omega
        case measure => simp [intOf]; omega
    · have hi : ¬ (m : Int) < ns.length := by omega
      have : m = ns.length := by omega
      subst this
      go_wp2
      go_ret
      exact ⟨ns.length, rfl, ⟨Nat.le_refl _, unhide hyes, fun h => absurd h (by omega)⟩, hBr⟩

/-! ### sameExact -/
theorem bv_cell (xs : List Int) (h : Byts xs) : bv xs = (xs.map fun x => UInt8.ofNat x.toNat).map Extern.Stop.cell := by
  simp only [bv, List.map_map]
  apply List.map_congr_left
  intro x hx
  have := h x hx
  simp only [Function.comp, Extern.Stop.cell]
  congr 1
  rw [UInt8.toNat_ofNat', Nat.mod_eq_of_lt (by omega)]
  exact (Int.toNat_of_nonneg this.1).symm
theorem eqArr (xs : List Int) (hl : xs.length = 32) (h : Byts xs) (w : World) : (Op.equalIn 10000 25 (.agg (bv xs).toArray) (.agg (bv xs).toArray)).run Tryf.prog w = .ok true w := by
  obtain ⟨i0, hi, _, hz1, _⟩ := info_parts Tryf.info5
  have := run_equalIn_bytes (P := Tryf.prog) w 9998 25 5 32 Tryf.underlying25 Tryf.underlying5 (fun w => by simp [sizeOf, typeInfo, hi, hz1]) (xs.map fun x => UInt8.ofNat x.toNat) (xs.map fun x => UInt8.ofNat x.toNat) (by simpa using hl) (by simpa using hl)
  rw [← bv_cell xs h] at this
  rw [this]
  simp
/-- A load of a long array under a guard that says yes. -/
theorem wpList_load_want {P : Program} {ops : Array Oper} {rest : List Oper} {op : Oper} {a : Act} {w : World} {Q : Exit → Act → World → Prop} (hw : Region.wanted op (yielded ops a.tmps) = true) (ty : TypeId) (x : Operand) (ho : op.op = .load ty x)
    (b o : Nat) (hx : a.eval x = .pointer (some ⟨b, o, none⟩)) (cs : List Value) (d : TypeDesc) (hc : w.rangeAt b o cs)
    (hu : P.underlying ty = some d) (hd : d.isRow = true) (hi : (P.info? ty).map (·.size) = some cs.length)
    (h : wpList P ops Q rest (a.put op.dst (.agg cs.toArray)) w) : wpList P ops Q (op :: rest) a w :=
  BigFrame.wpList_want hw fun _ hK => wp_load_mid ty x ho b o hx cs d hc hu hd hi (hK _ _ h)
theorem range_box (w : World) (cs : List Value) (t : TypeId) : (w.alloc (.cells cs.toArray t)).rangeAt w.heap.size 0 cs := fun j u hj => by
  rw [cell_of_row _ w.heap.size (0 + j) _ t (0, 0) (heap_alloc_new w _), Nat.zero_add, List.getElem?_toArray]
  exact hj

set_option maxHeartbeats 1000000 in
theorem sameExact_any (n : Nd) (w : World) (k : n.Ok) (hs : Rd w n.sv n.sig) (hl : n.sig.length ≤ 281474976710656) :
    Calls Tryf.prog 31 #[.agg n.cells.toArray, .agg n.cells.toArray] w fun e w' => e = .returned (.bool true) ∧ Below w.heap.size w w' := by
  have hq := eqnil22
  have hB : Below w.heap.size w ((w.alloc (.cells n.cells.toArray 34)).alloc (.cells n.cells.toArray 46)) := ((Below.refl _ w).alloc (Nat.le_refl _) _).alloc (by simp) _
  have r1 : ((w.alloc (.cells n.cells.toArray 34)).alloc (.cells n.cells.toArray 46)).rangeAt w.heap.size 0 n.cells := World.rangeAt_alloc (range_box w n.cells 34) _
  have r2 : ((w.alloc (.cells n.cells.toArray 34)).alloc (.cells n.cells.toArray 46)).rangeAt (w.heap.size + 1) 0 n.cells := by
    have := range_box (w.alloc (.cells n.cells.toArray 34)) n.cells 46
    simpa using this
  have hs2 := hs.kept fun k hk => hB.block k hk
  obtain ⟨a, c, hsv, _⟩ := id hs
  have hid1 := range_take r1
  have hid2 := range_take r2
  have hov1 := range_take (range_drop r1)
  have hov2 := range_take (range_drop r2)
  rw [bv_length, k.id, Nat.zero_add] at hov1 hov2
  have hv1 := nd_ver r1 k
  have hv2 := nd_ver r2 k
  have hs3 := nd_sv r1 k
  have hs4 := nd_sv r2 k
  rw [hsv] at hs3 hs4 hs2
  have e1 := eqArr n.id k.id k.idb
  have e2 := eqArr n.ov k.ov k.ovb
  have i31 : (Tryf.prog.info? 31).map (·.size) = some (bv n.id).length := by rw [bv_length, k.id]; exact Tryf.size31
  have i25 : (Tryf.prog.info? 25).map (·.size) = some (bv n.id).length := by rw [bv_length, k.id]; exact Tryf.size25
  have i32 : (Tryf.prog.info? 32).map (·.size) = some (bv n.ov).length := by rw [bv_length, k.ov]; exact Tryf.size32
  have i25' : (Tryf.prog.info? 25).map (·.size) = some (bv n.ov).length := by rw [bv_length, k.ov]; exact Tryf.size25
  clear hsv hs r1 r2
  go_enter Tryf.func31, Tryf.ntmps31
  go_wp2_with (first
    | refine wpList_load_mid rfl 31 (.tmp 5) rfl w.heap.size 0 rfl (bv n.id) _ hid1 Tryf.underlying31 rfl i31 ?_
    | refine wpList_load_mid rfl 25 (.tmp 7) rfl (w.heap.size + 1) 0 rfl (bv n.id) _ hid2 Tryf.underlying25 rfl i25 ?_
    | refine wpList_load_want (by rfl) 32 (.tmp 11) rfl w.heap.size 32 rfl (bv n.ov) _ hov1 Tryf.underlying32 rfl i32 ?_
    | refine wpList_load_want (by rfl) 25 (.tmp 13) rfl (w.heap.size + 1) 32 rfl (bv n.ov) _ hov2 Tryf.underlying25 rfl i25' ?_)
  refine (eqb_any _ _ n.sig _ hs2 hs2 (by omega)).mono ?_
  rintro e w' ⟨rfl, q, rfl⟩
  go_wp2
  go_ret
  exact ⟨rfl, hB.trans ⟨rfl, rfl, rfl, Nat.le_refl _, fun _ _ => rfl⟩⟩
end Go.Proofs.Qxb6605704aFmt
