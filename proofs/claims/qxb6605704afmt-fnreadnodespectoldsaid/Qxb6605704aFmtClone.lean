/-
  WALK OF cloneNodesB1 (23).
-/
import Derived.Test.Qxb6605704aFmtBuild
import Derived.Deep.RegionHeld3
namespace Go.Proofs.Qxb6605704aFmt
open Go.RowKit

theorem Tryf.info46 : (Tryf.prog.info? 46).map (fun i => (i.zero, i.size, i.bytes)) = some (some (.agg zN), 66, 96) := by kernel_rfl
theorem Tryf.info34 : (Tryf.prog.info? 34).map (fun i => (i.zero, i.size, i.bytes)) = some (some (.agg zN), 66, 96) := by kernel_rfl
def mkN (n : Nat) : Array Value := madeCells zN (n * 66)
theorem mkN_size (n : Nat) : (mkN n).size = n * 66 := size_madeCells _ _

theorem eqnil47 (w : World) (a : Option Addr) (n c n' c' : Nat) : (binOp .eql 47 (.slice a n c) (.slice none n' c')).run Tryf.prog w = .ok (.bool a.isNone) w := Lib.run_eql_slice_nil w _ _ a n c n' c' Tryf.underlying47
theorem eqnil43 (w : World) (a : Option Addr) (n c n' c' : Nat) : (binOp .eql 43 (.slice a n c) (.slice none n' c')).run Tryf.prog w = .ok (.bool a.isNone) w := Lib.run_eql_slice_nil w _ _ a n c n' c' Tryf.underlying43

theorem make47 (n : Nat) (hn : n ≤ 1048576) (w : World) : (Instr.makeSlice 47 (.int .i64 n) (.int .i64 n)).run Tryf.prog w = .ok (.slice (some ⟨w.heap.size, 0, none⟩) n n) (w.alloc (.cells (mkN n) 46)) := by
  obtain ⟨i0, hi, hz0, hz1, hz2⟩ := info_parts Tryf.info46
  have := run_make (P := Tryf.prog) w 47 46 i0 _ Tryf.underlying47 hi hz0 .i64 .i64 n n (by omega) (by omega) (by rw [hz2]; omega) (by omega)
  rw [this, hz1]
  simp only [Int.toNat_natCast]
  rfl
theorem make43 (n : Nat) (hn : n ≤ 1048576) (w : World) : (Instr.makeSlice 43 (.int .i64 n) (.int .i64 n)).run Tryf.prog w = .ok (.slice (some ⟨w.heap.size, 0, none⟩) n n) (w.alloc (.cells (mkN n) 34)) := by
  obtain ⟨i0, hi, hz0, hz1, hz2⟩ := info_parts Tryf.info34
  have := run_make (P := Tryf.prog) w 43 34 i0 _ Tryf.underlying43 hi hz0 .i64 .i64 n n (by omega) (by omega) (by rw [hz2]; omega) (by omega)
  rw [this, hz1]
  simp only [Int.toNat_natCast]
  rfl

/-- WHERE THE LOOP STANDS: of the new row's nodes the first m are laid. -/
structure ClInv (w : World) (g : Nat) (wr : World) (N m : Nat) (ms : List Nd) : Prop where
  len : ms.length = m
  below : Below w.heap.size w wr
  lt : g < wr.heap.size
  there : wr.there g 0 (N * 66)
  cells : ∀ i n, ms[i]? = some n → wr.rangeAt g (i * 66) n.cells
  sig : ∀ n ∈ ms, RdA wr (some g) n.sv n.sig
  ok : ∀ n ∈ ms, n.Ok

theorem there_new (w : World) (N : Nat) (t : TypeId) : (w.alloc (.cells (mkN N) t)).there w.heap.size 0 (N * 66) := fun j hj => by
  have hh := heap_alloc_new w (.cells (mkN N) t)
  refine ⟨?_, ?_⟩
  · rw [cell_of_row _ w.heap.size (0 + j) _ t (0, 0) hh, Nat.zero_add, Array.getElem?_eq_getElem (by rw [mkN_size]; exact hj)]; rfl
  · simp only [World.frozen?]; rw [hh]; simp
theorem ClInv.start (w : World) (N : Nat) (t : TypeId) : ClInv w w.heap.size (w.alloc (.cells (mkN N) t)) N 0 [] :=
  ⟨rfl, (Below.refl _ _).alloc (Nat.le_refl _) _, by simp, there_new w N t, fun i n h => by simp at h, fun n h => (by cases h), fun n h => (by cases h)⟩

theorem RdA.kept {w w' : World} {row : Option Nat} {sv : Value} {ys : List Int} (h : RdA w row sv ys) (hk : ∀ b, b < w.heap.size → some b ≠ row → w'.heap[b]? = w.heap[b]?) : RdA w' row sv ys := by
  obtain ⟨a, c, e, h⟩ := h
  exact ⟨a, c, e, fun hn => let ⟨b, o, e', hb, hr⟩ := h hn; ⟨b, o, e', hb, range_of_block (hk b (range_lt hr (by simpa [bv] using hn)) hb) hr⟩⟩

theorem ClInv.step {w : World} {g : Nat} {wr w1 : World} {N m : Nat} {ms : List Nd} {n : Nd} (h : ClInv w g wr N m ms) (hm : m < N) (hg : w.heap.size ≤ g) (hk : n.Ok) (hb : Below wr.heap.size wr w1) (hs : RdA w1 (some g) n.sv n.sig) :
    ClInv w g (w1.setCells g (m * 66) n.cells) N (m + 1) (ms ++ [n]) := by
  have hl := hk.length
  have ht1 : w1.there g 0 (N * 66) := there_of_block (hb.block g h.lt) h.there
  have hin : w1.there g (m * 66) n.cells.length := fun j hj => by
    have := ht1 (m * 66 + j) (by omega)
    simpa using this
  have hkeep : ∀ b, b < w1.heap.size → some b ≠ some g → (w1.setCells g (m * 66) n.cells).heap[b]? = w1.heap[b]? := fun b _ hne => setCells_other g b (fun e => hne (by rw [e])) _ _ _
  refine ⟨by simp [h.len], ?_, ?_, World.there_setCells ht1 _ _ _, ?_, ?_, ?_⟩
  · refine (h.below.trans (hb.mono h.below.size)).trans ⟨setCells_os _ _ _ _, setCells_tape _ _ _ _, setCells_output _ _ _ _, by rw [setCells_size]; exact Nat.le_refl _, fun k hk => setCells_other g k (by omega) _ _ _⟩
  · rw [setCells_size]; have := hb.size; have := h.lt; omega
  · intro i n' e
    by_cases hi : i < ms.length
    · rw [List.getElem?_append_left hi] at e
      have hr := range_of_block (hb.block g h.lt) (h.cells i n' e)
      have hl' := (h.ok n' (List.mem_of_getElem? e)).length
      have := h.len
      exact World.rangeAt_setCells_apart hr g _ _ (by right; left; omega)
    · rw [List.getElem?_append_right (by omega)] at e
      have hi0 : i - ms.length = 0 := by
        have := (List.getElem?_eq_some_iff.1 e).1
        simp at this; omega
      rw [hi0] at e
      simp at e
      subst e
      have : i = m := by have := h.len; omega
      subst this
      exact World.rangeAt_setCells_same w1 g _ _ hin
  · intro n' hn'
    rcases List.mem_append.1 hn' with h' | h'
    · exact ((h.sig n' h').kept fun b hb' _ => hb.block b hb').kept hkeep
    · simp at h'; subst h'; exact hs.kept hkeep
  · intro n' hn'
    rcases List.mem_append.1 hn' with h' | h'
    · exact h.ok n' h'
    · simp at h'; subst h'; exact hk

/-- What the statement's loads read, and where its store goes. -/
theorem held_keep' {b o g q : Nat} {n : Nd} {sv : Value} {W W' : World} (h : W.rangeAt b o (bv n.id) ∧ W.rangeAt b (o + 32) (bv n.ov) ∧ W.cell? ⟨b, o + 64, none⟩ = some (.int .i32 n.ver) ∧ W.cell? ⟨b, o + 65, none⟩ = some sv ∧ W.there g q 66)
    (hb : b < W.heap.size) (hg : g < W.heap.size) (hB : Below W.heap.size W W') : W'.rangeAt b o (bv n.id) ∧ W'.rangeAt b (o + 32) (bv n.ov) ∧ W'.cell? ⟨b, o + 64, none⟩ = some (.int .i32 n.ver) ∧ W'.cell? ⟨b, o + 65, none⟩ = some sv ∧ W'.there g q 66 := by
  obtain ⟨h1, h2, h3, h4, h5⟩ := h
  exact ⟨range_of_block (hB.block b hb) h1, range_of_block (hB.block b hb) h2, by rw [hB.cell (p := ⟨b, o + 64, none⟩) hb]; exact h3, by rw [hB.cell (p := ⟨b, o + 65, none⟩) hb]; exact h4, there_of_block (hB.block g hg) h5⟩
theorem held_store' {b o g q : Nat} {n : Nd} {sv : Value} {W : World} {cs : List Value} (h : W.rangeAt b o (bv n.id) ∧ W.rangeAt b (o + 32) (bv n.ov) ∧ W.cell? ⟨b, o + 64, none⟩ = some (.int .i32 n.ver) ∧ W.cell? ⟨b, o + 65, none⟩ = some sv ∧ W.there g q 66)
    (hbg : b ≠ g) : (W.setCells g q cs).rangeAt b o (bv n.id) ∧ (W.setCells g q cs).rangeAt b (o + 32) (bv n.ov) ∧ (W.setCells g q cs).cell? ⟨b, o + 64, none⟩ = some (.int .i32 n.ver) ∧ (W.setCells g q cs).cell? ⟨b, o + 65, none⟩ = some sv ∧ (W.setCells g q cs).there g q 66 := by
  obtain ⟨h1, h2, h3, h4, h5⟩ := h
  have hB : (W.setCells g q cs).heap[b]? = W.heap[b]? := setCells_other g b hbg _ _ _
  exact ⟨range_of_block hB h1, range_of_block hB h2, by rw [World.cell?_of_block (w := W) (a := ⟨b, o + 64, none⟩) hB]; exact h3, by rw [World.cell?_of_block (w := W) (a := ⟨b, o + 65, none⟩) hB]; exact h4, World.there_setCells h5 _ _ _⟩
theorem cells_one (n : Nd) {a : Option Addr} {m c : Nat} (h : n.sv = .slice a m c) : ∀ v ∈ n.cells, v.oneCell' = true := by
  intro v hv
  simp only [Nd.cells, List.mem_append] at hv
  rcases hv with hv | hv | hv
  · exact bv_one _ v hv
  · exact bv_one _ v hv
  · rw [h] at hv
    simp at hv
    rcases hv with rfl | rfl <;> rfl

/-- Take number i of the region first (the operation written out). -/
theorem takeL {P : Program} {l : List Oper} {Q : Exit → Act → World → Prop} {md : Region.Mode} {S : World → Prop} {i : Nat} {oi : Oper} {v : Value} {fuel : Nat} {listed : Array Bool} {a : Act} {w : World} (hi : l[i]? = some oi)
    (hs : Region.noSelect l.toArray = true) (hf : Region.free md l.toArray listed i = true) (hr : (Region.ready md l.toArray listed).contains i = true)
    (hQ : ∀ c a w, Q (.panic c) (a.put oi.dst v) w → Q (.panic c) a w) (hy : YieldsIf P l.toArray S oi v a) (hS : S w)
    (h : wpAnyH P md l.toArray Q S fuel (listed.setIfInBounds i true) (a.put oi.dst v) w) : wpAnyH P md l.toArray Q S (fuel + 1) listed a w :=
  wpAnyH_take (by simpa using hi) hs hf hr hQ hy hS h

/-- Number i is the only one that may come up. -/
theorem stepL {P : Program} {l : List Oper} {Q : Exit → Act → World → Prop} {md : Region.Mode} {S : World → Prop} {i : Nat} {oi : Oper} {fuel : Nat} {listed : Array Bool} {a : Act} {w : World} (hi : l[i]? = some oi)
    (hr : Region.ready md l.toArray listed = [i]) (hw : Region.wanted oi (yielded l.toArray a.tmps) = true)
    (h : ∀ K : Act → World → Prop, Shut (∀ a w, S w → (S w → wpAnyH P md l.toArray Q S fuel (listed.setIfInBounds i true) a w) → K a w) → Oper.wp P oi a w K Q) : wpAnyH P md l.toArray Q S (fuel + 1) listed a w :=
  wpAnyH_ready hr (by simp) (AllReadyH.cons (by simpa using hi) (fun K hK => by rw [if_pos hw]; exact h K hK) AllReadyH.nil)

/-- What the call owns in blocks from B on is read apart from a block below B. -/
theorem Own.rdA {w : World} {B g : Nat} {v : Value} {xs : List Int} (h : Own w B v xs) (hg : g < B) : RdA w (some g) v xs := by
  rcases h with ⟨rfl, rfl⟩ | ⟨g', cap, rfl, h1, _, _, hr, _⟩
  · exact ⟨none, 0, rfl, fun h => absurd rfl h⟩
  · exact ⟨_, cap, rfl, fun _ => ⟨g', 0, rfl, fun e => by have := Option.some.inj e; omega, hr⟩⟩

theorem yieldsIf_build {P : Program} {ops : Array Oper} {S : World → Prop} {op : Oper} {a : Act} (hw : Region.wanted op (yielded ops a.tmps) = true) (t : TypeId) (x0 x1 x2 x3 : Operand) (ho : op.op = .build t #[(0, x0), (1, x1), (2, x2), (3, x3)]) (v : Value)
    (hr : ∀ W, (Instr.build t #[(0, a.eval x0), (1, a.eval x1), (2, a.eval x2), (3, a.eval x3)]).run P W = .ok v W) : YieldsIf P ops S op v a :=
  .inl ⟨hw, fun W _ => by
    unfold execOp
    simp only [ho, List.map_toArray, List.map_cons, List.map_nil, Sem.run_bind, hr W, Result.andThen_ok, Sem.run_pure]⟩

theorem mkNd46 (n : Nd) (k : n.Ok) (a : Option Addr) (m c : Nat) : ∃ n' : Nd, n'.Ok ∧ n'.sig = n.sig ∧ n'.sv = .slice a m c ∧ n'.id = n.id ∧ n'.ov = n.ov ∧ n'.ver = n.ver ∧ (∀ v ∈ n'.cells, v.oneCell' = true) ∧
    ∀ W, (Instr.build 46 #[(0, .agg (bv n.id).toArray), (1, .agg (bv n.ov).toArray), (2, .int .i32 n.ver), (3, .slice a m c)]).run Tryf.prog W = .ok (.agg n'.cells.toArray) W := by
  have k' : (⟨n.id, n.ov, n.ver, n.sig, .slice a m c⟩ : Nd).Ok := ⟨k.id, k.ov, k.idb, k.ovb, k.ver0, k.ver1, k.sigb⟩
  exact ⟨⟨n.id, n.ov, n.ver, n.sig, .slice a m c⟩, k', rfl, rfl, rfl, rfl, rfl, cells_one _ rfl, fun W => build46 _ k' a m c W rfl⟩
theorem mkNd34 (n : Nd) (k : n.Ok) (a : Option Addr) (m c : Nat) : ∃ n' : Nd, n'.Ok ∧ n'.sig = n.sig ∧ n'.sv = .slice a m c ∧ n'.id = n.id ∧ n'.ov = n.ov ∧ n'.ver = n.ver ∧ (∀ v ∈ n'.cells, v.oneCell' = true) ∧
    ∀ W, (Instr.build 34 #[(0, .agg (bv n.id).toArray), (1, .agg (bv n.ov).toArray), (2, .int .i32 n.ver), (3, .slice a m c)]).run Tryf.prog W = .ok (.agg n'.cells.toArray) W := by
  have k' : (⟨n.id, n.ov, n.ver, n.sig, .slice a m c⟩ : Nd).Ok := ⟨k.id, k.ov, k.idb, k.ovb, k.ver0, k.ver1, k.sigb⟩
  exact ⟨⟨n.id, n.ov, n.ver, n.sig, .slice a m c⟩, k', rfl, rfl, rfl, rfl, rfl, cells_one _ rfl, fun W => build34 _ k' a m c W rfl⟩
theorem Below.of_drew {B : Nat} {w w' : World} (h : Below B w.drew w') : Below B w w' := ⟨h.os, h.tape, h.output, h.size, h.block⟩

theorem RdN.nodes {w : World} {row : Option Nat} {v : Value} {ns : List Nd} (h : RdN w row v ns) : ∃ a c, v = .slice a ns.length c ∧ (ns.length ≠ 0 → ∃ b o, a = some ⟨b, o, none⟩ ∧ NdsAt w row b o ns) := h

set_option maxRecDepth 100000 in
set_option maxHeartbeats 1000000 in
theorem cloneNodes_some (ad : Addr) (c : Nat) (ns : List Nd) (w : World) (hns : ns.length ≠ 0 → ∃ b o, ad = ⟨b, o, none⟩ ∧ NdsAt w none b o ns) (k : ∀ n ∈ ns, n.Ok ∧ n.sig.length ≤ 1048576) (hN : ns.length ≤ 1048576) :
    Calls Tryf.prog 23 #[.slice (some ad) ns.length c] w fun e w' => e = .returned (.slice (some ⟨w.heap.size, 0, none⟩) ns.length ns.length) ∧ ∃ ms, ClInv w w.heap.size w' ns.length ns.length ms ∧ ms.map (·.sig.length) = ns.map (·.sig.length) := by
  have hq := eqnil47
  have hmk := make47 ns.length hN
  go_enter Tryf.func23, Tryf.ntmps23
  go_wp2
  clear hmk
  go_loopw [12] (fun i wr => ∃ (m : Nat) (ms : List Nd), m ≤ ns.length ∧ i = .int .i64 m ∧ ClInv w w.heap.size wr ns.length m ms ∧ ms.map (·.sig.length) = (ns.take m).map (·.sig.length)) (fun i _ => ns.length - (intOf i).toNat)
  case atStart => exact ⟨0, [], Nat.zero_le _, rfl, ClInv.start w ns.length 46, rfl⟩
  case round =>
    obtain ⟨m, ms, hm, rfl, hI, hlen0⟩ := hrel
    have hlen := hide hlen0
    clear hlen0
    by_cases hlt : m < ns.length
    · obtain ⟨b, o, rfl, hnd⟩ := hns (by omega)
      have hi : (m : Int) < ns.length := by omega
      have km := k _ (List.getElem_mem hlt)
      have hn := hnd m _ (List.getElem?_eq_getElem hlt)
      have hsn : Hid ((ns.take (m + 1)).map (·.sig.length) = (ns.take m).map (·.sig.length) ++ [ns[m].sig.length]) := by
        show _ = _
        rw [List.take_succ_eq_append_getElem hlt, List.map_append]; rfl
      generalize ns[m] = n at km hn hsn
      obtain ⟨a3, c3, hsv, _⟩ := hn.sig
      have hbw : b < w.heap.size := range_lt hn.cells (by rw [km.1.length]; decide)
      have hbr : b < wr.heap.size := by have := hI.below.size; omega
      have hgr := hI.lt
      have hH : wr.drew.rangeAt b (o + m * 66) (bv n.id) ∧ wr.drew.rangeAt b (o + m * 66 + 32) (bv n.ov) ∧ wr.drew.cell? ⟨b, o + m * 66 + 64, none⟩ = some (.int .i32 n.ver) ∧ wr.drew.cell? ⟨b, o + m * 66 + 65, none⟩ = some (.slice a3 n.sig.length c3) ∧ wr.drew.there w.heap.size (m * 66) 66 := by
        have hb := hI.below.block b hbw
        refine ⟨by simpa using range_of_block hb hn.id, by simpa using range_of_block hb (hn.ov km.1), ?_, ?_, ?_⟩
        · rw [World.cell?_drew, World.cell?_of_block (w := w) (a := ⟨b, o + m * 66 + 64, none⟩) hb]; exact hn.ver km.1
        · rw [World.cell?_drew, World.cell?_of_block (w := w) (a := ⟨b, o + m * 66 + 65, none⟩) hb, ← hsv]; exact hn.sv km.1
        · rw [World.there_drew]
          intro j hj
          have := hI.there (m * 66 + j) (by omega)
          simpa using this
      have hRd : Rd wr.drew (.slice a3 n.sig.length c3) n.sig := by
        rw [← hsv]
        exact hn.sig.rd.kept fun k hk => hI.below.block k hk
      have i25 : (Tryf.prog.info? 25).map (·.size) = some (bv n.id).length := by rw [bv_length, km.1.id]; exact Tryf.size25
      have i25' : (Tryf.prog.info? 25).map (·.size) = some (bv n.ov).length := by rw [bv_length, km.1.ov]; exact Tryf.size25
      have u25 := Tryf.underlying25
      clear hns hnd
      go_wp2
      refine wp_region_noPanic ?_
      refine wp_region_held_drew (S := fun W => W.rangeAt b (o + m * 66) (bv n.id) ∧ W.rangeAt b (o + m * 66 + 32) (bv n.ov) ∧ W.cell? ⟨b, o + m * 66 + 64, none⟩ = some (.int .i32 n.ver) ∧ W.cell? ⟨b, o + m * 66 + 65, none⟩ = some (.slice a3 n.sig.length c3) ∧ W.there w.heap.size (m * 66) 66)
        (by kernel_rfl) hH (fun hHeld => ?_)
      refine takeL (i := 0) (v := ?_) rfl (by kernel_rfl) (by kernel_rfl) (by kernel_rfl) (fun _ _ _ h => h) (Or.inl ⟨by rfl, ?_⟩) hHeld ?_
      rotate_left
      · intro W hW; obtain ⟨_, _, _, _, _⟩ := hW; go_simp; first | done | with_reducible rfl
      simp only [Act.put, List.setIfInBounds_toArray, List.set_cons_zero, List.set_cons_succ]
      refine takeL (i := 1) (v := ?_) rfl (by kernel_rfl) (by kernel_rfl) (by kernel_rfl) (fun _ _ _ h => h) (Or.inl ⟨by rfl, ?_⟩) hHeld ?_
      rotate_left
      · intro W hW; obtain ⟨_, _, _, _, _⟩ := hW; go_simp; first | done | with_reducible rfl
      simp only [Act.put, List.setIfInBounds_toArray, List.set_cons_zero, List.set_cons_succ]
      refine takeL (i := 2) (v := ?_) rfl (by kernel_rfl) (by kernel_rfl) (by kernel_rfl) (fun _ _ _ h => h) (Or.inl ⟨by rfl, ?_⟩) hHeld ?_
      rotate_left
      · intro W hW; obtain ⟨_, _, _, _, _⟩ := hW; go_simp; first | done | with_reducible rfl
      simp only [Act.put, List.setIfInBounds_toArray, List.set_cons_zero, List.set_cons_succ]
      refine takeL (i := 3) (v := ?_) rfl (by kernel_rfl) (by kernel_rfl) (by kernel_rfl) (fun _ _ _ h => h) (Or.inl ⟨by rfl, ?_⟩) hHeld ?_
      rotate_left
      · intro W hW; obtain ⟨_, _, _, _, _⟩ := hW; go_simp; first | done | with_reducible rfl
      simp only [Act.put, List.setIfInBounds_toArray, List.set_cons_zero, List.set_cons_succ]
      refine takeL (i := 4) (v := ?_) rfl (by kernel_rfl) (by kernel_rfl) (by kernel_rfl) (fun _ _ _ h => h) (Or.inl ⟨by rfl, ?_⟩) hHeld ?_
      rotate_left
      · intro W hW; obtain ⟨_, _, _, _, _⟩ := hW; go_simp; first | done | with_reducible rfl
      simp only [Act.put, List.setIfInBounds_toArray, List.set_cons_zero, List.set_cons_succ]
      refine takeL (i := 5) (v := ?_) rfl (by kernel_rfl) (by kernel_rfl) (by kernel_rfl) (fun _ _ _ h => h) (Or.inl ⟨by rfl, ?_⟩) hHeld ?_
      rotate_left
      · intro W hW; obtain ⟨_, _, _, _, _⟩ := hW; go_simp; first | done | with_reducible rfl
      simp only [Act.put, List.setIfInBounds_toArray, List.set_cons_zero, List.set_cons_succ]
      refine takeL (i := 6) rfl (by kernel_rfl) (by kernel_rfl) (by kernel_rfl) (fun _ _ _ h => h) (yieldsIf_load_mid (by rfl) 25 (.tmp 20) rfl b (o + m * 66) rfl (bv n.id) _ (fun _ hW => hW.1) Tryf.underlying25 rfl i25) hHeld ?_
      simp only [Act.put, List.setIfInBounds_toArray, List.set_cons_zero, List.set_cons_succ]
      refine takeL (i := 7) (v := ?_) rfl (by kernel_rfl) (by kernel_rfl) (by kernel_rfl) (fun _ _ _ h => h) (Or.inl ⟨by rfl, ?_⟩) hHeld ?_
      rotate_left
      · intro W hW; obtain ⟨_, _, _, _, _⟩ := hW; go_simp; first | done | with_reducible rfl
      simp only [Act.put, List.setIfInBounds_toArray, List.set_cons_zero, List.set_cons_succ]
      refine takeL (i := 8) (v := ?_) rfl (by kernel_rfl) (by kernel_rfl) (by kernel_rfl) (fun _ _ _ h => h) (Or.inl ⟨by rfl, ?_⟩) hHeld ?_
      rotate_left
      · intro W hW; obtain ⟨_, _, _, _, _⟩ := hW; go_simp; first | done | with_reducible rfl
      simp only [Act.put, List.setIfInBounds_toArray, List.set_cons_zero, List.set_cons_succ]
      refine takeL (i := 9) (v := ?_) rfl (by kernel_rfl) (by kernel_rfl) (by kernel_rfl) (fun _ _ _ h => h) (Or.inl ⟨by rfl, ?_⟩) hHeld ?_
      rotate_left
      · intro W hW; obtain ⟨_, _, _, _, _⟩ := hW; go_simp; first | done | with_reducible rfl
      simp only [Act.put, List.setIfInBounds_toArray, List.set_cons_zero, List.set_cons_succ]
      refine takeL (i := 10) (v := ?_) rfl (by kernel_rfl) (by kernel_rfl) (by kernel_rfl) (fun _ _ _ h => h) (Or.inl ⟨by rfl, ?_⟩) hHeld ?_
      rotate_left
      · intro W hW; obtain ⟨_, _, _, _, _⟩ := hW; go_simp; first | done | with_reducible rfl
      simp only [Act.put, List.setIfInBounds_toArray, List.set_cons_zero, List.set_cons_succ]
      refine takeL (i := 11) rfl (by kernel_rfl) (by kernel_rfl) (by kernel_rfl) (fun _ _ _ h => h) (yieldsIf_load_mid (by rfl) 25 (.tmp 25) rfl b (o + m * 66 + 32) rfl (bv n.ov) _ (fun _ hW => hW.2.1) Tryf.underlying25 rfl i25') hHeld ?_
      simp only [Act.put, List.setIfInBounds_toArray, List.set_cons_zero, List.set_cons_succ]
      refine takeL (i := 12) (v := ?_) rfl (by kernel_rfl) (by kernel_rfl) (by kernel_rfl) (fun _ _ _ h => h) (Or.inl ⟨by rfl, ?_⟩) hHeld ?_
      rotate_left
      · intro W hW; obtain ⟨_, _, _, _, _⟩ := hW; go_simp; first | done | with_reducible rfl
      simp only [Act.put, List.setIfInBounds_toArray, List.set_cons_zero, List.set_cons_succ]
      refine takeL (i := 13) (v := ?_) rfl (by kernel_rfl) (by kernel_rfl) (by kernel_rfl) (fun _ _ _ h => h) (Or.inl ⟨by rfl, ?_⟩) hHeld ?_
      rotate_left
      · intro W hW; obtain ⟨_, _, _, _, _⟩ := hW; go_simp; first | done | with_reducible rfl
      simp only [Act.put, List.setIfInBounds_toArray, List.set_cons_zero, List.set_cons_succ]
      refine takeL (i := 14) (v := ?_) rfl (by kernel_rfl) (by kernel_rfl) (by kernel_rfl) (fun _ _ _ h => h) (Or.inl ⟨by rfl, ?_⟩) hHeld ?_
      rotate_left
      · intro W hW; obtain ⟨_, _, _, _, _⟩ := hW; go_simp; first | done | with_reducible rfl
      simp only [Act.put, List.setIfInBounds_toArray, List.set_cons_zero, List.set_cons_succ]
      refine takeL (i := 15) (v := ?_) rfl (by kernel_rfl) (by kernel_rfl) (by kernel_rfl) (fun _ _ _ h => h) (Or.inl ⟨by rfl, ?_⟩) hHeld ?_
      rotate_left
      · intro W hW; obtain ⟨_, _, _, _, _⟩ := hW; go_simp; first | done | with_reducible rfl
      simp only [Act.put, List.setIfInBounds_toArray, List.set_cons_zero, List.set_cons_succ]
      refine takeL (i := 16) (v := ?_) rfl (by kernel_rfl) (by kernel_rfl) (by kernel_rfl) (fun _ _ _ h => h) (Or.inl ⟨by rfl, ?_⟩) hHeld ?_
      rotate_left
      · intro W hW; obtain ⟨_, _, _, _, _⟩ := hW; go_simp; first | done | with_reducible rfl
      simp only [Act.put, List.setIfInBounds_toArray, List.set_cons_zero, List.set_cons_succ]
      refine takeL (i := 17) (v := ?_) rfl (by kernel_rfl) (by kernel_rfl) (by kernel_rfl) (fun _ _ _ h => h) (Or.inl ⟨by rfl, ?_⟩) hHeld ?_
      rotate_left
      · intro W hW; obtain ⟨_, _, _, _, _⟩ := hW; go_simp; first | done | with_reducible rfl
      simp only [Act.put, List.setIfInBounds_toArray, List.set_cons_zero, List.set_cons_succ]
      refine takeL (i := 18) (v := ?_) rfl (by kernel_rfl) (by kernel_rfl) (by kernel_rfl) (fun _ _ _ h => h) (Or.inl ⟨by rfl, ?_⟩) hHeld ?_
      rotate_left
      · intro W hW; obtain ⟨_, _, _, _, _⟩ := hW; go_simp; first | done | with_reducible rfl
      simp only [Act.put, List.setIfInBounds_toArray, List.set_cons_zero, List.set_cons_succ]
      refine takeL (i := 19) (v := ?_) rfl (by kernel_rfl) (by kernel_rfl) (by kernel_rfl) (fun _ _ _ h => h) (Or.inl ⟨by rfl, ?_⟩) hHeld ?_
      rotate_left
      · intro W hW; obtain ⟨_, _, _, _, _⟩ := hW; go_simp; first | done | with_reducible rfl
      simp only [Act.put, List.setIfInBounds_toArray, List.set_cons_zero, List.set_cons_succ]
      refine takeL (i := 20) (v := ?_) rfl (by kernel_rfl) (by kernel_rfl) (by kernel_rfl) (fun _ _ _ h => h) (Or.inl ⟨by rfl, ?_⟩) hHeld ?_
      rotate_left
      · intro W hW; obtain ⟨_, _, _, _, _⟩ := hW; go_simp; first | done | with_reducible rfl
      simp only [Act.put, List.setIfInBounds_toArray, List.set_cons_zero, List.set_cons_succ]
      refine takeL (i := 21) (v := ?_) rfl (by kernel_rfl) (by kernel_rfl) (by kernel_rfl) (fun _ _ _ h => h) (Or.inl ⟨by rfl, ?_⟩) hHeld ?_
      rotate_left
      · intro W hW; obtain ⟨_, _, _, _, _⟩ := hW; go_simp; first | done | with_reducible rfl
      simp only [Act.put, List.setIfInBounds_toArray, List.set_cons_zero, List.set_cons_succ]
      refine stepL (i := 22) rfl (by kernel_rfl) (by rfl) (fun K hK => ?_)
      go_simp
      refine (clone_any (.slice a3 n.sig.length c3) n.sig _ hRd ?_).mono ?_
      · have := km.2; omega
      rintro e w1 ⟨v1, rfl, hO, hB, _⟩
      refine hK.out _ _ (held_keep' hH hbr hgr hB) (fun hHeld => ?_)
      clear hK K hH
      try simp only [Act.put, List.setIfInBounds_toArray, List.set_cons_zero, List.set_cons_succ]
      obtain ⟨a4, c4, hv1, hrA⟩ := hO.rdA hgr
      subst hv1
      obtain ⟨n', hk', hsg', hsv', _, _, _, hone, hb46⟩ := mkNd46 n km.1 a4 n.sig.length c4
      have hsg' := hide hsg'
      have hsv' := hide hsv'
      refine takeL (i := 23) (v := .agg n'.cells.toArray) rfl (by kernel_rfl) (by kernel_rfl) (by kernel_rfl) (fun _ _ _ h => h) (yieldsIf_build (by rfl) 46 (.tmp 21) (.tmp 26) (.tmp 31) (.tmp 37) rfl _ hb46) hHeld ?_
      simp only [Act.put, List.setIfInBounds_toArray, List.set_cons_zero, List.set_cons_succ]
      refine takeL (i := 24) (v := .pointer (some ⟨w.heap.size, m * 66, none⟩)) rfl (by kernel_rfl) (by kernel_rfl) (by kernel_rfl) (fun _ _ _ h => h) (Or.inl ⟨by rfl, ?_⟩) hHeld ?_
      · intro W hW; clear hHeld hW; go_simp
      simp only [Act.put, List.setIfInBounds_toArray, List.set_cons_zero, List.set_cons_succ]
      have hsz : n'.cells.toArray.size = 66 := by rw [List.size_toArray]; exact hk'.length
      refine stepL (i := 25) rfl (by kernel_rfl) (by rfl) (fun K hK => ?_)
      refine wp_store_mid 46 (.tmp 39) (.tmp 38) rfl w.heap.size (m * 66) n'.cells.toArray rfl rfl ?_ ?_ (all_oneCell_toArray hone) ?_
      · rw [hsz]; exact hHeld.2.2.2.2
      · rw [hsz]; exact Tryf.size46
      refine hK.out _ _ (held_store' hHeld (by omega)) (fun _ => ?_)
      clear hK K hHeld hb46
      refine wpAnyH_done (by kernel_rfl) ?_ _
      refine NoPanic.normal ?_
      have hst := hI.step hlt (Nat.le_refl _) hk' (Below.of_drew hB) (by rw [unhide hsv', unhide hsg']; exact ⟨a4, c4, rfl, hrA⟩)
      clear hI hB hO hrA hRd
      go_wp2
      go_roundw
      case rel =>
        refine ⟨m + 1, ms ++ [n'], by omega, by go_num, hst, ?_⟩
        rw [unhide hsn, List.map_append, unhide hlen]
        simp [unhide hsg']
      case measure => simp [intOf]; omega
    · have hi : ¬ (m : Int) < ns.length := by omega
      go_wp2
      go_ret
      have : m = ns.length := by omega
      subst this
      refine ⟨rfl, ms, hI, ?_⟩
      have := unhide hlen
      rwa [List.take_length] at this
end Go.Proofs.Qxb6605704aFmt
