/-
  THE WALK of FnReadNodeRoundTrip (4).
-/
import Derived.Test.Qxb6605704aFmtDecode
import Derived.Great.BuildSlice
namespace Go.Proofs.Qxb6605704aFmt
open Go.RowKit

set_option maxHeartbeats 800000 in
theorem zz18_any (id ov : List Int) (ver : Int) (v : Value) (xs : List Int) (w : World) (hr : Rd w v xs) (hl : xs.length ≤ 9223372036854775807) :
    Calls Tryf.prog 18 #[.agg (bv id).toArray, .agg (bv ov).toArray, .int .i32 ver, v] w fun e w' => ZzX xs e ∧ w' = (w.alloc (.cells (bv id).toArray 25)).alloc (.cells (bv ov).toArray 25) := by
  obtain ⟨a, c, rfl, _⟩ := hr
  by_cases h : (xs.length : Int) ≤ 1048576
  · have hh := hide h
    go_enter Tryf.func18, Tryf.ntmps18
    go_wp2
    go_ret
    exact ⟨ZzX.yes xs (by have := unhide hh; omega), rfl⟩
  · go_enter Tryf.func18, Tryf.ntmps18
    go_wp2
    go_ret
    exact ⟨ZzX.no xs, rfl⟩

/-- A slice literal of one node. -/
theorem one43 (cs : List Value) (hc : cs.length = 66) (w : World) : (Instr.buildSlice 43 1 #[(0, .agg cs.toArray)]).run Tryf.prog w = .ok (.slice (some ⟨w.heap.size, 0, none⟩) 1 1) (w.alloc (.cells cs.toArray 34)) := by
  obtain ⟨i0, hi, hz0, hz1, hz2⟩ := info_parts Tryf.info34
  refine run_buildSlice w 43 34 1 _ _ i0 _ Tryf.underlying43 hi hz0 (by rw [hz1]; decide) (by rw [hz1]; decide) ?_
  rw [hz1]
  rw [fill_step _ _ 0 _ _ 0 cs (by simp [hc]) rfl (by simp [hc])]
  rw [Instr.fill]
  congr 2
  simp [hc]

theorem wpList_build_run {ops : Array Oper} {rest : List Oper} {o : Oper} {a : Act} {w : World} {Q : Exit → Act → World → Prop} (hg : o.guard = none) (t : TypeId) (parts : Array (Nat × Operand)) (ho : o.op = .build t parts)
    (ev : Array (Nat × Value)) (he : (parts.map fun (i, x) => (i, a.eval x)) = ev) (v : Value) (hr : (Instr.build t ev).run Tryf.prog w = .ok v w)
    (h : wpList Tryf.prog ops Q rest (a.put o.dst v) w) : wpList Tryf.prog ops Q (o :: rest) a w :=
  wpList_plain hg fun _ hK => by
    unfold Oper.wp execOp
    simp only [ho, Sem.run_bind, he, hr, Result.andThen_ok]
    exact hK _ _ h
theorem wpList_bs_run {ops : Array Oper} {rest : List Oper} {o : Oper} {a : Act} {w w' : World} {Q : Exit → Act → World → Prop} (hg : o.guard = none) (t : TypeId) (len : Nat) (parts : Array (Nat × Operand)) (ho : o.op = .buildSlice t len parts)
    (ev : Array (Nat × Value)) (he : (parts.map fun (i, x) => (i, a.eval x)) = ev) (v : Value) (hr : (Instr.buildSlice t len ev).run Tryf.prog w = .ok v w')
    (h : wpList Tryf.prog ops Q rest (a.put o.dst v) w') : wpList Tryf.prog ops Q (o :: rest) a w :=
  wpList_plain hg fun _ hK => by
    unfold Oper.wp execOp
    simp only [ho, Sem.run_bind, he, hr, Result.andThen_ok]
    exact hK _ _ h

theorem rdA_none {w : World} {v : Value} {xs : List Int} (h : Rd w v xs) : RdA w none v xs := by
  obtain ⟨a, c, rfl, h⟩ := h
  refine ⟨a, c, rfl, fun hn => ?_⟩
  obtain ⟨b, o, rfl, hr⟩ := h hn
  exact ⟨b, o, rfl, by simp, hr⟩

/-- AppendTL to nil: the row is the call's own. -/
theorem appTL_own (a : Option Addr) (c : Nat) (ns : List Nd) (w : World) (k : ∀ n ∈ ns, n.Ok ∧ n.sig.length ≤ 16777215) (hns : ns.length ≠ 0 → ∃ b o, a = some ⟨b, o, none⟩ ∧ NdsAt w none b o ns) (hN : ns.length ≤ 1048576) (hl : (encNs ns).length ≤ 140737480000000) :
    Calls Tryf.prog 19 #[.slice a ns.length c, .slice none 0 0] w fun e w' => ∃ g cap, e = .returned (.slice (some ⟨g, 0, none⟩) (8 + (encNs ns).length) cap) ∧ Below w.heap.size w w' ∧ w'.rangeAt g 0 (bv (encTL ns)) ∧ 8 + (encNs ns).length ≤ cap ∧ w.heap.size ≤ g ∧ g < w'.heap.size := by
  refine (appTL_any w.heap.size (.slice none 0 0) [] a c ns w k (Own.nil _ _) (Nat.le_refl _) hns hN (by simpa using hl)).mono ?_
  rintro e w' ⟨v', rfl, hA⟩
  have ho := hA.own
  rw [List.nil_append] at ho
  rcases ho with ⟨_, e⟩ | ⟨g, cap, rfl, h1, h2, h3, hr, ht⟩
  · have := congrArg List.length e
    rw [encTL_length] at this
    simp at this
  · rw [encTL_length] at h3 ⊢
    exact ⟨g, cap, rfl, hA.below (Nat.le_refl _) (Own.nil _ _), hr, h3, h1, h2⟩

/-- A new reader. -/
theorem RS.new (w : World) (v : Value) (G : List Int) (b o c : Nat) (hv : v = .slice (some ⟨b, o, none⟩) G.length c) (hc : G.length ≤ c) (hb : b < w.heap.size) (hr : w.rangeAt b o (bv G)) (hl : G.length ≤ 1099511627776) :
    RS (w.alloc (.cells #[v, .int .i64 0, .nilIface] 57)) w.heap.size v G 0 .nilIface := by
  have hh := heap_alloc_new w (.cells #[v, .int .i64 0, .nilIface] 57)
  have hf : ∀ k, (w.alloc (.cells #[v, .int .i64 0, .nilIface] 57)).frozen? ⟨w.heap.size, k, none⟩ = false := fun k => by
    simp only [World.frozen?]
    rw [hh]
    simp
  refine ⟨?_, ?_, ?_, hf 1, hf 2, .inr ⟨b, o, c, hv, hc, by omega, World.rangeAt_alloc hr _, by simp; omega⟩, Nat.zero_le _, hl⟩
  · rw [cell_of_row _ w.heap.size 0 _ 57 (0, 0) hh]; rfl
  · rw [cell_of_row _ w.heap.size 1 _ 57 (0, 0) hh]; rfl
  · rw [cell_of_row _ w.heap.size 2 _ 57 (0, 0) hh]; rfl

set_option maxHeartbeats 3200000 in
theorem round_any (n : Nd) (w : World) (k : n.Ok) (hs : Rd w n.sv n.sig) (hl : n.sig.length ≤ 9223372036854775807) :
    Calls Tryf.prog 4 #[.agg (bv n.id).toArray, .agg (bv n.ov).toArray, .int .i32 n.ver, n.sv] w fun e w' => e = .returned (.bool true) ∧ Below w.heap.size w w' := by
  have i25 : (Tryf.prog.info? 25).map (·.size) = some (bv n.id).length := by rw [bv_length, k.id]; exact Tryf.size25
  have i25' : (Tryf.prog.info? 25).map (·.size) = some (bv n.ov).length := by rw [bv_length, k.ov]; exact Tryf.size25
  have rid : ((w.alloc (.cells (bv n.id).toArray 25)).alloc (.cells (bv n.ov).toArray 25)).rangeAt w.heap.size 0 (bv n.id) := World.rangeAt_alloc (range_box w (bv n.id) 25) _
  have rov : ((w.alloc (.cells (bv n.id).toArray 25)).alloc (.cells (bv n.ov).toArray 25)).rangeAt (w.heap.size + 1) 0 (bv n.ov) := by
    have := range_box (w.alloc (.cells (bv n.id).toArray 25)) (bv n.ov) 25
    simpa using this
  have hB2 : Below w.heap.size w ((w.alloc (.cells (bv n.id).toArray 25)).alloc (.cells (bv n.ov).toArray 25)) := ((Below.refl _ w).alloc (Nat.le_refl _) _).alloc (by simp) _
  have hs2 := hs.kept fun k hk => hB2.block k hk
  have hsv := hs
  obtain ⟨a, c, hsv, _⟩ := hsv
  have hsv' := hide hsv
  clear hsv
  go_enter Tryf.func4, Tryf.ntmps4
  go_wp2_with (first
    | refine wpList_load_mid rfl 25 (.tmp 4) rfl w.heap.size 0 rfl (bv n.id) _ rid Tryf.underlying25 rfl i25 ?_
    | refine wpList_load_mid rfl 25 (.tmp 5) rfl (w.heap.size + 1) 0 rfl (bv n.ov) _ rov Tryf.underlying25 rfl i25' ?_)
  refine (zz18_any n.id n.ov n.ver n.sv n.sig _ hs2 hl).mono ?_
  rintro e w1 ⟨⟨r, rfl, hr⟩, hw1⟩
  have hB1 : Below w.heap.size w w1 := by rw [hw1]; exact (hB2.alloc (by simp; omega) _).alloc (by simp; omega) _
  have rid1 : w1.rangeAt w.heap.size 0 (bv n.id) := by rw [hw1]; exact World.rangeAt_alloc (World.rangeAt_alloc rid _) _
  have rov1 : w1.rangeAt (w.heap.size + 1) 0 (bv n.ov) := by rw [hw1]; exact World.rangeAt_alloc (World.rangeAt_alloc rov _) _
  have hz1 : w.heap.size + 2 ≤ w1.heap.size := by rw [hw1]; simp
  have hs1 : Rd w1 n.sv n.sig := hs.kept fun k hk => hB1.block k hk
  clear hw1 rid rov hB2 hs2 hs
  cases r with
  | false =>
    go_wp2
    go_ret
    exact ⟨rfl, hB1⟩
  | true =>
    have hsmall := hr rfl
    clear hr
    have hsm : ¬ (1048576 : Int) < n.sig.length := by omega
    rw [unhide hsv']
    rw [unhide hsv'] at hs1
    go_wp2_with fail
    refine (clone_any _ n.sig w1 hs1 (by omega)).mono ?_
    rintro e w2 ⟨v2, rfl, ho2, hB12, hn2⟩
    have hz2 := hB12.size
    have rid2 := range_of_block (hB12.block w.heap.size (by omega)) rid1
    have rov2 := range_of_block (hB12.block (w.heap.size + 1) (by omega)) rov1
    obtain ⟨a2, c2, e2, _⟩ := id ho2.rd
    subst e2
    have km := k.with (.slice a2 n.sig.length c2)
    have hbd := fun w => build34 (n.with (.slice a2 n.sig.length c2)) km a2 n.sig.length c2 w rfl
    have hbs := one43 (n.with (.slice a2 n.sig.length c2)).cells km.length
    have hBw2 : Below w.heap.size w w2 := hB1.trans (hB12.mono (by omega))
    have hrd2 : Rd w2 (.slice a2 n.sig.length c2) n.sig := ho2.rd
    obtain ⟨m, hm⟩ : ∃ m, n.with (.slice a2 n.sig.length c2) = m := ⟨_, rfl⟩
    rw [hm] at hbd hbs km
    have mid : m.id = n.id := by rw [← hm]; rfl
    have mov : m.ov = n.ov := by rw [← hm]; rfl
    have mver : m.ver = n.ver := by rw [← hm]; rfl
    have msig : m.sig = n.sig := by rw [← hm]; rfl
    have msv : m.sv = .slice a2 n.sig.length c2 := by rw [← hm]; rfl
    rw [mid, mov, mver] at hbd
    have hmm := hide hm
    have hmid := hide mid
    have hmov := hide mov
    have hmver := hide mver
    have hmsig := hide msig
    have hmsv := hide msv
    clear hm mid mov mver msig msv rid1 rov1
    have hbd2 := hide (hbd w2)
    have hbs2 := hide (hbs w2)
    clear hbd hbs
    go_wp2_with (first
      | refine wpList_load_mid rfl 25 (.tmp 4) rfl w.heap.size 0 rfl (bv n.id) _ rid2 Tryf.underlying25 rfl i25 ?_
      | refine wpList_load_mid rfl 25 (.tmp 5) rfl (w.heap.size + 1) 0 rfl (bv n.ov) _ rov2 Tryf.underlying25 rfl i25' ?_
      | (refine wpList_build_run rfl 34 #[(0, .tmp 24), (1, .tmp 25), (2, .tmp 26), (3, .tmp 27)] rfl #[(0, .agg (bv n.id).toArray), (1, .agg (bv n.ov).toArray), (2, .int .i32 n.ver), (3, .slice a2 n.sig.length c2)] ?he1 (.agg m.cells.toArray) (unhide hbd2) ?_; rotate_right)
      | (refine wpList_bs_run rfl 43 1 #[(0, .tmp 28)] rfl #[(0, .agg m.cells.toArray)] ?he2 _ (unhide hbs2) ?_; rotate_right))
    have hnds : NdsAt (w2.alloc (.cells m.cells.toArray 34)) none w2.heap.size 0 [m] := by
      intro i q hq
      cases i with
      | succ i => simp at hq
      | zero =>
        simp at hq
        subst hq
        rw [Nat.zero_mul, Nat.add_zero]
        refine ⟨range_box w2 _ 34, by simp, ?_⟩
        rw [unhide hmsv, unhide hmsig]
        exact rdA_none (hrd2.kept fun k hk => Below.heap_alloc w2 _ k hk)
    have hsg : m.sig.length = n.sig.length := by rw [unhide hmsig]
    have hLe : encNs [m] = encN m := by simp [encNs]
    have hlm := encN_length m km
    have hfl : fieldLen n.sig.length ≤ n.sig.length + 8 := by unfold fieldLen; split <;> omega
    rw [hsg] at hlm
    refine (appTL_own (some ⟨w2.heap.size, 0, none⟩) 1 [m] _ (fun q hq => ?_) (fun _ => ⟨w2.heap.size, 0, rfl, hnds⟩) (by simp) (by rw [hLe, hlm]; omega)).mono ?_
    · simp at hq
      subst hq
      exact ⟨km, by rw [hsg]; omega⟩
    rintro e w3 ⟨g, cap, rfl, hB3, hr3, hcap, hg0, hg1⟩
    rw [hLe] at hcap ⊢
    simp only [World.size_alloc] at hg0 hB3
    have hz3 := hB3.size
    simp only [World.size_alloc] at hz3
    have rid3 := range_of_block (hB3.block w.heap.size (by omega)) (World.rangeAt_alloc rid2 (.cells m.cells.toArray 34))
    have rov3 := range_of_block (hB3.block (w.heap.size + 1) (by omega)) (World.rangeAt_alloc rov2 (.cells m.cells.toArray 34))
    have hrd3 := (hrd2.kept (w' := w2.alloc (.cells m.cells.toArray 34)) fun k hk => Below.heap_alloc w2 _ k hk).kept fun k hk => hB3.block k (by simpa using hk)
    have hBw3 : Below w.heap.size w w3 := (hBw2.alloc (by omega) _).trans (hB3.mono (by omega))
    have rG : w3.rangeAt g 8 (bv (encN m)) := by
      have := hr3
      rw [show encTL [m] = (le4 3834063118 ++ le4 1) ++ encN m by simp [encTL, hLe]] at this
      rw [bv_append] at this
      have := range_drop this
      rwa [bv_length, Nat.zero_add] at this
    clear rid2 rov2 hr3 hnds hB3
    obtain ⟨L, hL⟩ : ∃ L, (encN m).length = L := ⟨_, rfl⟩
    rw [hL] at hcap hlm ⊢
    have j1 : ¬ (8 + (L : Int)) < 8 := by omega
    have j2 : ¬ cap = 8 := by omega
    have hlm' := hide hlm
    have hL' := hide hL
    have hsg' := hide hsg
    clear hlm hL hsg
    go_wp2_with fail
    refine (newReader_any _ _ _ _).mono ?_
    rintro e w4 ⟨rfl, hw4⟩
    obtain ⟨nA, nB, nC⟩ := node_enc [] [] m 0 km (by rw [unhide hsg']; omega) rfl
    simp only [List.nil_append, List.append_nil, unhide hsg', Nat.zero_add] at nA nB nC
    have hS4 : RS w4 w3.heap.size (.slice (some ⟨g, 8, none⟩) L (cap - 8)) (encN m) 0 .nilIface := by
      rw [hw4]
      exact RS.new w3 _ (encN m) g 8 (cap - 8) (by rw [unhide hL']) (by rw [unhide hL']; omega) hg1 rG (by rw [unhide hL', unhide hlm']; omega)
    have hz4 : w4.heap.size = w3.heap.size + 1 := by rw [hw4]; simp
    have rid4 : w4.rangeAt w.heap.size 0 (bv n.id) := by rw [hw4]; exact World.rangeAt_alloc rid3 _
    have rov4 : w4.rangeAt (w.heap.size + 1) 0 (bv n.ov) := by rw [hw4]; exact World.rangeAt_alloc rov3 _
    have hrd4 : Rd w4 (.slice a2 n.sig.length c2) n.sig := by rw [hw4]; exact hrd3.kept fun k hk => Below.heap_alloc w3 _ k hk
    have hBw4 : Below w.heap.size w w4 := by rw [hw4]; exact hBw3.alloc (by omega) _
    clear hw4 rid3 rov3 hrd3 rG
    have hk13 := zzReadNode_ok w3.heap.size _ (encN m) 0 _ n.sig.length w4 hS4 (encN_byts m km (by rw [unhide hsg']; omega)) nA
    have nB' := hide nB
    have nC' := hide nC
    clear nA nB nC
    simp only [Nat.zero_add] at hk13
    rw [unhide nC'] at hk13
    go_wp2_with fail
    refine hk13.mono ?_
    rintro e w5 ⟨a5, c5, rfl, hS5, hg5, ho5, hn5⟩
    rw [unhide nB']
    have kq := km.with (.slice a5 n.sig.length c5)
    have hqsv : (m.with (.slice a5 n.sig.length c5)).with (.slice a2 n.sig.length c2) = m := by rw [← unhide hmm]; rfl
    have hqsig : (m.with (.slice a5 n.sig.length c5)).sig = n.sig := unhide hmsig
    have hqs : (m.with (.slice a5 n.sig.length c5)).sv = .slice a5 n.sig.length c5 := rfl
    obtain ⟨q, hq⟩ : ∃ q, m.with (.slice a5 n.sig.length c5) = q := ⟨_, rfl⟩
    rw [hq] at kq hqsv hqsig hqs ⊢
    clear hq
    have hqsv' := hide hqsv
    have hqsig' := hide hqsig
    have hqs' := hide hqs
    clear hqsv hqsig hqs
    have hz5 := hg5.size
    have hg3ne : g ≠ w3.heap.size := by omega
    have rid5 := range_of_block (hg5.block w.heap.size (by omega) (by simp; omega)) rid4
    have rov5 := range_of_block (hg5.block (w.heap.size + 1) (by omega) (by simp; omega)) rov4
    have hrd5 : Rd w5 (.slice a2 n.sig.length c2) n.sig := hrd4.grown hg5 fun g' hg' => by have := (ho2.lt g' hg').2; omega
    have hBw5 : Below w.heap.size w w5 := hBw4.grown hg5 (by omega) fun k hk => by cases hk; omega
    have rsig5 : Rd w5 (.slice a5 n.sig.length c5) n.sig := by
      have := ho5.rd
      have e := congrArg Nd.sig (unhide nB' (.slice a5 n.sig.length c5))
      simp only [ndAt, Nd.with] at e
      simp only [Nat.zero_add] at e
      rw [e, unhide hmsig] at this
      exact this
    clear rid4 rov4 hrd4 hk13 ho5
    have t6 : (w5.alloc (.cells Tryf.zeroCells34 34)).there w5.heap.size 0 66 := there_alloc w5 zero34 34
    have r6 := World.rangeAt_setCells_same (w5.alloc (.cells Tryf.zeroCells34 34)) w5.heap.size 0 q.cells (by rw [kq.length]; exact t6)
    have hS6 := (hS5.alloc (.cells Tryf.zeroCells34 34)).set 0 q.cells (b := w5.heap.size) (by have := hS5.lt; omega) fun k hk => by have := (hS5.own k hk).1; omega
    have hold : ∀ k, k < w5.heap.size → ((w5.alloc (.cells Tryf.zeroCells34 34)).setCells w5.heap.size 0 q.cells).heap[k]? = w5.heap[k]? := fun k hk => (setCells_other _ _ (by omega) _ _ _).trans (Below.heap_alloc _ _ _ hk)
    have hz6 : w5.heap.size + 1 = ((w5.alloc (.cells Tryf.zeroCells34 34)).setCells w5.heap.size 0 q.cells).heap.size := by rw [setCells_size]; simp
    have hBw6 : Below w.heap.size w ((w5.alloc (.cells Tryf.zeroCells34 34)).setCells w5.heap.size 0 q.cells) :=
      hBw5.trans ⟨setCells_os _ _ _ _, setCells_tape _ _ _ _, setCells_output _ _ _ _, by rw [← hz6]; omega, fun k hk => hold k (by omega)⟩
    have hone : q.cells.toArray.all (·.oneCell') = true := all_oneCell_toArray fun x hx => by
      simp only [Nd.cells, List.mem_append] at hx
      rcases hx with hx | hx | hx
      · exact bv_one _ x hx
      · exact bv_one _ x hx
      · rw [unhide hqs'] at hx; simp at hx; rcases hx with rfl | rfl <;> rfl
    have hsq : q.cells.toArray.size = 66 := kq.length
    go_wp2_with (refine wpList_store_mid rfl 34 (.tmp 12) (.tmp 41) rfl w5.heap.size 0 q.cells.toArray rfl rfl ?h1 ?h2 hone ?_; rotate_right)
    case h1 => rw [hsq]; exact t6
    case h2 => rw [hsq]; exact Tryf.size34
    generalize hw6 : (w5.alloc (.cells Tryf.zeroCells34 34)).setCells w5.heap.size 0 q.cells = w6 at *
    refine (err_any w3.heap.size .nilIface _ hS6.c2 (.inl rfl)).mono ?_
    rintro e w7 ⟨rfl, rfl⟩
    have rid6 := range_of_block (hold w.heap.size (by omega)) rid5
    have rov6 := range_of_block (hold (w.heap.size + 1) (by omega)) rov5
    have hrd6 : Rd w7 (.slice a2 n.sig.length c2) n.sig := hrd5.kept fun k hk => hold k hk
    have rsig6 : Rd w7 (.slice a5 n.sig.length c5) n.sig := rsig5.kept fun k hk => hold k hk
    have i34 : (Tryf.prog.info? 34).map (·.size) = some q.cells.length := by rw [kq.length]; exact Tryf.size34
    have hbd6 := build46 m km a2 n.sig.length c2 w7 (unhide hmsv)
    rw [unhide hmid, unhide hmov, unhide hmver] at hbd6
    have hbd6' := hide hbd6
    clear hbd6
    go_wp2_with (first
      | refine wpList_load_mid rfl 34 (.tmp 12) rfl w5.heap.size 0 rfl q.cells _ r6 Tryf.underlying34 rfl i34 ?_
      | refine wpList_load_mid rfl 25 (.tmp 4) rfl w.heap.size 0 rfl (bv n.id) _ rid6 Tryf.underlying25 rfl i25 ?_
      | refine wpList_load_mid rfl 25 (.tmp 5) rfl (w.heap.size + 1) 0 rfl (bv n.ov) _ rov6 Tryf.underlying25 rfl i25' ?_
      | (refine wpList_build_run rfl 46 #[(0, .tmp 46), (1, .tmp 47), (2, .tmp 48), (3, .tmp 49)] rfl #[(0, .agg (bv n.id).toArray), (1, .agg (bv n.ov).toArray), (2, .int .i32 n.ver), (3, .slice a2 n.sig.length c2)] ?he3 (.agg m.cells.toArray) (unhide hbd6') ?_; rotate_right))
    have hsame := sameRead_any q (.slice a2 n.sig.length c2) w7 kq (by rw [unhide hqs', unhide hqsig']; exact rsig6) (by rw [unhide hqsig']; exact hrd6) (by rw [unhide hqs', unhide hqsig']; exact hn5) (by rw [unhide hqsig']; omega)
    rw [unhide hqsv'] at hsame
    refine hsame.mono ?_
    rintro e w8 ⟨rfl, hB8⟩
    have hS8 := hS6.kept hB8.size fun k hk => hB8.block k hk
    go_wp2_with fail
    refine (close_ok w3.heap.size _ (encN m) w8 hS8).mono ?_
    rintro e w9 ⟨rfl, qd, rfl⟩
    go_wp2
    go_ret
    exact ⟨rfl, (hBw6.trans (hB8.mono (by omega))).trans ⟨rfl, rfl, rfl, Nat.le_refl _, fun _ _ => rfl⟩⟩
end Go.Proofs.Qxb6605704aFmt
