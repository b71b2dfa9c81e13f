/-
  THE WALK of FnNodesAppendTLReadBack (6).
-/
import Derived.Test.Qxb6605704aFmtRound
import Derived.Test.Qxb6605704aFmtReaderC
namespace Go.Proofs.Qxb6605704aFmt
open Go.RowKit

theorem encNs_ge (ns : List Nd) (k : ∀ n ∈ ns, n.Ok) : 76 * ns.length ≤ (encNs ns).length := by
  induction ns with
  | nil => simp
  | cons n ns ih =>
    have h1 := encN_length n (k n (by simp))
    have h2 := ih fun m hm => k m (by simp [hm])
    have h3 : 4 ≤ fieldLen n.sig.length := by unfold fieldLen; split <;> omega
    have e : encNs (n :: ns) = encN n ++ encNs ns := by simp [encNs]
    rw [e, List.length_append, h1, List.length_cons]
    omega

/-- The reader's place ahead of node number j. -/
def offB (ms : List Nd) (j : Nat) : Nat := 8 + (encNs (ms.take j)).length
theorem offB_zero (ms : List Nd) : offB ms 0 = 8 := by simp [offB, encNs]
theorem offB_all (ms : List Nd) : offB ms ms.length = (encTL ms).length := by rw [offB, List.take_length, encTL_length]

/-- Node number j lies at its place. -/
theorem node_at (ms : List Nd) (j : Nat) (hj : j < ms.length) (k : ∀ n ∈ ms, n.Ok ∧ n.sig.length ≤ 16777215) :
    NodeAt (encTL ms) (offB ms j) (headB ms[j].sig.length).length ms[j].sig.length ∧ (∀ u, ndAt (encTL ms) (offB ms j) (headB ms[j].sig.length).length ms[j].sig.length u = ms[j].with u)
      ∧ offB ms j + 72 + (headB ms[j].sig.length).length + ms[j].sig.length + padN (headB ms[j].sig.length).length ms[j].sig.length = offB ms (j + 1) := by
  have kj := k _ (List.getElem_mem hj)
  have e : encTL ms = ((le4 3834063118 ++ le4 ms.length) ++ encNs (ms.take j)) ++ (encN ms[j] ++ encNs (ms.drop (j + 1))) := by
    rw [encTL, encNs_split ms j hj, ← List.append_assoc]
  have hP : ((le4 3834063118 ++ le4 ms.length) ++ encNs (ms.take j)).length = offB ms j := by simp [offB, le4_length]; omega
  obtain ⟨h1, h2, h3⟩ := node_enc ((le4 3834063118 ++ le4 ms.length) ++ encNs (ms.take j)) (encNs (ms.drop (j + 1))) ms[j] (offB ms j) kj.1 kj.2 hP
  rw [← e] at h1 h2
  refine ⟨h1, h2, h3.trans ?_⟩
  rw [List.length_append, hP, offB, offB, encNs_snoc ms j hj, List.length_append]
  omega

theorem tl_con (ms : List Nd) : le32at (encTL ms) 0 = 3834063118 := by
  rw [encTL, List.append_assoc]
  exact le32at_le4 _ _ (by decide) (by decide)
theorem tl_count (ms : List Nd) (h : ms.length ≤ 1048576) : wrap32 (le32at (encTL ms) 4) = (ms.length : Int) := by
  have e : encTL ms = le4 3834063118 ++ (le4 ms.length ++ encNs ms) := by rw [encTL, List.append_assoc]
  have := le32at_app (le4 3834063118) (le4 ms.length ++ encNs ms) 0
  rw [le4_length, Nat.add_zero] at this
  rw [e, this, le32at_le4 _ _ (by omega) (by omega)]
  unfold wrap32
  omega

set_option maxRecDepth 100000 in
set_option maxHeartbeats 3200000 in
theorem back_any (v : Value) (ns : List Nd) (w : World) (hv : RdN w none v ns) (k : ∀ n ∈ ns, n.Ok) (hN : ns.length ≤ 9223372036854775807) :
    Calls Tryf.prog 6 #[v] w fun e w' => e = .returned (.bool true) ∧ Below w.heap.size w w' := by
  go_enter Tryf.func6, Tryf.ntmps6
  go_wp2_with fail
  refine (zz26_any v ns _ hv k (by omega)).mono ?_
  rintro e w ⟨⟨r, rfl, hzz⟩, rfl⟩
  cases r with
  | false =>
    go_wp2
    go_ret
    exact ⟨rfl, Below.refl _ _⟩
  | true =>
    obtain ⟨hz1, hz2⟩ := hzz rfl
    clear hzz
    go_wp2_with fail
    refine (tooBig_any v ns 0 _ hv (fun n h => ⟨k n h, by have := hz2 n h; omega⟩) (by omega) (by omega) (by omega)).mono ?_
    rintro e w ⟨⟨r, rfl, hr⟩, rfl⟩
    cases r with
    | true =>
      go_wp2
      go_ret
      exact ⟨rfl, Below.refl _ _⟩
    | false =>
      obtain ⟨hN1, hsz⟩ := hr rfl
      clear hr
      go_wp2_with fail
      refine (cloneNodes_any v ns _ hv (fun n h => ⟨k n h, by have := sig_le_sigs ns n h; omega⟩) (by omega)).mono ?_
      rintro e w1 ⟨v1, ms, rfl, hv1, km, hmap, hB1, _⟩
      have hml : ms.length = ns.length := by have := congrArg List.length hmap; simpa using this
      have hms : sigs ms = sigs ns := by unfold sigs; rw [hmap]
      rw [← hml, ← hms] at hsz
      rw [← hml] at hN1
      clear hmap hml hms hv k hz1 hz2
      have hB1' := hide hB1
      clear hB1
      obtain ⟨a1, c1, hv1e, hv1r⟩ := id hv1
      subst hv1e
      go_wp2_with fail
      refine (build_any _ ms _ hv1 km (by omega)).mono ?_
      rintro e w2 ⟨a2, rfl, hbn, hB2, _⟩
      have hk2 : ∀ n ∈ ms, n.Ok ∧ n.sig.length ≤ 16777215 := fun n h => ⟨km n h, by have := sig_le_sigs ms n h; omega⟩
      have hnodes : ms.length ≠ 0 → ∃ b o, a1 = some ⟨b, o, none⟩ ∧ NdsAt w2 none b o ms := fun hn => let ⟨b, o, e, hr⟩ := hv1r hn; ⟨b, o, e, hr.kept km fun b hb _ => hB2.block b hb⟩
      have hB2' := hide hB2
      clear hv1 hv1r hB2
      have hlen := encNs_le ms km
      have hlen2 := encNs_ge ms km
      go_wp2_with fail
      refine (appTL_own a2 ms.length ms _ hk2 (fun hn => ⟨_, _, (hbn hn).1, (hbn hn).2⟩) (by omega) (by omega)).mono ?_
      rintro e w3 ⟨g, cap, rfl, hB3, hr3, hcap, hg0, hg1⟩
      have hnodes3 : ms.length ≠ 0 → ∃ b o, a1 = some ⟨b, o, none⟩ ∧ NdsAt w3 none b o ms := fun hn => let ⟨b, o, e, hr⟩ := hnodes hn; ⟨b, o, e, hr.kept km fun b hb _ => hB3.block b hb⟩
      have hB3' := hide hB3
      clear hnodes hB3 hbn
      have hGl := encTL_length ms
      obtain ⟨L, hL⟩ : ∃ L, 8 + (encNs ms).length = L := ⟨_, rfl⟩
      rw [hL] at hGl hcap ⊢
      have hGl' := hide hGl
      have hL' := hide hL
      clear hGl hL
      go_wp2_with fail
      refine (newReader_any _ _ _ _).mono ?_
      rintro e w4 ⟨rfl, hw4⟩
      have hS4 : RS w4 w3.heap.size (.slice (some ⟨g, 0, none⟩) L cap) (encTL ms) 0 .nilIface := by
        rw [hw4]
        exact RS.new w3 _ (encTL ms) g 0 cap (by rw [unhide hGl']) (by rw [unhide hGl']; exact hcap) hg1 hr3 (by have := unhide hL'; rw [unhide hGl']; omega)
      have hnodes4 : ms.length ≠ 0 → ∃ b o, a1 = some ⟨b, o, none⟩ ∧ NdsAt w4 (some w3.heap.size) b o ms := fun hn => by
        obtain ⟨b, o, e, hr⟩ := hnodes3 hn
        refine ⟨b, o, e, (hr.row km (Nat.le_refl _)).kept km fun b hb _ => ?_⟩
        rw [hw4]
        exact Below.heap_alloc w3 _ b hb
      have hBa : Hid (Below w.heap.size w w4) := by
        have h3 := ((unhide hB1').trans ((unhide hB2').mono (unhide hB1').size)).trans ((unhide hB3').mono (Nat.le_trans (unhide hB1').size (unhide hB2').size))
        rw [hw4]
        exact h3.alloc (h3.size) _
      have hz4 : w4.heap.size = w3.heap.size + 1 := by rw [hw4]; simp
      have hzw : w.heap.size ≤ w3.heap.size := Nat.le_trans (Nat.le_trans (unhide hB1').size (unhide hB2').size) (unhide hB3').size
      clear hnodes3 hr3 hw4 hB1' hB2' hB3'
      generalize Value.slice (some ⟨g, 0, none⟩) L cap = vd at *
      have hby := encTL_byts ms hk2 (by omega)
      have hGG := unhide hGl'
      have hLL := unhide hL'
      go_wp2_with fail
      refine (expect_ok w3.heap.size vd (encTL ms) 0 _ _ _ hS4 (by omega) hby (tl_con ms)).mono ?_
      rintro e w5 ⟨rfl, hS5, hg5⟩
      go_wp2_with fail
      refine (count_ok w3.heap.size vd (encTL ms) 4 ms.length _ hS5 (by omega) hby (tl_count ms (by omega)) (by omega) (by omega)).mono ?_
      rintro e w6 ⟨rfl, hS6, hg6⟩
      go_wp2_with fail
      refine (err_any w3.heap.size .nilIface _ hS6.c2 (.inl rfl)).mono ?_
      rintro e w7 ⟨rfl, rfl⟩
      have hg46 := grown_trans hg5 hg6
      have hS7 : RS w7 w3.heap.size vd (encTL ms) (offB ms 0) .nilIface := by rw [offB_zero]; exact hS6
      clear hS4 hS5 hS6 hg5 hg6
      generalize hG : encTL ms = G at *
      go_wp2_with fail
      go_loopw [7] (fun i wr => ∃ j : Nat, j ≤ ms.length ∧ i = .int .i64 j ∧ RS wr w3.heap.size vd G (offB ms j) .nilIface ∧ w4.grownBy wr (some w3.heap.size)) (fun i _ => ms.length - (intOf i).toNat)
      case atStart => exact ⟨0, Nat.zero_le _, rfl, hS7, hg46⟩
      case round =>
        obtain ⟨j, hj, rfl, hSr, hgr⟩ := hrel
        clear hS7 hg46
        by_cases hjm : j < ms.length
        · have hjm' : (j : Int) < ms.length := by omega
          have kmj := km _ (List.getElem_mem hjm)
          obtain ⟨nA, nB, nC⟩ := node_at ms j hjm hk2
          obtain ⟨b1, o1, hb1, hn1⟩ := hnodes4 (by omega)
          subst hb1
          have g1 := (hn1 j _ (List.getElem?_eq_getElem hjm)).kept kmj fun b hb hne => hgr.block b hb hne
          have hsl := sig_le_sigs ms _ (List.getElem_mem hjm)
          rw [hG] at nA nB
          generalize ms[j] = n at kmj nA nB nC g1 hsl
          have hk13 := zzReadNode_ok w3.heap.size vd G (offB ms j) _ n.sig.length wr hSr hby nA
          rw [nC] at hk13
          have nB' := hide nB
          clear nA nB nC hn1 hSr
          have hzr := hgr.size
          go_wp2_with fail
          refine hk13.mono ?_
          rintro e w8 ⟨a5, c5, rfl, hS8, hg8, ho8, hn8⟩
          rw [unhide nB']
          have rsig8 : Rd w8 (.slice a5 n.sig.length c5) n.sig := by
            have := ho8.rd
            have e := congrArg Nd.sig (unhide nB' (.slice a5 n.sig.length c5))
            simp only [ndAt, Nd.with] at e
            rw [e] at this
            exact this
          have kq := kmj.with (.slice a5 n.sig.length c5)
          have hqsv : (n.with (.slice a5 n.sig.length c5)).with n.sv = n := rfl
          have hqsig : (n.with (.slice a5 n.sig.length c5)).sig = n.sig := rfl
          have hqs : (n.with (.slice a5 n.sig.length c5)).sv = .slice a5 n.sig.length c5 := rfl
          obtain ⟨q, hq⟩ : ∃ q, n.with (.slice a5 n.sig.length c5) = q := ⟨_, rfl⟩
          rw [hq] at kq hqsv hqsig hqs ⊢
          clear hq
          have hqsv' := hide hqsv
          have hqsig' := hide hqsig
          have hqs' := hide hqs
          clear hqsv hqsig hqs nB' hk13 ho8
          have g8 : NdAt w8 (some w3.heap.size) b1 (o1 + j * 66) n := g1.kept kmj fun b hb hne => hg8.block b hb hne
          have hg48 := grown_trans hgr hg8
          clear g1 hgr hg8
          have hlt8 := hS8.lt
          have hown8 := hS8.own
          have t9 : (w8.alloc (.cells Tryf.zeroCells34 34)).there w8.heap.size 0 66 := there_alloc w8 zero34 34
          have r9 := World.rangeAt_setCells_same (w8.alloc (.cells Tryf.zeroCells34 34)) w8.heap.size 0 q.cells (by rw [kq.length]; exact t9)
          have hS9 := (hS8.alloc (.cells Tryf.zeroCells34 34)).set 0 q.cells (b := w8.heap.size) (by omega) fun k hk => by have := (hown8 k hk).1; omega
          have hold : ∀ k, k < w8.heap.size → ((w8.alloc (.cells Tryf.zeroCells34 34)).setCells w8.heap.size 0 q.cells).heap[k]? = w8.heap[k]? := fun k hk => (setCells_other _ _ (by omega) _ _ _).trans (Below.heap_alloc _ _ _ hk)
          have hz9 : w8.heap.size + 1 = ((w8.alloc (.cells Tryf.zeroCells34 34)).setCells w8.heap.size 0 q.cells).heap.size := by rw [setCells_size]; simp
          have hg9 : w8.grownBy ((w8.alloc (.cells Tryf.zeroCells34 34)).setCells w8.heap.size 0 q.cells) (some w3.heap.size) := grown_in (grown_alloc w8 _ _) 0 q.cells
          have hone : q.cells.toArray.all (·.oneCell') = true := all_oneCell_toArray fun x hx => by
            simp only [Nd.cells, List.mem_append] at hx
            rcases hx with hx | hx | hx
            · exact bv_one _ x hx
            · exact bv_one _ x hx
            · rw [unhide hqs'] at hx; simp at hx; rcases hx with rfl | rfl <;> rfl
          have hsq : q.cells.toArray.size = 66 := kq.length
          go_wp2_with (refine wpList_store_mid rfl 34 (.tmp 8) (.tmp 44) rfl w8.heap.size 0 q.cells.toArray rfl rfl ?h1 ?h2 hone ?_; rotate_right)
          case h1 => rw [hsq]; exact t9
          case h2 => rw [hsq]; exact Tryf.size34
          generalize hw9 : (w8.alloc (.cells Tryf.zeroCells34 34)).setCells w8.heap.size 0 q.cells = w9 at *
          have g9 : NdAt w9 (some w3.heap.size) b1 (o1 + j * 66) n := g8.kept kmj fun b hb hne => hg9.block b hb hne
          have hH : w9.drew.rangeAt w8.heap.size 0 q.cells ∧ w9.drew.rangeAt b1 (o1 + j * 66) n.cells := ⟨range_of_block rfl r9, range_of_block rfl g9.cells⟩
          have i34 : (Tryf.prog.info? 34).map (·.size) = some q.cells.length := by rw [kq.length]; exact Tryf.size34
          have i46 : (Tryf.prog.info? 46).map (·.size) = some n.cells.length := by rw [kmj.length]; exact Tryf.size46
          have hsr : Rd w9.drew n.sv n.sig := g9.sig.rd.kept fun _ _ => rfl
          have hsq2 : Rd w9.drew (.slice a5 n.sig.length c5) n.sig := (rsig8.kept fun k hk => hold k hk).kept fun _ _ => rfl
          have hc2 : w9.drew.cell? ⟨w3.heap.size, 2, none⟩ = some .nilIface := by rw [World.cell?_drew]; exact hS9.c2
          have hS10 : RS w9.drew w3.heap.size vd G (offB ms (j + 1)) .nilIface := hS9.kept (Nat.le_refl _) fun _ _ => rfl
          have hg410 := grown_trans hg48 (grown_trans hg9 (grown_drewN w9 _ 1))
          clear g8 g9 r9 t9 hS9 hold rsig8 hg48 hg9 hw9 hS8 hown8
          simp only [Act.put]
          refine wp_region_noPanic ?_
          refine wp_region_held_drew (S := fun W => W.rangeAt w8.heap.size 0 q.cells ∧ W.rangeAt b1 (o1 + j * 66) n.cells) (by kernel_rfl) hH (fun hHeld => ?_)
          refine takeL (i := 0) (v := ?_) rfl (by kernel_rfl) (by kernel_rfl) (by kernel_rfl) (fun _ _ _ h => h) (Or.inl ⟨by rfl, ?_⟩) hHeld ?_
          rotate_left
          · intro W hW; go_simp; first | done | with_reducible rfl
          simp only [Act.put, List.setIfInBounds_toArray, List.set_cons_zero, List.set_cons_succ]
          refine stepL (i := 1) rfl (by kernel_rfl) (by rfl) (fun K hK => ?_)
          go_simp
          refine (err_any w3.heap.size .nilIface _ hc2 (.inl rfl)).mono ?_
          rintro e w10 ⟨rfl, hw10⟩
          rw [hw10]
          clear hw10
          refine hK.out _ _ hH (fun hHeld => ?_)
          clear hK K
          try simp only [Act.put, List.setIfInBounds_toArray, List.set_cons_zero, List.set_cons_succ]
          refine takeL (i := 2) (v := .bool false) rfl (by kernel_rfl) (by kernel_rfl) (by kernel_rfl) (fun _ _ _ h => h) (Or.inl ⟨by rfl, ?_⟩) hHeld ?_
          · intro W hW; clear hHeld hW hH; go_simp
          simp only [Act.put, List.setIfInBounds_toArray, List.set_cons_zero, List.set_cons_succ]
          refine takeL (i := 3) (v := .bool false) rfl (by kernel_rfl) (by kernel_rfl) (by kernel_rfl) (fun _ _ _ h => h) (Or.inl ⟨by rfl, ?_⟩) hHeld ?_
          · intro W hW; clear hHeld hW hH; go_simp
          simp only [Act.put, List.setIfInBounds_toArray, List.set_cons_zero, List.set_cons_succ]
          refine takeL (i := 4) rfl (by kernel_rfl) (by kernel_rfl) (by kernel_rfl) (fun _ _ _ h => h) (yieldsIf_load_mid (by rfl) 34 (.tmp 8) rfl w8.heap.size 0 rfl q.cells _ (fun _ hW => hW.1) Tryf.underlying34 rfl i34) hHeld ?_
          simp only [Act.put, List.setIfInBounds_toArray, List.set_cons_zero, List.set_cons_succ]
          refine takeL (i := 5) (v := ?_) rfl (by kernel_rfl) (by kernel_rfl) (by kernel_rfl) (fun _ _ _ h => h) (Or.inl ⟨by rfl, ?_⟩) hHeld ?_
          rotate_left
          · intro W hW; go_simp; first | done | with_reducible rfl
          simp only [Act.put, List.setIfInBounds_toArray, List.set_cons_zero, List.set_cons_succ]
          refine takeL (i := 6) (v := ?_) rfl (by kernel_rfl) (by kernel_rfl) (by kernel_rfl) (fun _ _ _ h => h) (Or.inl ⟨by rfl, ?_⟩) hHeld ?_
          rotate_left
          · intro W hW; go_simp; first | done | with_reducible rfl
          simp only [Act.put, List.setIfInBounds_toArray, List.set_cons_zero, List.set_cons_succ]
          refine takeL (i := 7) (v := .pointer (some ⟨b1, o1 + j * 66, none⟩)) rfl (by kernel_rfl) (by kernel_rfl) (by kernel_rfl) (fun _ _ _ h => h) (Or.inl ⟨by rfl, ?_⟩) hHeld ?_
          · intro W hW; clear hHeld hW hH; go_simp
          simp only [Act.put, List.setIfInBounds_toArray, List.set_cons_zero, List.set_cons_succ]
          refine takeL (i := 8) rfl (by kernel_rfl) (by kernel_rfl) (by kernel_rfl) (fun _ _ _ h => h) (yieldsIf_load_mid (by rfl) 46 (.tmp 52) rfl b1 (o1 + j * 66) rfl n.cells _ (fun _ hW => hW.2) Tryf.underlying46 rfl i46) hHeld ?_
          simp only [Act.put, List.setIfInBounds_toArray, List.set_cons_zero, List.set_cons_succ]
          refine stepL (i := 9) rfl (by kernel_rfl) (by rfl) (fun K hK => ?_)
          go_simp
          have hsame := sameRead_any q n.sv w9.drew kq (by rw [unhide hqs', unhide hqsig']; exact hsq2) (by rw [unhide hqsig']; exact hsr) (by rw [unhide hqs', unhide hqsig']; exact hn8) (by rw [unhide hqsig']; omega)
          rw [unhide hqsv'] at hsame
          refine hsame.mono ?_
          rintro e w11 ⟨rfl, hB11⟩
          refine hK.out _ _ ⟨range_of_block (hB11.block _ (range_lt hH.1 (by rw [kq.length]; decide))) hH.1, range_of_block (hB11.block _ (range_lt hH.2 (by rw [kmj.length]; decide))) hH.2⟩ (fun hHeld => ?_)
          clear hK K
          try simp only [Act.put, List.setIfInBounds_toArray, List.set_cons_zero, List.set_cons_succ]
          refine takeL (i := 10) (v := .bool false) rfl (by kernel_rfl) (by kernel_rfl) (by kernel_rfl) (fun _ _ _ h => h) (Or.inl ⟨by rfl, ?_⟩) hHeld ?_
          · intro W hW; clear hHeld hW hH; go_simp
          simp only [Act.put, List.setIfInBounds_toArray, List.set_cons_zero, List.set_cons_succ]
          refine takeL (i := 11) (v := .bool false) rfl (by kernel_rfl) (by kernel_rfl) (by kernel_rfl) (fun _ _ _ h => h) (Or.inl ⟨by rfl, ?_⟩) hHeld ?_
          · intro W hW; clear hHeld hW hH; go_simp
          simp only [Act.put, List.setIfInBounds_toArray, List.set_cons_zero, List.set_cons_succ]
          refine wpAnyH_done (by kernel_rfl) ?_ _
          refine NoPanic.normal ?_
          have hS11 := hS10.kept hB11.size fun k hk => hB11.block k hk
          have hg411 : w4.grownBy w11 (some w3.heap.size) := grown_trans hg410 ⟨hB11.os, hB11.tape, hB11.output, hB11.size, fun k hk _ => hB11.block k hk⟩
          clear hB11 hHeld hsr hsq2 hH hS10 hg410 hc2
          go_wp2
          go_roundw
          case rel => exact ⟨j + 1, by omega, by go_num, hS11, hg411⟩
          case measure => simp [intOf]; omega
        · have hjm' : ¬ (j : Int) < ms.length := by omega
          have hj' : j = ms.length := by omega
          rw [hj', offB_all, hG] at hSr
          go_wp2_with fail
          refine (close_ok w3.heap.size vd G _ hSr).mono ?_
          rintro e w9 ⟨rfl, qd, rfl⟩
          go_wp2
          go_ret
          refine ⟨rfl, ((unhide hBa).grown hgr (by omega) fun k hk => by cases hk; omega).trans ⟨rfl, rfl, rfl, Nat.le_refl _, fun _ _ => rfl⟩⟩
end Go.Proofs.Qxb6605704aFmt
