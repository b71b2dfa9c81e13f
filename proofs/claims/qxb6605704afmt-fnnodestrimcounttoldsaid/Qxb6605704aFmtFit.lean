/-
  WALK OF FnNodesTrimLongestFit (7).
-/
import Derived.Test.Qxb6605704aFmtTrim
namespace Go.Proofs.Qxb6605704aFmt
open Go.RowKit

theorem appTL_nil' (a : Option Addr) (c m : Nat) (ns : List Nd) (hm : ns.length = m) (w : World) (k : ∀ n ∈ ns, n.Ok ∧ n.sig.length ≤ 16777215) (hns : ns.length ≠ 0 → ∃ b o, a = some ⟨b, o, none⟩ ∧ NdsAt w none b o ns) (hN : ns.length ≤ 1048576) (hl : (encNs ns).length ≤ 140737480000000) :
    Calls Tryf.prog 19 #[.slice a m c, .slice none 0 0] w fun e w' => ∃ g cap, e = .returned (.slice (some ⟨g, 0, none⟩) (8 + (encNs ns).length) cap) ∧ Below w.heap.size w w' := by
  subst hm
  exact (appTL_nil a c ns w k hns hN hl).mono fun e w' ⟨g, cap, h1, h2, _⟩ => ⟨g, cap, h1, h2⟩
theorem NdsAt.take {w : World} {row : Option Nat} {b o : Nat} {ns : List Nd} (h : NdsAt w row b o ns) (m : Nat) : NdsAt w row b o (ns.take m) := fun i n e => h i n (by
  rw [List.getElem?_take] at e
  split at e
  · exact e
  · cases e)

/-- WHAT THE TWO LISTS ARE BEHIND THE COPY AND THE TRIM. -/
structure Two (w : World) (ms : List Nd) (a1 a2 : Option Addr) : Prop where
  nodes : ms.length ≠ 0 → ∃ b o, a1 = some ⟨b, o, none⟩ ∧ NdsAt w none b o ms
  list : ms.length ≠ 0 → ∃ b o, a2 = some ⟨b, o, none⟩ ∧ NdsAt w none b o ms
theorem Two.kept {w w' : World} {ms : List Nd} {a1 a2 : Option Addr} (h : Two w ms a1 a2) (k : ∀ n ∈ ms, n.Ok) (hB : Below w.heap.size w w') : Two w' ms a1 a2 :=
  ⟨fun hn => let ⟨b, o, e, hr⟩ := h.nodes hn; ⟨b, o, e, hr.kept k fun b hb _ => hB.block b hb⟩, fun hn => let ⟨b, o, e, hr⟩ := h.list hn; ⟨b, o, e, hr.kept k fun b hb _ => hB.block b hb⟩⟩

theorem bstep {w w1 w2 : World} (h : Below w.heap.size w w1) (k : Below w1.heap.size w1 w2) : Below w.heap.size w w2 := h.trans (k.mono h.size)
theorem two_keep {b1 o1 b2 o2 : Nat} {cs : List Value} {W W' : World} (h : W.rangeAt b1 o1 cs ∧ W.rangeAt b2 o2 cs) (hl : cs.length ≠ 0) (hB : Below W.heap.size W W') : W'.rangeAt b1 o1 cs ∧ W'.rangeAt b2 o2 cs :=
  ⟨range_of_block (hB.block b1 (range_lt h.1 hl)) h.1, range_of_block (hB.block b2 (range_lt h.2 hl)) h.2⟩

set_option maxRecDepth 100000 in
set_option maxHeartbeats 2000000 in
theorem fit_any (v : Value) (ns : List Nd) (lim : Int) (w : World) (hv : RdN w none v ns) (k : ∀ n ∈ ns, n.Ok) (hN : ns.length ≤ 9223372036854775807) :
    Calls Tryf.prog 7 #[v, .int .i64 lim] w fun e w' => e = .returned (.bool true) ∧ Below w.heap.size w w' := by
  have hq := eqnil43
  go_enter Tryf.func7, Tryf.ntmps7
  go_wp2_with fail
  refine (zz29_any v ns lim _ hv k (by omega)).mono ?_
  rintro e w ⟨⟨r, rfl, hzz⟩, rfl⟩
  cases r with
  | false =>
    go_wp2
    go_ret
    exact ⟨rfl, Below.refl _ _⟩
  | true =>
    obtain ⟨hz1, hz2⟩ := hzz rfl
    clear hzz
    go_wp2_with fail
    refine (tooBig_any v ns 0 _ hv (fun n h => ⟨k n h, by have := hz2 n h; omega⟩) (by omega) (by omega) (by omega)).mono ?_
    rintro e w ⟨⟨r, rfl, hr⟩, rfl⟩
    cases r with
    | true =>
      go_wp2
      go_ret
      exact ⟨rfl, Below.refl _ _⟩
    | false =>
      obtain ⟨hN1, hsz⟩ := hr rfl
      clear hr
      go_wp2_with fail
      refine (cloneNodes_any v ns _ hv (fun n h => ⟨k n h, by have := sig_le_sigs ns n h; omega⟩) (by omega)).mono ?_
      rintro e w1 ⟨v1, ms, rfl, hv1, km, hmap, hB1, _⟩
      have hml : ms.length = ns.length := by have := congrArg List.length hmap; simpa using this
      have hms : sigs ms = sigs ns := by unfold sigs; rw [hmap]
      rw [← hml, ← hms] at hsz
      rw [← hml] at hN1
      clear hmap hml hms hv k hz1 hz2
      have hB1' := hide hB1
      clear hB1
      obtain ⟨a1, c1, hv1e, hv1r⟩ := id hv1
      subst hv1e
      go_wp2_with fail
      refine (build_any _ ms _ hv1 km (by omega)).mono ?_
      rintro e w2 ⟨a2, rfl, hbn, hB2, _⟩
      have hT : Two w2 ms a1 a2 := ⟨fun hn => let ⟨b, o, e, hr⟩ := hv1r hn; ⟨b, o, e, hr.kept km fun b hb _ => hB2.block b hb⟩, fun hn => ⟨_, _, (hbn hn).1, (hbn hn).2⟩⟩
      have hB2' := hide hB2
      clear hbn hv1 hv1r hB2
      go_wp2_with fail
      refine (trim_any a2 ms lim _ km hT.list hN1 (by omega)).mono ?_
      rintro e w3 ⟨m, rfl, hF, hB3⟩
      have hT3 := hT.kept km hB3
      have hB3' := hide hB3
      clear hT hB3
      have hmle := hF.le
      have hle : (m : Int) ≤ ms.length := by omega
      have hnn : (a2.isNone != a2.isNone) = false := by simp
      have hd0 : decide (ms.length < m) = false := decide_eq_false (by omega)
      have hlen := encNs_le ms km
      go_wp2_with fail
      go_loopw [8] (fun i wr => ∃ j : Nat, j ≤ m ∧ i = .int .i64 j ∧ Below w3.heap.size w3 wr) (fun i _ => m - (intOf i).toNat)
      case atStart => exact ⟨0, Nat.zero_le _, rfl, Below.refl _ _⟩
      case round =>
        obtain ⟨j, hj, rfl, hBr⟩ := hrel
        by_cases hjm : j < m
        · have hjm' : (j : Int) < m := by omega
          have hjl : (j : Int) < ms.length := by omega
          have hjN : j < ms.length := by omega
          have kmj := km _ (List.getElem_mem hjN)
          obtain ⟨b1, o1, hb1, hn1⟩ := hT3.nodes (by omega)
          obtain ⟨b2, o2, hb2, hn2⟩ := hT3.list (by omega)
          subst hb1
          subst hb2
          have g1 := (hn1 j _ (List.getElem?_eq_getElem hjN)).kept kmj fun b hb _ => hBr.block b hb
          have g2 := (hn2 j _ (List.getElem?_eq_getElem hjN)).kept kmj fun b hb _ => hBr.block b hb
          have hsl := sig_le_sigs ms _ (List.getElem_mem hjN)
          generalize ms[j] = n at kmj g1 g2 hsl
          have hH : wr.drew.rangeAt b2 (o2 + j * 66) n.cells ∧ wr.drew.rangeAt b1 (o1 + j * 66) n.cells := ⟨range_of_block rfl g2.cells, range_of_block rfl g1.cells⟩
          have i34 : (Tryf.prog.info? 34).map (·.size) = some n.cells.length := by rw [kmj.length]; exact Tryf.size34
          have i46 : (Tryf.prog.info? 46).map (·.size) = some n.cells.length := by rw [kmj.length]; exact Tryf.size46
          have hsr : Rd wr.drew n.sv n.sig := g1.sig.rd.kept fun _ _ => rfl
          clear hn1 hn2 g1 g2
          go_wp2
          refine wp_region_noPanic ?_
          refine wp_region_held_drew (S := fun W => W.rangeAt b2 (o2 + j * 66) n.cells ∧ W.rangeAt b1 (o1 + j * 66) n.cells) (by kernel_rfl) hH (fun hHeld => ?_)
          refine takeL (i := 0) (v := ?_) rfl (by kernel_rfl) (by kernel_rfl) (by kernel_rfl) (fun _ _ _ h => h) (Or.inl ⟨by rfl, ?_⟩) hHeld ?_
          rotate_left
          · intro W hW; go_simp; first | done | with_reducible rfl
          simp only [Act.put, List.setIfInBounds_toArray, List.set_cons_zero, List.set_cons_succ]
          refine takeL (i := 1) (v := ?_) rfl (by kernel_rfl) (by kernel_rfl) (by kernel_rfl) (fun _ _ _ h => h) (Or.inl ⟨by rfl, ?_⟩) hHeld ?_
          rotate_left
          · intro W hW; go_simp; first | done | with_reducible rfl
          simp only [Act.put, List.setIfInBounds_toArray, List.set_cons_zero, List.set_cons_succ]
          refine takeL (i := 2) (v := .pointer (some ⟨b2, o2 + j * 66, none⟩)) rfl (by kernel_rfl) (by kernel_rfl) (by kernel_rfl) (fun _ _ _ h => h) (Or.inl ⟨by rfl, ?_⟩) hHeld ?_
          · intro W hW; clear hHeld hW hH; go_simp
          simp only [Act.put, List.setIfInBounds_toArray, List.set_cons_zero, List.set_cons_succ]
          refine takeL (i := 3) rfl (by kernel_rfl) (by kernel_rfl) (by kernel_rfl) (fun _ _ _ h => h) (yieldsIf_load_mid (by rfl) 34 (.tmp 40) rfl b2 (o2 + j * 66) rfl n.cells _ (fun _ hW => hW.1) Tryf.underlying34 rfl i34) hHeld ?_
          simp only [Act.put, List.setIfInBounds_toArray, List.set_cons_zero, List.set_cons_succ]
          refine takeL (i := 4) (v := ?_) rfl (by kernel_rfl) (by kernel_rfl) (by kernel_rfl) (fun _ _ _ h => h) (Or.inl ⟨by rfl, ?_⟩) hHeld ?_
          rotate_left
          · intro W hW; go_simp; first | done | with_reducible rfl
          simp only [Act.put, List.setIfInBounds_toArray, List.set_cons_zero, List.set_cons_succ]
          refine takeL (i := 5) (v := ?_) rfl (by kernel_rfl) (by kernel_rfl) (by kernel_rfl) (fun _ _ _ h => h) (Or.inl ⟨by rfl, ?_⟩) hHeld ?_
          rotate_left
          · intro W hW; go_simp; first | done | with_reducible rfl
          simp only [Act.put, List.setIfInBounds_toArray, List.set_cons_zero, List.set_cons_succ]
          refine takeL (i := 6) (v := .pointer (some ⟨b1, o1 + j * 66, none⟩)) rfl (by kernel_rfl) (by kernel_rfl) (by kernel_rfl) (fun _ _ _ h => h) (Or.inl ⟨by rfl, ?_⟩) hHeld ?_
          · intro W hW; clear hHeld hW hH; go_simp
          simp only [Act.put, List.setIfInBounds_toArray, List.set_cons_zero, List.set_cons_succ]
          refine takeL (i := 7) rfl (by kernel_rfl) (by kernel_rfl) (by kernel_rfl) (fun _ _ _ h => h) (yieldsIf_load_mid (by rfl) 46 (.tmp 44) rfl b1 (o1 + j * 66) rfl n.cells _ (fun _ hW => hW.2) Tryf.underlying46 rfl i46) hHeld ?_
          simp only [Act.put, List.setIfInBounds_toArray, List.set_cons_zero, List.set_cons_succ]
          refine stepL (i := 8) rfl (by kernel_rfl) (by rfl) (fun K hK => ?_)
          go_simp
          refine (sameExact_any n _ kmj hsr (by omega)).mono ?_
          rintro e w4 ⟨rfl, hB4⟩
          refine hK.out _ _ (two_keep hH (by rw [kmj.length]; decide) hB4) (fun hHeld => ?_)
          clear hK K hH
          try simp only [Act.put, List.setIfInBounds_toArray, List.set_cons_zero, List.set_cons_succ]
          refine takeL (i := 9) (v := .bool false) rfl (by kernel_rfl) (by kernel_rfl) (by kernel_rfl) (fun _ _ _ h => h) (Or.inl ⟨by rfl, ?_⟩) hHeld ?_
          · intro W hW; clear hHeld hW; go_simp
          refine wpAnyH_done (by kernel_rfl) ?_ _
          refine NoPanic.normal ?_
          have hB5 : Below w3.heap.size w3 w4 := hBr.trans (Below.of_drew (hB4.mono hBr.size))
          clear hB4 hBr hHeld hsr
          try simp only [Act.put, List.setIfInBounds_toArray, List.set_cons_zero, List.set_cons_succ]
          go_wp2
          go_roundw
          case rel => exact ⟨j + 1, by omega, by go_num, hB5⟩
          case measure => simp [intOf]; omega
        · have hjm' : ¬ (j : Int) < m := by omega
          have hTr := hT3.kept km hBr
          have hyes := hF.yes
          have hno := hF.no
          have hBall : Hid (Below w.heap.size w wr) := bstep (bstep (bstep (unhide hB1') (unhide hB2')) (unhide hB3')) hBr
          clear hF hT3 hBr hB1' hB2' hB3'
          have hle1 : tot ms m ≤ (encNs ms).length := encNs_take_le ms m
          have hle2 : tot ms (m + 1) ≤ (encNs ms).length := encNs_take_le ms (m + 1)
          have hk1 : ∀ n ∈ ms.take m, n.Ok ∧ n.sig.length ≤ 16777215 := fun n h => ⟨km n (List.mem_of_mem_take h), by have := sig_le_sigs ms n (List.mem_of_mem_take h); omega⟩
          have hk2 : ∀ n ∈ ms.take (m + 1), n.Ok ∧ n.sig.length ≤ 16777215 := fun n h => ⟨km n (List.mem_of_mem_take h), by have := sig_le_sigs ms n (List.mem_of_mem_take h); omega⟩
          by_cases hm0 : 0 < m
          · have hm0' : (0 : Int) < m := by omega
            have hy := hyes (m - 1) (by omega)
            rw [show m - 1 + 1 = m by omega] at hy
            have hy := hide hy
            have hno := hide hno
            have hyes := hide hyes
            go_wp2_with fail
            refine (appTL_nil' a2 ms.length m (ms.take m) (by rw [List.length_take]; omega) _ hk1 (fun hn => ?_) (by rw [List.length_take]; omega) (by unfold tot at hle1; omega)).mono ?_
            · obtain ⟨b, o, e, hr⟩ := hTr.list (by omega)
              exact ⟨b, o, e, hr.take m⟩
            rintro e w5 ⟨g5, cap5, rfl, hB5⟩
            have hlx : ¬ lim < 8 + ((encNs (ms.take m)).length : Int) := by have := unhide hy; unfold tot at this; omega
            have hT5 := hTr.kept km hB5
            have hBall5 : Hid (Below w.heap.size w w5) := bstep (unhide hBall) hB5
            unfold tot at hle1 hle2
            clear hTr hBall hB5
            by_cases hmN : m < ms.length
            · have hmN' : (m : Int) < ms.length := by omega
              obtain ⟨b, o, rfl, hr⟩ := hT5.list (by omega)
              go_wp2_with fail
              refine (appTL_nil' (some ⟨b, o, none⟩) ms.length (m + 1) (ms.take (m + 1)) (by rw [List.length_take]; omega) _ hk2 (fun _ => ⟨b, o, rfl, hr.take (m + 1)⟩) (by rw [List.length_take]; omega) (by omega)).mono ?_
              rintro e w6 ⟨g6, cap6, rfl, hB6⟩
              have hly : ¬ 8 + ((encNs (ms.take (m + 1))).length : Int) ≤ lim := by have := unhide hno hmN; unfold tot at this; omega
              have hBall6 : Hid (Below w.heap.size w w6) := bstep (unhide hBall5) hB6
              clear hr hB6
              go_wp2
              go_ret
              exact ⟨rfl, unhide hBall6⟩
            · have hmN' : ¬ (m : Int) < ms.length := by omega
              go_wp2
              go_ret
              exact ⟨rfl, unhide hBall5⟩
          · have hm0' : ¬ (0 : Int) < m := by omega
            have hno := hide hno
            have hyes := hide hyes
            unfold tot at hle1 hle2
            by_cases hmN : m < ms.length
            · have hmN' : (m : Int) < ms.length := by omega
              obtain ⟨b, o, rfl, hr⟩ := hTr.list (by omega)
              clear hTr
              go_wp2_with fail
              refine (appTL_nil' (some ⟨b, o, none⟩) ms.length (m + 1) (ms.take (m + 1)) (by rw [List.length_take]; omega) _ hk2 (fun _ => ⟨b, o, rfl, hr.take (m + 1)⟩) (by rw [List.length_take]; omega) (by omega)).mono ?_
              rintro e w6 ⟨g6, cap6, rfl, hB6⟩
              have hly : ¬ 8 + ((encNs (ms.take (m + 1))).length : Int) ≤ lim := by have := unhide hno hmN; unfold tot at this; omega
              have hBall6 : Hid (Below w.heap.size w w6) := bstep (unhide hBall) hB6
              clear hr hB6
              go_wp2
              go_ret
              exact ⟨rfl, unhide hBall6⟩
            · have hmN' : ¬ (m : Int) < ms.length := by omega
              go_wp2
              go_ret
              exact ⟨rfl, unhide hBall⟩
end Go.Proofs.Qxb6605704aFmt
