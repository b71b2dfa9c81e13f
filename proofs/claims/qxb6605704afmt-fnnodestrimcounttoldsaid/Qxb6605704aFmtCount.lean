/-
  WALK OF FnNodesTrimCount (8).
-/
import Derived.Test.Qxb6605704aFmtFit
namespace Go.Proofs.Qxb6605704aFmt
open Go.RowKit

/-- Of the first m prefixes those that fit, counted. -/
def cnt (ns : List Nd) (lim : Int) : Nat → Nat
  | 0 => 0
  | m + 1 => cnt ns lim m + if (8 + tot ns (m + 1) : Int) ≤ lim then 1 else 0
theorem cnt_le (ns : List Nd) (lim : Int) : ∀ m, cnt ns lim m ≤ m
  | 0 => Nat.le_refl _
  | m + 1 => by have := cnt_le ns lim m; unfold cnt; split <;> omega
theorem tot_mono (ns : List Nd) (i j : Nat) (h : i ≤ j) : tot ns i ≤ tot ns j := by
  unfold tot
  have := encNs_take_le (ns.take j) i
  rwa [List.take_take, Nat.min_eq_left h] at this
theorem cnt_fits {ns : List Nd} {lim : Int} {k : Nat} (h : Fits ns lim k) : cnt ns lim ns.length = k := by
  have h1 : ∀ m, m ≤ k → cnt ns lim m = m := by
    intro m
    induction m with
    | zero => intro _; rfl
    | succ m ih =>
      intro hm
      unfold cnt
      rw [ih (by omega), if_pos (h.yes m (by omega))]
  have h2 : ∀ m, k ≤ m → m ≤ ns.length → cnt ns lim m = k := by
    intro m
    induction m with
    | zero => intro hk _; have : k = 0 := by omega
              subst this; rfl
    | succ m ih =>
      intro hk hm
      by_cases e : k = m + 1
      · rw [e]; exact h1 (m + 1) (by omega)
      · unfold cnt
        have hn := h.no (by omega)
        have ht := tot_mono ns (k + 1) (m + 1) (by omega)
        rw [ih (by omega) (by omega), if_neg (by omega)]
        omega
  exact h2 _ h.le (Nat.le_refl _)

set_option maxRecDepth 100000 in
set_option maxHeartbeats 2000000 in
theorem count_any (v : Value) (ns : List Nd) (lim : Int) (w : World) (hv : RdN w none v ns) (k : ∀ n ∈ ns, n.Ok) (hN : ns.length ≤ 9223372036854775807) :
    Calls Tryf.prog 8 #[v, .int .i64 lim] w fun e w' => e = .returned (.bool true) ∧ Below w.heap.size w w' := by
  have hq := eqnil43
  go_enter Tryf.func8, Tryf.ntmps8
  go_wp2_with fail
  refine (zz32_any v ns lim _ hv k (by omega)).mono ?_
  rintro e w ⟨⟨r, rfl, hzz⟩, rfl⟩
  cases r with
  | false =>
    go_wp2
    go_ret
    exact ⟨rfl, Below.refl _ _⟩
  | true =>
    obtain ⟨hz1, hz2⟩ := hzz rfl
    clear hzz
    go_wp2_with fail
    refine (tooBig_any v ns 0 _ hv (fun n h => ⟨k n h, by have := hz2 n h; omega⟩) (by omega) (by omega) (by omega)).mono ?_
    rintro e w ⟨⟨r, rfl, hr⟩, rfl⟩
    cases r with
    | true =>
      go_wp2
      go_ret
      exact ⟨rfl, Below.refl _ _⟩
    | false =>
      obtain ⟨hN1, hsz⟩ := hr rfl
      clear hr
      go_wp2_with fail
      refine (cloneNodes_any v ns _ hv (fun n h => ⟨k n h, by have := sig_le_sigs ns n h; omega⟩) (by omega)).mono ?_
      rintro e w1 ⟨v1, ms, rfl, hv1, km, hmap, hB1, _⟩
      have hml : ms.length = ns.length := by have := congrArg List.length hmap; simpa using this
      have hms : sigs ms = sigs ns := by unfold sigs; rw [hmap]
      rw [← hml, ← hms] at hsz
      rw [← hml] at hN1
      clear hmap hml hms hv k hz1 hz2
      have hB1' := hide hB1
      clear hB1
      obtain ⟨a1, c1, hv1e, hv1r⟩ := id hv1
      subst hv1e
      have hlen := encNs_le ms km
      go_wp2_with fail
      go_loop [5, 6, 21] (fun c z i => ∃ m : Nat, m ≤ ms.length ∧ i = .int .i64 m ∧ z = .int .i64 (8 + tot ms m : Int) ∧ c = .int .i64 (cnt ms lim m)) (fun _ _ i => ms.length - (intOf i).toNat)
      case atStart => exact ⟨0, Nat.zero_le _, rfl, by simp [tot, encNs], rfl⟩
      case round =>
        obtain ⟨m, hm, rfl, rfl, rfl⟩ := hrel
        have htm : tot ms m ≤ (encNs ms).length := encNs_take_le ms m
        have hcl := cnt_le ms lim m
        by_cases hlt : m < ms.length
        · obtain ⟨b, o, rfl, hnd⟩ := hv1r (by omega)
          have hi : (m : Int) < ms.length := by omega
          have kmm := km _ (List.getElem_mem hlt)
          obtain ⟨a3, c3, hc⟩ := (hnd m _ (List.getElem?_eq_getElem hlt)).svAt kmm
          have hsn0 := tot_succ ms m hlt kmm
          have hcs : Hid (cnt ms lim (m + 1) = cnt ms lim m + if (8 + tot ms (m + 1) : Int) ≤ lim then 1 else 0) := rfl
          rw [hsn0] at hcs
          have hsn := hide hsn0
          clear hsn0
          have hsl := sig_le_sigs ms _ (List.getElem_mem hlt)
          have hfl := fieldLen_le ms[m].sig.length
          generalize ms[m].sig.length = sl at hc hsn hsl hfl hcs
          generalize cnt ms lim m = cm at hcs hcl
          generalize tot ms m = tm at hsn htm hcs
          clear hv1r hnd hv1
          go_wp2_with fail
          refine (fieldLen_any _ _ (by omega) (by omega)).mono ?_
          rintro e w3 ⟨rfl, rfl⟩
          rw [Int.toNat_natCast]
          by_cases hf : (8 + tm + (72 + fieldLen sl) : Int) ≤ lim
          · go_wp2
            go_round
            case rel => exact ⟨m + 1, by omega, by go_num, by rw [unhide hsn]; go_num, by rw [unhide hcs, if_pos (by omega)]; go_num⟩
            case measure => simp [intOf]; omega
          · go_wp2
            go_round
            case rel => exact ⟨m + 1, by omega, by go_num, by rw [unhide hsn]; go_num, by rw [unhide hcs, if_neg (by omega)]; go_num⟩
            case measure => simp [intOf]; omega
        · have hi : ¬ (m : Int) < ms.length := by omega
          have : m = ms.length := by omega
          subst this
          go_wp2_with fail
          refine (build_any _ ms _ hv1 km (by omega)).mono ?_
          rintro e w2 ⟨a2, rfl, hbn, hB2, _⟩
          have hT : Two w2 ms a1 a2 := ⟨fun hn => let ⟨b, o, e, hr⟩ := hv1r hn; ⟨b, o, e, hr.kept km fun b hb _ => hB2.block b hb⟩, fun hn => ⟨_, _, (hbn hn).1, (hbn hn).2⟩⟩
          have hB2' := hide hB2
          clear hbn hv1 hv1r hB2
          go_wp2_with fail
          refine (trim_any a2 ms lim _ km hT.list hN1 (by omega)).mono ?_
          rintro e w3 ⟨m, rfl, hF, hB3⟩
          rw [cnt_fits hF]
          have hT3 := hT.kept km hB3
          have hB3' := hide hB3
          clear hT hB3 hcl
          have hmle := hF.le
          have hle : (m : Int) ≤ ms.length := by omega
          have hnn : (a2.isNone != a2.isNone) = false := by simp
          go_wp2_with fail
          go_loopw [10] (fun i wr => ∃ j : Nat, j ≤ m ∧ i = .int .i64 j ∧ Below w3.heap.size w3 wr) (fun i _ => m - (intOf i).toNat)
          case atStart => exact ⟨0, Nat.zero_le _, rfl, Below.refl _ _⟩
          case round =>
            obtain ⟨j, hj, rfl, hBr⟩ := hrel
            by_cases hjm : j < m
            · have hjm' : (j : Int) < m := by omega
              have hjl : (j : Int) < ms.length := by omega
              have hjN : j < ms.length := by omega
              have kmj := km _ (List.getElem_mem hjN)
              obtain ⟨b1, o1, hb1, hn1⟩ := hT3.nodes (by omega)
              obtain ⟨b2, o2, hb2, hn2⟩ := hT3.list (by omega)
              subst hb1
              subst hb2
              have g1 := (hn1 j _ (List.getElem?_eq_getElem hjN)).kept kmj fun b hb _ => hBr.block b hb
              have g2 := (hn2 j _ (List.getElem?_eq_getElem hjN)).kept kmj fun b hb _ => hBr.block b hb
              have hsl := sig_le_sigs ms _ (List.getElem_mem hjN)
              generalize ms[j] = n at kmj g1 g2 hsl
              have hH : wr.drew.rangeAt b2 (o2 + j * 66) n.cells ∧ wr.drew.rangeAt b1 (o1 + j * 66) n.cells := ⟨range_of_block rfl g2.cells, range_of_block rfl g1.cells⟩
              have i34 : (Tryf.prog.info? 34).map (·.size) = some n.cells.length := by rw [kmj.length]; exact Tryf.size34
              have i46 : (Tryf.prog.info? 46).map (·.size) = some n.cells.length := by rw [kmj.length]; exact Tryf.size46
              have hsr : Rd wr.drew n.sv n.sig := g1.sig.rd.kept fun _ _ => rfl
              clear hn1 hn2 g1 g2
              go_wp2
              refine wp_region_noPanic ?_
              refine wp_region_held_drew (S := fun W => W.rangeAt b2 (o2 + j * 66) n.cells ∧ W.rangeAt b1 (o1 + j * 66) n.cells) (by kernel_rfl) hH (fun hHeld => ?_)
              refine takeL (i := 0) (v := ?_) rfl (by kernel_rfl) (by kernel_rfl) (by kernel_rfl) (fun _ _ _ h => h) (Or.inl ⟨by rfl, ?_⟩) hHeld ?_
              rotate_left
              · intro W hW; go_simp; first | done | with_reducible rfl
              simp only [Act.put, List.setIfInBounds_toArray, List.set_cons_zero, List.set_cons_succ]
              refine takeL (i := 1) (v := ?_) rfl (by kernel_rfl) (by kernel_rfl) (by kernel_rfl) (fun _ _ _ h => h) (Or.inl ⟨by rfl, ?_⟩) hHeld ?_
              rotate_left
              · intro W hW; go_simp; first | done | with_reducible rfl
              simp only [Act.put, List.setIfInBounds_toArray, List.set_cons_zero, List.set_cons_succ]
              refine takeL (i := 2) (v := .pointer (some ⟨b2, o2 + j * 66, none⟩)) rfl (by kernel_rfl) (by kernel_rfl) (by kernel_rfl) (fun _ _ _ h => h) (Or.inl ⟨by rfl, ?_⟩) hHeld ?_
              · intro W hW; clear hHeld hW hH; go_simp
              simp only [Act.put, List.setIfInBounds_toArray, List.set_cons_zero, List.set_cons_succ]
              refine takeL (i := 3) rfl (by kernel_rfl) (by kernel_rfl) (by kernel_rfl) (fun _ _ _ h => h) (yieldsIf_load_mid (by rfl) 34 (.tmp 63) rfl b2 (o2 + j * 66) rfl n.cells _ (fun _ hW => hW.1) Tryf.underlying34 rfl i34) hHeld ?_
              simp only [Act.put, List.setIfInBounds_toArray, List.set_cons_zero, List.set_cons_succ]
              refine takeL (i := 4) (v := ?_) rfl (by kernel_rfl) (by kernel_rfl) (by kernel_rfl) (fun _ _ _ h => h) (Or.inl ⟨by rfl, ?_⟩) hHeld ?_
              rotate_left
              · intro W hW; go_simp; first | done | with_reducible rfl
              simp only [Act.put, List.setIfInBounds_toArray, List.set_cons_zero, List.set_cons_succ]
              refine takeL (i := 5) (v := ?_) rfl (by kernel_rfl) (by kernel_rfl) (by kernel_rfl) (fun _ _ _ h => h) (Or.inl ⟨by rfl, ?_⟩) hHeld ?_
              rotate_left
              · intro W hW; go_simp; first | done | with_reducible rfl
              simp only [Act.put, List.setIfInBounds_toArray, List.set_cons_zero, List.set_cons_succ]
              refine takeL (i := 6) (v := .pointer (some ⟨b1, o1 + j * 66, none⟩)) rfl (by kernel_rfl) (by kernel_rfl) (by kernel_rfl) (fun _ _ _ h => h) (Or.inl ⟨by rfl, ?_⟩) hHeld ?_
              · intro W hW; clear hHeld hW hH; go_simp
              simp only [Act.put, List.setIfInBounds_toArray, List.set_cons_zero, List.set_cons_succ]
              refine takeL (i := 7) rfl (by kernel_rfl) (by kernel_rfl) (by kernel_rfl) (fun _ _ _ h => h) (yieldsIf_load_mid (by rfl) 46 (.tmp 67) rfl b1 (o1 + j * 66) rfl n.cells _ (fun _ hW => hW.2) Tryf.underlying46 rfl i46) hHeld ?_
              simp only [Act.put, List.setIfInBounds_toArray, List.set_cons_zero, List.set_cons_succ]
              refine stepL (i := 8) rfl (by kernel_rfl) (by rfl) (fun K hK => ?_)
              go_simp
              refine (sameExact_any n _ kmj hsr (by omega)).mono ?_
              rintro e w4 ⟨rfl, hB4⟩
              refine hK.out _ _ (two_keep hH (by rw [kmj.length]; decide) hB4) (fun hHeld => ?_)
              clear hK K hH
              try simp only [Act.put, List.setIfInBounds_toArray, List.set_cons_zero, List.set_cons_succ]
              refine takeL (i := 9) (v := .bool false) rfl (by kernel_rfl) (by kernel_rfl) (by kernel_rfl) (fun _ _ _ h => h) (Or.inl ⟨by rfl, ?_⟩) hHeld ?_
              · intro W hW; clear hHeld hW; go_simp
              refine wpAnyH_done (by kernel_rfl) ?_ _
              refine NoPanic.normal ?_
              have hB5 : Below w3.heap.size w3 w4 := hBr.trans (Below.of_drew (hB4.mono hBr.size))
              clear hB4 hBr hHeld hsr
              try simp only [Act.put, List.setIfInBounds_toArray, List.set_cons_zero, List.set_cons_succ]
              go_wp2
              go_roundw
              case rel => exact ⟨j + 1, by omega, by go_num, hB5⟩
              case measure => simp [intOf]; omega
            · have hjm' : ¬ (j : Int) < m := by omega
              go_wp2
              go_ret
              exact ⟨rfl, bstep (bstep (bstep (unhide hB1') (unhide hB2')) (unhide hB3')) hBr⟩
end Go.Proofs.Qxb6605704aFmt
