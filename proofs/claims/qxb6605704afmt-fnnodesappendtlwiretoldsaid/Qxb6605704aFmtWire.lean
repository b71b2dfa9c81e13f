/-
  WALK OF FnNodesAppendTLWire (5).
-/
import Derived.Test.Qxb6605704aFmtWirePlain
namespace Go.Proofs.Qxb6605704aFmt
open Go.RowKit

/-- The slice of the nodes behind the copy of b and the list a. -/
theorem wire_own {w1 w2 w3 : World} {v1 v2 : Value} {ms : List Nd} {xs : List Int} {a4 : Option Addr} (km : ∀ n ∈ ms, n.Ok) (hv1 : RdN w1 none v1 ms) (hO : Own w2 w1.heap.size v2 xs) (hB2 : Below w1.heap.size w1 w2) (hB3 : Below w2.heap.size w2 w3)
    (hb : ms.length ≠ 0 → a4 = some ⟨w2.heap.size, 0, none⟩ ∧ NdsAt w3 none w2.heap.size 0 ms) :
    Own w3 w1.heap.size v2 xs ∧ (ms.length ≠ 0 → ∃ b o, a4 = some ⟨b, o, none⟩ ∧ NdsAt w3 v2.ownBlock b o ms) ∧ RdN w3 v2.ownBlock v1 ms := by
  have hlt := hO.lt
  have hB13 := hB2.trans (hB3.mono hB2.size)
  have hrow : RdN w1 v2.ownBlock v1 ms := by
    cases e : v2.ownBlock with
    | none => exact hv1
    | some g => exact hv1.row km (hlt g e).1
  refine ⟨hO.kept hB3.size fun g hg => hB3.block g (hlt g hg).2, fun hn => ?_, hrow.kept km fun b hb' _ => hB13.block b hb'⟩
  obtain ⟨e4, hnd⟩ := hb hn
  obtain ⟨a, c, _, hr⟩ := hrow
  obtain ⟨b1, o1, _, hr1⟩ := hr hn
  refine ⟨_, _, e4, fun i n e => ⟨(hnd i n e).cells, fun e' => ?_, (hr1 i n e).sig.kept fun b hb' _ => hB13.block b hb'⟩⟩
  have := (hlt _ e'.symm).2
  omega
theorem zero46 : Tryf.zeroCells46.size = 66 := by kernel_rfl
theorem there_zero46 (w : World) : (w.alloc (.cells Tryf.zeroCells46 46)).there w.heap.size 0 66 := fun j hj => by
  have hh := heap_alloc_new w (.cells Tryf.zeroCells46 46)
  refine ⟨?_, ?_⟩
  · rw [cell_of_row _ w.heap.size (0 + j) _ 46 (0, 0) hh, Nat.zero_add, Array.getElem?_eq_getElem (by rw [zero46]; exact hj)]; rfl
  · simp only [World.frozen?]; rw [hh]; simp

/-- The box of nd. -/
theorem box_nd {w4 wr : World} {n : Nd} (hB : Below w4.heap.size w4 wr) (k : n.Ok) : ∃ w5, (wr.alloc (Obj.cells Tryf.zeroCells46 46)).setCells wr.heap.size 0 n.cells = w5 ∧ Below w4.heap.size w4 w5 ∧ w5.rangeAt wr.heap.size 0 n.cells := by
  refine ⟨_, rfl, ?_, World.rangeAt_setCells_same _ _ _ _ (by rw [k.length]; exact there_zero46 wr)⟩
  refine (hB.alloc hB.size _).trans ⟨setCells_os _ _ _ _, setCells_tape _ _ _ _, setCells_output _ _ _ _, by rw [setCells_size]; exact Nat.le_refl _, fun k hk => setCells_other _ k ?_ _ _ _⟩
  have := hB.size
  omega

theorem wire_all (xs : List Int) (ms : List Nd) (hx : Byts xs) (km : ∀ n ∈ ms, n.Ok) (hN : ms.length ≤ 1048576) (hs : sigs ms ≤ 1048576) :
    Byts (xs ++ encTL ms) ∧ (∀ i (h : i < ms.length), Wire (xs ++ encTL ms) (offN xs ms i) ms[i]) ∧ Hid (le32at (xs ++ encTL ms) xs.length = 3834063118) ∧ Hid (le32at (xs ++ encTL ms) (xs.length + 4) = ms.length) ∧
      (xs ++ encTL ms).length = xs.length + 8 + (encNs ms).length ∧ Hid (offN xs ms 0 = xs.length + 8) ∧ Hid (offN xs ms ms.length = (xs ++ encTL ms).length) := by
  have h := got_head xs ms hN
  exact ⟨hx.append (encTL_byts ms (fun n h => ⟨km n h, by have := sig_le_sigs ms n h; omega⟩) hN), fun i hi => wire_at xs ms i hi (km _ (List.getElem_mem hi)), h.1, h.2, by rw [List.length_append, encTL_length]; omega, offN_zero xs ms, offN_all xs ms⟩

set_option maxRecDepth 100000 in
set_option maxHeartbeats 4000000 in
theorem wire_any (v bvv : Value) (ns : List Nd) (xs : List Int) (w : World) (hv : RdN w none v ns) (hb : Rd w bvv xs) (hx : Byts xs) (k : ∀ n ∈ ns, n.Ok) (hN : ns.length ≤ 9223372036854775807) (hxl : xs.length ≤ 9223372036854775807) :
    Calls Tryf.prog 5 #[v, bvv] w fun e w' => e = .returned (.bool true) ∧ Below w.heap.size w w' := by
  obtain ⟨a0, c0, rfl, hb0⟩ := id hb
  go_enter Tryf.func5, Tryf.ntmps5
  go_wp2_with fail
  refine (zz21_any v _ ns xs _ hv hb k (by omega)).mono ?_
  rintro e w1 ⟨⟨r, rfl, hzz⟩, rfl⟩
  cases r with
  | false =>
    go_wp2
    go_ret
    exact ⟨rfl, Below.refl _ _⟩
  | true =>
    obtain ⟨hz1, hz2, hz3⟩ := hzz rfl
    clear hzz
    go_wp2_with fail
    refine (tooBig_any v ns xs.length _ hv (fun n h => ⟨k n h, by have := hz2 n h; omega⟩) (by omega) (by omega) (by omega)).mono ?_
    rintro e w1 ⟨⟨r, rfl, hr⟩, rfl⟩
    cases r with
    | true =>
      go_wp2
      go_ret
      exact ⟨rfl, Below.refl _ _⟩
    | false =>
      obtain ⟨hN1, hsz⟩ := hr rfl
      clear hr
      go_wp2_with fail
      refine (cloneNodes_any v ns _ hv (fun n h => ⟨k n h, by have := sig_le_sigs ns n h; omega⟩) (by omega)).mono ?_
      rintro e w1 ⟨v1, ms, rfl, hv1, km, hmap, hB1, _⟩
      have hml : ms.length = ns.length := by have := congrArg List.length hmap; simpa using this
      have hms : sigs ms = sigs ns := by unfold sigs; rw [hmap]
      have hb1 := hb.kept fun k hk => hB1.block k hk
      rw [← hml, ← hms] at hsz
      rw [← hml] at hN1
      clear hmap hml hms hv hb hb0 k hz1 hz2 hz3
      have hB1' := hide hB1
      clear hB1
      go_wp2_with fail
      refine (clone_any _ xs _ hb1 (by omega)).mono ?_
      rintro e w2 ⟨v2, rfl, hO2, hB2, _⟩
      obtain ⟨a2, c2, hv2, _⟩ := hO2.rd
      subst hv2
      obtain ⟨a1, c1, hv1e, hv1r⟩ := id hv1
      subst hv1e
      go_wp2_with fail
      have hle := encNs_le ms km
      have hv2r := (hv1.below km hB2 (Nat.le_refl _))
      obtain ⟨a1', c1', he1, hv2n⟩ := id hv2r
      cases he1
      go_loop [6, 38] (fun t i => ∃ m : Nat, m ≤ ms.length ∧ i = .int .i64 m ∧ t = .int .i64 (xs.length + 8 + tot ms m : Int)) (fun _ i => ms.length - (intOf i).toNat)
      case atStart => exact ⟨0, Nat.zero_le _, rfl, by simp [tot, encNs]⟩
      case round =>
        obtain ⟨m, hm, rfl, rfl⟩ := hrel
        have htm : tot ms m ≤ (encNs ms).length := encNs_take_le ms m
        by_cases hlt : m < ms.length
        · obtain ⟨b, o, rfl, hnd⟩ := hv2n (by omega)
          have hi : (m : Int) < ms.length := by omega
          have kmm := km _ (List.getElem_mem hlt)
          obtain ⟨a3, c3, hc⟩ := (hnd m _ (List.getElem?_eq_getElem hlt)).svAt kmm
          have hsn := hide (tot_succ ms m hlt kmm)
          have hsl := sig_le_sigs ms _ (List.getElem_mem hlt)
          have hfl := fieldLen_le ms[m].sig.length
          generalize ms[m].sig.length = sl at hc hsn hsl hfl
          clear hv2n hnd hv1r
          go_wp2_with fail
          refine (fieldLen_any _ _ (by omega) (by omega)).mono ?_
          rintro e w3 ⟨rfl, rfl⟩
          rw [Int.toNat_natCast]
          go_wp2
          go_round
          case rel => exact ⟨m + 1, by omega, by go_num, by rw [unhide hsn]; go_num⟩
          case measure => simp [intOf]; omega
        · have hi : ¬ (m : Int) < ms.length := by omega
          have : m = ms.length := by omega
          subst this
          have htot : Hid (tot ms ms.length = (encNs ms).length) := by show _ = _; unfold tot; rw [List.take_length]
          go_wp2_with fail
          refine (build_any _ ms _ hv2r km (by omega)).mono ?_
          rintro e w3 ⟨a4, rfl, hbn, hB3, _⟩
          obtain ⟨hO3, hns3, hv3⟩ := wire_own km hv1 hO2 hB2 hB3 hbn
          have hB13 := hide (hB2.trans (hB3.mono hB2.size))
          have s2 := hB2.size
          have s3 := hB3.size
          clear hbn hv2n hv2r hv1r hv1 hO2 hB2 hB3
          go_wp2_with fail
          refine (appTL_any w1.heap.size _ xs a4 ms.length ms _ (fun n h => ⟨km n h, by have := sig_le_sigs ms n h; omega⟩) hO3 (by omega) hns3 (by omega) (by omega)).mono ?_
          rintro e w4 ⟨v4, rfl, hA⟩
          have hv4 := hv3.app hA km
          have hold := hA.old
          have hown := hA.own
          have hB4 := hide (hA.below (by omega) hO3)
          obtain ⟨g4, cap4, hv4e, hcap, hgot⟩ := own_pos hown (by rw [List.length_append, encTL_length]; omega)
          subst hv4e
          obtain ⟨hGb, hGw, hG1, hG2, hGl, hGp, hGo⟩ := wire_all xs ms hx km (by omega) (by omega)
          have hpre : Rd w4 (.slice (some ⟨g4, 0, none⟩) xs.length cap4) xs := by rw [bv_append] at hgot; exact Rd.mk' cap4 (range_take hgot)
          rw [← unhide htot] at hGl hle
          generalize xs ++ encTL ms = G at *
          clear hA hO3 hns3 hv3 hown htm
          generalize tot ms ms.length = T at *
          have hne : ((G.length : Int) != (xs.length : Int) + 8 + (T : Int)) = false := by simp; omega
          have hcap' : (xs.length : Int) ≤ cap4 := by omega
          have hGl' := hide hGl
          clear hGl
          go_wp2_with fail
          refine (eqb_any _ _ xs _ hpre hold (by omega)).mono ?_
          rintro e w5 ⟨rfl, q1, rfl⟩
          have hrd : Rd w4 (.slice (some ⟨g4, 0, none⟩) G.length cap4) G := Rd.mk' cap4 hgot
          go_wp2_with fail
          refine (le32_any _ G _ _ ?_ hGb (by omega) (by have := unhide hGl'; omega) (by have := unhide hGl'; omega)).mono ?_
          · exact hrd.drewN _
          rintro e w5 ⟨rfl, q2, rfl⟩
          rw [Int.toNat_natCast, unhide hG1]
          go_wp2_with fail
          refine (le32_any _ G _ _ ?_ hGb (by omega) (by have := unhide hGl'; omega) (by have := unhide hGl'; omega)).mono ?_
          · exact hrd.drewN _
          rintro e w5 ⟨rfl, q3, rfl⟩
          rw [show ((xs.length : Int) + 4).toNat = xs.length + 4 from by omega, unhide hG2]
          go_wp2_with fail
          clear hpre hold hne hcap' hG1 hG2
          generalize q1 + q2 + q3 = qa
          have hglt : g4 < w4.heap.size := range_lt hgot (by rw [bv_length]; have := unhide hGl'; omega)
          go_loopw [10, 85] (fun off i wr => ∃ m : Nat, m ≤ ms.length ∧ i = .int .i64 m ∧ off = .int .i64 (offN xs ms m) ∧ Below w4.heap.size w4 wr) (fun _ i _ => ms.length - (intOf i).toNat)
          case atStart => exact ⟨0, Nat.zero_le _, rfl, by rw [unhide hGp]; go_num, ⟨rfl, rfl, rfl, Nat.le_refl _, fun _ _ => rfl⟩⟩
          case round =>
            obtain ⟨m, hm, rfl, rfl, hBr⟩ := hrel
            by_cases hlt : m < ms.length
            · have hi : (m : Int) < ms.length := by omega
              have kmm := km _ (List.getElem_mem hlt)
              have hW := hGw m hlt
              have hsucc := hide (offN_succ xs ms m hlt kmm)
              obtain ⟨a5, c5, he5, hv5⟩ := id hv4
              cases he5
              obtain ⟨b, o, rfl, hnd⟩ := hv5 (by omega)
              have hn := hnd m _ (List.getElem?_eq_getElem hlt)
              have hsl := sig_le_sigs ms _ (List.getElem_mem hlt)
              generalize ms[m] = n at kmm hW hsucc hn hsl
              obtain ⟨f, hf0⟩ : ∃ f, f = offN xs ms m := ⟨_, rfl⟩
              rw [← hf0] at hW hsucc ⊢
              have hf := hide hf0
              clear hf0
              have hwl := hW.len
              have hbw : b < w4.heap.size := range_lt hn.cells (by rw [kmm.length]; decide)
              have hcells : wr.rangeAt b (o + m * 66) n.cells := range_of_block (hBr.block b hbw) hn.cells
              have i46 : (Tryf.prog.info? 46).map (·.size) = some n.cells.length := by rw [kmm.length]; exact Tryf.size46
              clear hv5 hnd hv4 hGw
              obtain ⟨a6, c6, hse0, _⟩ := hn.sig
              have hone := all_oneCell_toArray (cells_one n hse0)
              have hsz0 : n.cells.toArray.size = 66 := by rw [List.size_toArray]; exact kmm.length
              have hth : (wr.alloc (Obj.cells Tryf.zeroCells46 46)).there wr.heap.size 0 n.cells.toArray.size := by rw [hsz0]; exact there_zero46 wr
              have i46' : (Tryf.prog.info? 46).map (·.size) = some n.cells.toArray.size := by rw [hsz0]; exact Tryf.size46
              have hse := hide hse0
              clear hse0
              clear hsz0
              go_wp2_with (first
                | refine wpList_load_mid rfl 46 (.tmp 90) rfl b (o + m * 66) rfl n.cells _ hcells Tryf.underlying46 rfl i46 ?_
                | refine wpList_store_mid rfl 46 (.tmp 12) (.tmp 91) rfl wr.heap.size 0 n.cells.toArray rfl rfl hth i46' hone ?_)
              obtain ⟨w5, h5, h5B, h5n⟩ := box_nd hBr kmm
              rw [h5]
              have h5g : w5.rangeAt g4 0 (bv G) := range_of_block (h5B.block g4 hglt) hgot
              have hrd5 : Rd w5 (.slice (some ⟨g4, 0, none⟩) G.length cap4) G := Rd.mk' cap4 h5g
              clear h5 hth i46' i46 hcells hone hBr hrd
              generalize wr.heap.size = p at *
              have hGu : G.length ≤ 4000000 := by have := unhide hGl'; omega
              refine (le32_any _ G _ _ hrd5 hGb (by omega) (by omega) (by omega)).mono ?_
              rintro e w6 ⟨rfl, q4, rfl⟩
              rw [Int.toNat_natCast, hW.con]
              go_wp2_with fail
              go_loopw [13] (fun i wr => ∃ j q : Nat, j ≤ 32 ∧ i = .int .i64 j ∧ wr = w5.drewN q) (fun i _ => 32 - (intOf i).toNat)
              case atStart => exact ⟨0, _, by omega, rfl, rfl⟩
              case round =>
                obtain ⟨j, q, hj, rfl, rfl⟩ := hrel
                by_cases hj32 : j < 32
                · have hj' : (j : Int) < 32 := by omega
                  have c1 := got_cell' h5g (by rw [kmm.id]; exact hj32) (hW.id j hj32)
                  have c2 := nd_id h5n kmm hj32
                  have c3 := got_cell' h5g (by rw [kmm.ov]; exact hj32) (hW.ov j hj32)
                  have c4 := nd_ov h5n kmm hj32
                  have b1 : (f : Int) + 4 + j < G.length := by omega
                  have b2 : (f : Int) + 36 + j < G.length := by omega
                  go_wp2
                  go_quiet (fail)
                  go_wp2
                  go_roundw
                  case rel => exact ⟨j + 1, q + nq, by omega, by go_num, rfl⟩
                  case measure => simp [intOf]; omega
                · have hj' : ¬ (j : Int) < 32 := by omega
                  have h6B : Below w4.heap.size w4 (w5.drewN q) := h5B.trans ⟨rfl, rfl, rfl, Nat.le_refl _, fun _ _ => rfl⟩
                  have h6n : (w5.drewN q).rangeAt p 0 n.cells := range_of_block rfl h5n
                  have h6g : (w5.drewN q).rangeAt g4 0 (bv G) := range_of_block rfl h5g
                  have hrd6 := hrd5.drewN q
                  clear h5B h5n h5g hrd5
                  generalize w5.drewN q = w6 at *
                  have hv68 := nd_ver h6n kmm
                  have hsv5 := nd_sv h6n kmm
                  rw [unhide hse] at hsv5
                  have hc68 : Hid (∀ r : Nat, Calls Tryf.prog 11 #[.slice (some ⟨g4, 0, none⟩) G.length cap4, .int .i64 (↑f + 68)] (w6.drewN r) fun e w' => e = .returned (.int .u32 (n.ver % 4294967296)) ∧ ∃ m, w' = (w6.drewN r).drewN m) := by
                    intro r
                    have := le32_any (.slice (some ⟨g4, 0, none⟩) G.length cap4) G (↑f + 68) (w6.drewN r) (hrd6.drewN r) hGb (by omega) (by omega) (by omega)
                    rwa [show ((f : Int) + 68).toNat = f + 68 from by omega, hW.ver] at this
                  go_wp2_with fail
                  go_quiet ((go_at_call 11; exact Calls.quiet_of (unhide hc68 _)))
                  clear hc68 hv68
                  have hsr : n.sig.length ≠ 0 → ∃ b o, a6 = some ⟨b, o, none⟩ ∧ w6.rangeAt b o (bv n.sig) := by
                    intro hz
                    obtain ⟨a8, c8, e8, h8⟩ := hn.sig
                    rw [unhide hse] at e8
                    cases e8
                    obtain ⟨b7, o7, e7, _, h7⟩ := h8 hz
                    exact ⟨b7, o7, e7, range_of_block (h6B.block b7 (range_lt h7 (by simpa [bv] using hz))) h7⟩
                  have hfe := fieldLen_eq n.sig.length
                  by_cases hs : n.sig.length < 254
                  · have hs' : (n.sig.length : Int) < 254 := by omega
                    have hh : (headB n.sig.length).length = 1 := by rw [headB_length, if_pos hs]
                    have hsigW := hW.sig
                    have hpadW := hW.pad
                    rw [hh] at hsigW hpadW hfe
                    have hfa : 1 + n.sig.length + padB n.sig.length ≤ fieldLen n.sig.length := by omega
                    have hfb : fieldLen n.sig.length ≤ 1 + n.sig.length + padB n.sig.length := by omega
                    clear hh hfe
                    have g0 := got_cell h6g (hW.short hs)
                    have b0 : (f : Int) + 72 < G.length := by omega
                    go_wp2_with fail
                    clear g0
                    go_loopw [17] (fun i wr => ∃ j q : Nat, j ≤ n.sig.length ∧ i = .int .i64 j ∧ wr = w6.drewN q) (fun i _ => n.sig.length - (intOf i).toNat)
                    case atStart => exact ⟨0, _, by omega, rfl, rfl⟩
                    case round =>
                      obtain ⟨j1, q5, hj1, rfl, rfl⟩ := hrel
                      by_cases hjs : j1 < n.sig.length
                      · have hjs' : (j1 : Int) < n.sig.length := by omega
                        obtain ⟨b7, o7, hb7, h7⟩ := hsr (by omega)
                        subst hb7
                        have d1 := got_cell' h6g hjs (hsigW j1 hjs)
                        have d2 := range_at h7 j1 hjs
                        have b3 : (f : Int) + 72 + 1 + j1 < G.length := by omega
                        clear hsr
                        go_wp2
                        go_quiet (fail)
                        go_wp2
                        go_roundw
                        case rel => exact ⟨j1 + 1, q5 + nq, by omega, by go_num, rfl⟩
                        case measure => simp [intOf]; omega
                      · have hjs' : ¬ (j1 : Int) < n.sig.length := by omega
                        clear hsr hsv5
                        go_wp2_with fail
                        refine (fieldLen_any _ _ (by omega) (by omega)).mono ?_
                        rintro e w7 ⟨rfl, rfl⟩
                        rw [Int.toNat_natCast]
                        go_wp2_with fail
                        go_loop [19] (fun i => ∃ j : Nat, j ≤ padB n.sig.length ∧ i = .int .i64 (f + 72 + 1 + n.sig.length + j : Int)) (fun i => f + 72 + fieldLen n.sig.length - (intOf i).toNat)
                        case atStart => exact ⟨0, by omega, by go_num⟩
                        case round =>
                          obtain ⟨j2, hj2, rfl⟩ := hrel
                          by_cases hjp : j2 < padB n.sig.length
                          · have d1 := got_cell h6g (hpadW j2 hjp)
                            have e1 : (f : Int) + 72 + 1 + n.sig.length + j2 < f + 72 + fieldLen n.sig.length := by omega
                            have e2 : (f : Int) + 72 + 1 + n.sig.length + j2 < G.length := by omega
                            go_wp2
                            go_round
                            case rel => exact ⟨j2 + 1, by omega, by go_num⟩
                            case measure => simp [intOf]; omega
                          · have e1 : ¬ (f : Int) + 72 + 1 + n.sig.length + j2 < f + 72 + fieldLen n.sig.length := by omega
                            go_wp2
                            go_roundw
                            case rel => exact ⟨m + 1, by omega, by go_num, by rw [unhide hsucc]; go_num, h6B.trans ⟨rfl, rfl, rfl, Nat.le_refl _, fun _ _ => rfl⟩⟩
                            case measure => simp [intOf]; omega
                  · have hs' : ¬ (n.sig.length : Int) < 254 := by omega
                    have hh : (headB n.sig.length).length = 4 := by rw [headB_length, if_neg hs]
                    have hsigW := hW.sig
                    have hpadW := hW.pad
                    rw [hh] at hsigW hpadW hfe
                    have hfa : 4 + n.sig.length + padB n.sig.length ≤ fieldLen n.sig.length := by omega
                    have hfb : fieldLen n.sig.length ≤ 4 + n.sig.length + padB n.sig.length := by omega
                    clear hh hfe
                    have g0 := got_cell h6g (hW.long0 (by omega))
                    have g1 := got_cell h6g (hW.long1 (by omega))
                    have g2 := got_cell h6g (hW.long2 (by omega))
                    have g3 := got_cell h6g (hW.long3 (by omega))
                    have b0 : (f : Int) + 72 < G.length := by omega
                    have b1 : (f : Int) + 72 + 1 < G.length := by omega
                    have b2 : (f : Int) + 72 + 2 < G.length := by omega
                    have b3 : (f : Int) + 72 + 3 < G.length := by omega
                    have hsm : (n.sig.length : Int) ≤ 1048576 := by omega
                    go_wp2_with fail
                    clear g0 g1 g2 g3 b1 b2 b3
                    go_loopw [17] (fun i wr => ∃ j q : Nat, j ≤ n.sig.length ∧ i = .int .i64 j ∧ wr = w6.drewN q) (fun i _ => n.sig.length - (intOf i).toNat)
                    case atStart => exact ⟨0, _, by omega, rfl, rfl⟩
                    case round =>
                      obtain ⟨j1, q5, hj1, rfl, rfl⟩ := hrel
                      by_cases hjs : j1 < n.sig.length
                      · have hjs' : (j1 : Int) < n.sig.length := by omega
                        obtain ⟨b7, o7, hb7, h7⟩ := hsr (by omega)
                        subst hb7
                        have d1 := got_cell' h6g hjs (hsigW j1 hjs)
                        have d2 := range_at h7 j1 hjs
                        have b3 : (f : Int) + 72 + 4 + j1 < G.length := by omega
                        clear hsr
                        go_wp2
                        go_quiet (fail)
                        go_wp2
                        go_roundw
                        case rel => exact ⟨j1 + 1, q5 + nq, by omega, by go_num, rfl⟩
                        case measure => simp [intOf]; omega
                      · have hjs' : ¬ (j1 : Int) < n.sig.length := by omega
                        clear hsr hsv5
                        go_wp2_with fail
                        refine (fieldLen_any _ _ (by omega) (by omega)).mono ?_
                        rintro e w7 ⟨rfl, rfl⟩
                        rw [Int.toNat_natCast]
                        go_wp2_with fail
                        go_loop [19] (fun i => ∃ j : Nat, j ≤ padB n.sig.length ∧ i = .int .i64 (f + 72 + 4 + n.sig.length + j : Int)) (fun i => f + 72 + fieldLen n.sig.length - (intOf i).toNat)
                        case atStart => exact ⟨0, by omega, by go_num⟩
                        case round =>
                          obtain ⟨j2, hj2, rfl⟩ := hrel
                          by_cases hjp : j2 < padB n.sig.length
                          · have d1 := got_cell h6g (hpadW j2 hjp)
                            have e1 : (f : Int) + 72 + 4 + n.sig.length + j2 < f + 72 + fieldLen n.sig.length := by omega
                            have e2 : (f : Int) + 72 + 4 + n.sig.length + j2 < G.length := by omega
                            go_wp2
                            go_round
                            case rel => exact ⟨j2 + 1, by omega, by go_num⟩
                            case measure => simp [intOf]; omega
                          · have e1 : ¬ (f : Int) + 72 + 4 + n.sig.length + j2 < f + 72 + fieldLen n.sig.length := by omega
                            go_wp2
                            go_roundw
                            case rel => exact ⟨m + 1, by omega, by go_num, by rw [unhide hsucc]; go_num, h6B.trans ⟨rfl, rfl, rfl, Nat.le_refl _, fun _ _ => rfl⟩⟩
                            case measure => simp [intOf]; omega
            · have hi : ¬ (m : Int) < ms.length := by omega
              have : m = ms.length := by omega
              subst this
              have hoff : ((offN xs ms ms.length : Int) == (xs.length : Int) + 8 + (T : Int)) = true := by rw [unhide hGo]; have := unhide hGl'; simp; omega
              go_wp2
              go_ret
              refine ⟨rfl, ?_⟩
              have h1 := unhide hB1'
              have h13 := unhide hB13
              have h4 := unhide hB4
              have hall := h1.trans ((h13.trans h4).mono h1.size)
              exact hall.trans (hBr.mono hall.size)
end Go.Proofs.Qxb6605704aFmt
