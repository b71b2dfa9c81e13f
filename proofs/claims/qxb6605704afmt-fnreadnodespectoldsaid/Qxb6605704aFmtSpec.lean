/-
  THE WALK of FnReadNodeSpec (3).
-/
import Derived.Test.Qxb6605704aFmtReaderH
import Derived.Test.Qxb6605704aFmtClose
import Derived.Test.Qxb6605704aFmtRound
import Derived.Deep.DeepCutAuto
namespace Go.Proofs.Qxb6605704aFmt
open Go.RowKit

/-- The node that the failed reader gives. -/
def badN (G : List Int) : Nd := ⟨idOf G, ovOf G, verOf G, [], .slice none 0 0⟩


/-- A new reader over a slice that the call owns, or nil. -/
theorem RS.ofOwn {B : Nat} (w : World) (v : Value) (G : List Int) (hO : Own w B v G) (hl : G.length ≤ 1099511627776) :
    RS (w.alloc (.cells #[v, .int .i64 0, .nilIface] 57)) w.heap.size v G 0 .nilIface := by
  rcases hO with ⟨rfl, rfl⟩ | ⟨g, cap, rfl, _, h2, h3, hr, _⟩
  · have hh := heap_alloc_new w (.cells #[.slice none 0 0, .int .i64 0, .nilIface] 57)
    have hf : ∀ k, (w.alloc (.cells #[.slice none 0 0, .int .i64 0, .nilIface] 57)).frozen? ⟨w.heap.size, k, none⟩ = false := fun k => by
      simp only [World.frozen?]
      rw [hh]
      simp
    refine ⟨?_, ?_, ?_, hf 1, hf 2, .inl ⟨rfl, rfl⟩, Nat.zero_le _, hl⟩
    · rw [cell_of_row _ w.heap.size 0 _ 57 (0, 0) hh]; rfl
    · rw [cell_of_row _ w.heap.size 1 _ 57 (0, 0) hh]; rfl
    · rw [cell_of_row _ w.heap.size 2 _ 57 (0, 0) hh]; rfl
  · exact RS.new w _ G g 0 cap rfl h3 h2 hr hl

theorem byts_zs32 : Byts zs32 := fun x hx => by
  have := List.eq_of_mem_replicate hx
  subst this
  exact ⟨by decide, by decide⟩
theorem idOf_byts (G : List Int) (h : Byts G) : Byts (idOf G) := by
  unfold idOf; split
  · exact h.slice 4 32
  · exact byts_zs32
theorem ovOf_byts (G : List Int) (h : Byts G) : Byts (ovOf G) := by
  unfold ovOf; split
  · exact h.slice 36 32
  · exact byts_zs32

theorem neqErr (w : World) (u : Value) : (binOp .neq 37 (.iface 84 u) .nilIface).run Tryf.prog w = .ok (.bool true) w := run_neq_iface_nil w 37 (by kernel_rfl) 84 u


/-- WHAT THE LAW's OWN READING HAS FOUND. -/
structure Found (G : List Int) (s6 s7 s8 s9 s10 : Value) : Prop where
  ver : s6 = .int .i32 (verOf G)
  res : (s10 = .bool false ∧ ¬ ∃ hd n, NodeAt G 0 hd n) ∨ ∃ hd n, NodeAt G 0 hd n ∧ s10 = .bool true ∧ s7 = .int .i64 (72 + hd : Nat) ∧ s8 = .int .i64 (n : Nat) ∧ s9 = .int .i64 (72 + hd + n + padN hd n : Nat)
structure Keeps (w w1 : World) (G : List Int) (v1 : Value) (wx : World) : Prop where
  id : wx.rangeAt w1.heap.size 0 (bv (idOf G))
  ov : wx.rangeAt (w1.heap.size + 1) 0 (bv (ovOf G))
  own : Own wx w.heap.size v1 G
  below : Below w.heap.size w wx
  size : w1.heap.size + 2 ≤ wx.heap.size

theorem rs_end {w : World} {rb : Nat} {v : Value} {G : List Int} {k : Nat} {err : Value} (e : k = G.length) (h : RS w rb v G k err) : RS w rb v G G.length err := by
  subst e
  exact h
theorem node_short {G : List Int} {k hd m : Nat} (hx : G[72]?.getD 0 = (k : Int)) (hk : (k : Int) < 254) (h : NodeAt G 0 hd m) : hd = 1 ∧ m = k := by
  rcases h.fld.head with ⟨e, _, h1⟩ | ⟨_, h1, _⟩
  · have h1' : G[72]?.getD 0 = (m : Int) := h1
    exact ⟨e, by omega⟩
  · have h1' : G[72]?.getD 0 = 254 := h1
    omega
theorem node_long {G : List Int} {k hd m : Nat} (hx : G[72]?.getD 0 = 254) (h2 : le24at G 73 = (k : Int)) (h : NodeAt G 0 hd m) : hd = 4 ∧ m = k := by
  rcases h.fld.head with ⟨_, hm, h1⟩ | ⟨e, _, h1⟩
  · have h1' : G[72]?.getD 0 = (m : Int) := h1
    omega
  · have h1' : le24at G 73 = (m : Int) := h1
    exact ⟨e, by omega⟩
theorem node_not {G : List Int} {hd m : Nat} (hx : G[72]?.getD 0 = 255) (h : NodeAt G 0 hd m) : False := by
  rcases h.fld.head with ⟨_, hm, h1⟩ | ⟨_, h1, _⟩
  · have h1' : G[72]?.getD 0 = (m : Int) := h1
    omega
  · have h1' : G[72]?.getD 0 = 254 := h1
    omega

set_option maxRecDepth 100000 in
set_option maxHeartbeats 6400000 in
theorem spec_any (v : Value) (G : List Int) (w : World) (hv : Rd w v G) (hb : Byts G) (hl : G.length ≤ 9223372036854775807) :
    Calls Tryf.prog 3 #[v] w fun e w' => e = .returned (.bool true) ∧ Below w.heap.size w w' := by
  go_enter Tryf.func3, Tryf.ntmps3
  go_wp2_with fail
  refine (zz9_any v G _ hv hl).mono ?_
  rintro e w ⟨⟨r, rfl, hzz⟩, rfl⟩
  cases r with
  | false =>
    go_wp2
    go_ret
    exact ⟨rfl, Below.refl _ _⟩
  | true =>
    have hsm := hzz rfl
    clear hzz
    have hsm' : ¬ (1048576 : Int) < G.length := by omega
    have hv0 := hv
    obtain ⟨a0, c0, e0, _⟩ := hv0
    subst e0
    go_wp2_with fail
    refine (clone_any _ G _ hv (by omega)).mono ?_
    rintro e w1 ⟨v1, rfl, ho1, hB1, _⟩
    obtain ⟨a1, c1, e1, _⟩ := id ho1.rd
    subst e1
    have hr1 := ho1.rd
    have hz1 := hB1.size
    have hgl : ∀ g, (Value.slice a1 G.length c1).ownBlock = some g → g < w1.heap.size := fun g hg => (ho1.lt g hg).2
    have r4 : ((w1.alloc (.cells (bv zs32).toArray 25)).alloc (.cells (bv zs32).toArray 25)).rangeAt w1.heap.size 0 (bv zs32) := World.rangeAt_alloc (range_box w1 (bv zs32) 25) _
    have r5 : ((w1.alloc (.cells (bv zs32).toArray 25)).alloc (.cells (bv zs32).toArray 25)).rangeAt (w1.heap.size + 1) 0 (bv zs32) := by
      have := range_box (w1.alloc (.cells (bv zs32).toArray 25)) (bv zs32) 25
      simpa using this
    have t4 : ((w1.alloc (.cells (bv zs32).toArray 25)).alloc (.cells (bv zs32).toArray 25)).there w1.heap.size 0 32 := there_of_block (Below.heap_alloc _ _ _ (by simp)) (there_alloc w1 (bv zs32) 25)
    have t5 : ((w1.alloc (.cells (bv zs32).toArray 25)).alloc (.cells (bv zs32).toArray 25)).there (w1.heap.size + 1) 0 32 := by
      have := there_alloc (w1.alloc (.cells (bv zs32).toArray 25)) (bv zs32) 25
      rw [World.size_alloc] at this
      exact this
    have hO2 := (ho1.alloc (.cells (bv zs32).toArray 25)).alloc (.cells (bv zs32).toArray 25)
    have hB2 : Below w.heap.size w ((w1.alloc (.cells (bv zs32).toArray 25)).alloc (.cells (bv zs32).toArray 25)) := (hB1.alloc hB1.size _).alloc (by simp; omega) _
    have hz2 : ((w1.alloc (.cells (bv zs32).toArray 25)).alloc (.cells (bv zs32).toArray 25)).heap.size = w1.heap.size + 2 := by simp
    go_upto_region 11 with fail
    have hW : ∃ W2, W2 = (w1.alloc (.cells (bv zs32).toArray 25)).alloc (.cells (bv zs32).toArray 25) := ⟨_, rfl⟩
    obtain ⟨W2, hW2⟩ := hW
    rw [← hW2] at r4 r5 t4 t5 hO2 hB2 hz2
    change Code.wp _ _ _ _ ((w1.alloc (.cells (bv zs32).toArray 25)).alloc (.cells (bv zs32).toArray 25))
    rw [← hW2]
    clear hW2 hr1 hB1
    have hr2 := hO2.rd
    go_cut [34] (fun s34 wx => s34 = .bool (decide (Upto G 36)) ∧ ∃ q, wx = W2.drewN q)
    case first =>
      by_cases h36 : 36 ≤ G.length
      · have i36 : (36 : Int) ≤ G.length := by omega
        go_wp2_with fail
        refine (le32_any _ G 0 _ hr2 hb (by decide) (by omega) (by omega)).mono ?_
        rintro e w3 ⟨rfl, q, rfl⟩
        go_wp2_with fail
        go_meet
        case rel =>
          refine ⟨?_, q, rfl⟩
          have : decide (Upto G 36) = (le32at G 0 == 1209251014) := by
            unfold Upto
            by_cases hc : le32at G 0 = 1209251014 <;> simp [hc, h36]
          rw [this]
      · have i36 : ¬ (36 : Int) ≤ G.length := by omega
        go_wp2_with fail
        go_meet
        case rel =>
          refine ⟨?_, 0, rfl⟩
          have : decide (Upto G 36) = false := decide_eq_false fun h => h36 h.2
          rw [this]
    case rest =>
      obtain ⟨rfl, q, rfl⟩ := hcut
      have r4 := range_of_block (w' := W2.drewN q) rfl r4
      have r5 := range_of_block (w' := W2.drewN q) rfl r5
      have t4 := there_of_block (w' := W2.drewN q) rfl t4
      have t5 := there_of_block (w' := W2.drewN q) rfl t5
      have hO3 : Own (W2.drewN q) w.heap.size (.slice a1 G.length c1) G := hO2.kept (Nat.le_refl _) fun _ _ => rfl
      have hB3 : Below w.heap.size w (W2.drewN q) := hB2.trans ⟨rfl, rfl, rfl, Nat.le_refl _, fun _ _ => rfl⟩
      have hz3 : (W2.drewN q).heap.size = w1.heap.size + 2 := hz2
      generalize W2.drewN q = W3 at *
      clear hO2 hB2 hz2 hr2
      go_upto_if 34 with fail
      go_cut [6, 7, 8, 9, 10] (fun s6 s7 s8 s9 s10 wx => Found G s6 s7 s8 s9 s10 ∧ Keeps w w1 G (.slice a1 G.length c1) wx)
      case first =>
        by_cases hU : Upto G 36
        · have hd : decide (Upto G 36) = true := decide_eq_true hU
          rw [hd]
          have h36 := hU.2
          obtain ⟨g, cap, ev, hg0, hg1, hcap, hrg, htg⟩ : ∃ g cap, Value.slice a1 G.length c1 = .slice (some ⟨g, 0, none⟩) G.length cap ∧ w.heap.size ≤ g ∧ g < W3.heap.size ∧ G.length ≤ cap ∧ W3.rangeAt g 0 (bv G) ∧ W3.there g 0 cap := by
            rcases hO3 with ⟨_, e⟩ | h
            · rw [e] at h36; simp at h36
            · exact h
          cases ev
          have j4 : ¬ c1 = 4 := by omega
          have s1 : W3.rangeAt g 4 (bv ((G.drop 4).take 32)) := by
            have e1 : bv G = bv (G.take 4) ++ (bv ((G.drop 4).take 32) ++ bv ((G.drop 4).drop 32)) := by
              rw [← bv_append, ← bv_append, List.take_append_drop, List.take_append_drop]
            have k3 := hrg
            rw [e1] at k3
            have k5 := range_take (range_drop k3)
            rwa [bv_length, List.length_take, Nat.min_eq_left (by omega)] at k5
          have hcp := copy256 W3.drew w1.heap.size g 4 (c1 - 4) ((G.drop 4).take 32) (by simp; omega) (range_of_block rfl s1) (there_of_block rfl t4)
          have e36 : (36 : Int) ≤ G.length := by omega
          generalize hid : (G.drop 4).take 32 = xs at *
          have i36 : 36 ≤ c1 := by omega
          go_upto_region 12 with fail
          go_region_with fail
          have eid : idOf G = xs := by rw [idOf, if_pos hU]; exact hid
          have hlx : (bv xs).length = 32 := by rw [bv_length, ← hid]; simp; omega
          have q4 : (W3.drew.setCells w1.heap.size 0 (bv xs)).rangeAt w1.heap.size 0 (bv xs) := World.rangeAt_setCells_same _ _ 0 (bv xs) (by rw [hlx]; exact there_of_block rfl t4)
          have hother : ∀ k, k ≠ w1.heap.size → (W3.drew.setCells w1.heap.size 0 (bv xs)).heap[k]? = W3.heap[k]? := fun k hk => setCells_other _ _ hk _ _ _
          have hg4' := hgl g rfl
          have hg4 : g ≠ w1.heap.size := by omega
          have q5 := range_of_block (hother (w1.heap.size + 1) (by omega)) r5
          have u5 := there_of_block (hother (w1.heap.size + 1) (by omega)) t5
          have qg := range_of_block (hother g hg4) hrg
          have hO4 : Own (W3.drew.setCells w1.heap.size 0 (bv xs)) w.heap.size (.slice (some ⟨g, 0, none⟩) G.length c1) G := hO3.kept (by rw [setCells_size]; exact Nat.le_refl _) fun k hk => hother k (by cases hk; exact hg4)
          have hB4 : Below w.heap.size w (W3.drew.setCells w1.heap.size 0 (bv xs)) := hB3.trans ⟨setCells_os _ _ _ _, setCells_tape _ _ _ _, setCells_output _ _ _ _, by rw [setCells_size]; exact Nat.le_refl _, fun k hk => hother k (by omega)⟩
          have hz4 : (W3.drew.setCells w1.heap.size 0 (bv xs)).heap.size = w1.heap.size + 2 := by rw [setCells_size]; exact hz3
          clear hcp t4 t5 r4 r5 hO3 hB3 hrg s1 hother htg
          generalize W3.drew.setCells w1.heap.size 0 (bv xs) = W4 at *
          by_cases h68 : 68 ≤ G.length
          · have j68 : (68 : Int) ≤ G.length := by omega
            have hU68 : Upto G 68 := ⟨hU.1, h68⟩
            have k36 : ¬ c1 = 36 := by omega
            have s2 : W4.rangeAt g 36 (bv ((G.drop 36).take 32)) := by
              have e1 : bv G = bv (G.take 36) ++ (bv ((G.drop 36).take 32) ++ bv ((G.drop 36).drop 32)) := by
                rw [← bv_append, ← bv_append, List.take_append_drop, List.take_append_drop]
              have k3 := qg
              rw [e1] at k3
              have k5 := range_take (range_drop k3)
              rwa [bv_length, List.length_take, Nat.min_eq_left (by omega)] at k5
            have hcp := copy256 W4.drew (w1.heap.size + 1) g 36 (c1 - 36) ((G.drop 36).take 32) (by simp; omega) (range_of_block rfl s2) (there_of_block rfl u5)
            generalize hov : (G.drop 36).take 32 = ys at *
            have i68 : 68 ≤ c1 := by omega
            go_upto_region 14 with fail
            go_region_with fail
            have eov : ovOf G = ys := by rw [ovOf, if_pos hU68]; exact hov
            have hly : (bv ys).length = 32 := by rw [bv_length, ← hov]; simp; omega
            have p5 : (W4.drew.setCells (w1.heap.size + 1) 0 (bv ys)).rangeAt (w1.heap.size + 1) 0 (bv ys) := World.rangeAt_setCells_same _ _ 0 (bv ys) (by rw [hly]; exact there_of_block rfl u5)
            have hother : ∀ k, k ≠ w1.heap.size + 1 → (W4.drew.setCells (w1.heap.size + 1) 0 (bv ys)).heap[k]? = W4.heap[k]? := fun k hk => setCells_other _ _ hk _ _ _
            have p4 := range_of_block (hother w1.heap.size (by omega)) q4
            have pg := range_of_block (hother g (by omega)) qg
            have hO5 : Own (W4.drew.setCells (w1.heap.size + 1) 0 (bv ys)) w.heap.size (.slice (some ⟨g, 0, none⟩) G.length c1) G := hO4.kept (by rw [setCells_size]; exact Nat.le_refl _) fun k hk => hother k (by cases hk; show g ≠ _; omega)
            have hB5 : Below w.heap.size w (W4.drew.setCells (w1.heap.size + 1) 0 (bv ys)) := hB4.trans ⟨setCells_os _ _ _ _, setCells_tape _ _ _ _, setCells_output _ _ _ _, by rw [setCells_size]; exact Nat.le_refl _, fun k hk => hother k (by omega)⟩
            have hz5 : (W4.drew.setCells (w1.heap.size + 1) 0 (bv ys)).heap.size = w1.heap.size + 2 := by rw [setCells_size]; exact hz4
            clear hcp u5 q4 q5 hO4 hB4 qg s2 hother
            generalize W4.drew.setCells (w1.heap.size + 1) 0 (bv ys) = W5 at *
            by_cases h72 : 72 ≤ G.length
            · have j72 : (72 : Int) ≤ G.length := by omega
              have hU72 : Upto G 72 := ⟨hU.1, h72⟩
              have ever : verOf G = wrap32 (le32at G 68) := if_pos hU72
              go_wp2_with fail
              refine (le32_any _ G 68 _ hO5.rd hb (by decide) (by omega) (by omega)).mono ?_
              rintro e w6 ⟨rfl, q6, rfl⟩
              have hx72 := hb.get 72
              by_cases h73 : 73 ≤ G.length
              · have j73 : (73 : Int) ≤ G.length := by omega
                have i72 : (72 : Int) < G.length := by omega
                have hfin : ∀ q, Keeps w w1 G (.slice (some ⟨g, 0, none⟩) G.length c1) ((W5.drewN q6).drewN q) := fun q => ⟨by rw [eid]; exact range_of_block rfl p4, by rw [eov]; exact range_of_block rfl p5, hO5.kept (Nat.le_refl _) fun _ _ => rfl, hB5.trans ⟨rfl, rfl, rfl, Nat.le_refl _, fun _ _ => rfl⟩, by have : ((W5.drewN q6).drewN q).heap.size = W5.heap.size := rfl; omega⟩
                have hfin0 : Keeps w w1 G (.slice (some ⟨g, 0, none⟩) G.length c1) (W5.drewN q6) := ⟨by rw [eid]; exact range_of_block rfl p4, by rw [eov]; exact range_of_block rfl p5, hO5.kept (Nat.le_refl _) fun _ _ => rfl, hB5.trans ⟨rfl, rfl, rfl, Nat.le_refl _, fun _ _ => rfl⟩, by have : (W5.drewN q6).heap.size = W5.heap.size := rfl; omega⟩
                have pg6 := range_of_block (w' := W5.drewN q6) rfl pg
                clear p4 p5 pg hO5 hB5 hz5
                generalize W5.drewN q6 = W6 at *
                have c72 : W6.cell? ⟨g, 72, none⟩ = some (.int .u8 (G[72]?.getD 0)) := by
                  have := range_at pg6 72 (by omega)
                  simpa using this
                have hx72' := hide hx72
                clear hx72
                by_cases hs : G[72]?.getD 0 < 254
                · obtain ⟨n, hn⟩ := Int.eq_ofNat_of_zero_le (unhide hx72').1
                  rw [hn] at c72 hs
                  have hn' := hide hn
                  clear hn
                  by_cases hfit : 72 + 1 + n + padN 1 n ≤ G.length
                  · have jf : ((1 + (n : Int) + 3) / 4 * 4) ≤ (G.length : Int) - 72 := by unfold padN at hfit; omega
                    go_wp2_with fail
                    go_meet
                    case rel =>
                      refine ⟨⟨by rw [ever], .inr ⟨1, n, ⟨hU.1, .inl ⟨rfl, by omega, unhide hn'⟩, hfit⟩, rfl, rfl, rfl, ?_⟩⟩, hfin0⟩
                      exact congrArg (Value.int .i64) (by unfold padN; omega)
                  · have jf : ¬ ((1 + (n : Int) + 3) / 4 * 4) ≤ (G.length : Int) - 72 := by unfold padN at hfit; omega
                    go_wp2_with fail
                    go_meet
                    case rel =>
                      refine ⟨⟨by rw [ever], .inl ⟨rfl, fun ⟨hd, m, h⟩ => hfit ?_⟩⟩, hfin0⟩
                      obtain ⟨rfl, rfl⟩ := node_short (unhide hn') hs h
                      exact h.fld.fits
                · by_cases he : G[72]?.getD 0 = 254
                  · have he' := hide he
                    clear hs
                    rw [he] at c72
                    clear he
                    by_cases h76 : 76 ≤ G.length
                    · have j76 : (76 : Int) ≤ G.length := by omega
                      have i73 : (73 : Int) < G.length := by omega
                      have i74 : (74 : Int) < G.length := by omega
                      have i75 : (75 : Int) < G.length := by omega
                      have c73 : W6.cell? ⟨g, 73, none⟩ = some (.int .u8 (G[73]?.getD 0)) := by
                        have := range_at pg6 73 (by omega)
                        simpa using this
                      have c74 : W6.cell? ⟨g, 74, none⟩ = some (.int .u8 (G[74]?.getD 0)) := by
                        have := range_at pg6 74 (by omega)
                        simpa using this
                      have c75 : W6.cell? ⟨g, 75, none⟩ = some (.int .u8 (G[75]?.getD 0)) := by
                        have := range_at pg6 75 (by omega)
                        simpa using this
                      have g0 := hb.get 73
                      have g1 := hb.get 74
                      have g2 := hb.get 75
                      obtain ⟨n, hn⟩ : ∃ n : Nat, le24at G 73 = (n : Int) := by
                        have : 0 ≤ le24at G 73 := by
                          show 0 ≤ G[73]?.getD 0 + G[74]?.getD 0 * 256 + G[75]?.getD 0 * 65536
                          omega
                        exact Int.eq_ofNat_of_zero_le this
                      have hsum := hide ((le_sum3 _ _ _ g0 g1 g2).trans hn)
                      have hn' := hide hn
                      clear hn
                      generalize G[73]?.getD 0 = y0 at *
                      generalize G[74]?.getD 0 = y1 at *
                      generalize G[75]?.getD 0 = y2 at *
                      have hn24 : Hid (n < 16777216) := by
                        have h1 := unhide hsum
                        rw [le_sum3 _ _ _ g0 g1 g2] at h1
                        exact hide (by omega)
                      by_cases hfit : 72 + 4 + n + padN 4 n ≤ G.length
                      · have jf : ((4 + (n : Int) + 3) / 4 * 4) ≤ (G.length : Int) - 72 := by unfold padN at hfit; omega
                        go_wp2_with fail
                        go_quiet (fail)
                        rw [unhide hsum]
                        have i24 := unhide hn24
                        go_wp2_with fail
                        go_meet
                        case rel =>
                          refine ⟨⟨by rw [ever], .inr ⟨4, n, ⟨hU.1, .inr ⟨rfl, unhide he', unhide hn'⟩, hfit⟩, rfl, rfl, rfl, ?_⟩⟩, hfin _⟩
                          exact congrArg (Value.int .i64) (by unfold padN; omega)
                      · have jf : ¬ ((4 + (n : Int) + 3) / 4 * 4) ≤ (G.length : Int) - 72 := by unfold padN at hfit; omega
                        go_wp2_with fail
                        go_quiet (fail)
                        rw [unhide hsum]
                        have i24 := unhide hn24
                        go_wp2_with fail
                        go_meet
                        case rel =>
                          refine ⟨⟨by rw [ever], .inl ⟨rfl, fun ⟨hd, m, h⟩ => hfit ?_⟩⟩, hfin _⟩
                          obtain ⟨rfl, rfl⟩ := node_long (unhide he') (unhide hn') h
                          exact h.fld.fits
                    · have j76 : ¬ (76 : Int) ≤ G.length := by omega
                      go_wp2_with fail
                      go_meet
                      case rel =>
                        refine ⟨⟨by rw [ever], .inl ⟨rfl, fun ⟨hd, m, h⟩ => h76 ?_⟩⟩, hfin0⟩
                        have hf := h.fld.fits
                        obtain ⟨rfl, _⟩ := node_long (k := (le24at G 73).toNat) (unhide he') (by
                          rcases h.fld.head with ⟨_, h0, h1⟩ | ⟨_, _, h1⟩
                          · have h1' : G[72]?.getD 0 = (m : Int) := h1
                            have := unhide he'
                            omega
                          · have h1' : le24at G 73 = (m : Int) := h1
                            omega) h
                        omega
                  · have he5 : G[72]?.getD 0 = 255 := by have := (unhide hx72').2; omega
                    have he' := hide he5
                    clear hs he
                    rw [he5] at c72
                    clear he5
                    by_cases h76 : 76 ≤ G.length
                    · have j76 : (76 : Int) ≤ G.length := by omega
                      go_wp2_with fail
                      go_meet
                      case rel => exact ⟨⟨by rw [ever], .inl ⟨rfl, fun ⟨hd, m, h⟩ => node_not (unhide he') h⟩⟩, hfin0⟩
                    · have j76 : ¬ (76 : Int) ≤ G.length := by omega
                      go_wp2_with fail
                      go_meet
                      case rel => exact ⟨⟨by rw [ever], .inl ⟨rfl, fun ⟨hd, m, h⟩ => node_not (unhide he') h⟩⟩, hfin0⟩
              · have j73 : ¬ (73 : Int) ≤ G.length := by omega
                have j76 : ¬ (76 : Int) ≤ G.length := by omega
                go_wp2_with fail
                go_meet
                case rel =>
                  refine ⟨⟨by rw [ever], .inl ⟨rfl, fun ⟨hd, n, h⟩ => h73 ?_⟩⟩, ⟨by rw [eid]; exact range_of_block rfl p4, by rw [eov]; exact range_of_block rfl p5, hO5.kept (Nat.le_refl _) fun _ _ => rfl, hB5.trans ⟨rfl, rfl, rfl, Nat.le_refl _, fun _ _ => rfl⟩, by have : (W5.drewN q6).heap.size = W5.heap.size := rfl; omega⟩⟩
                  have := h.fld.fits
                  rcases h.fld.head with ⟨rfl, _⟩ | ⟨rfl, _⟩ <;> omega
            · have j72 : ¬ (72 : Int) ≤ G.length := by omega
              go_wp2_with fail
              go_meet
              case rel =>
                have e3 : verOf G = 0 := if_neg fun h => h72 h.2
                exact ⟨⟨by rw [e3], .inl ⟨rfl, fun ⟨hd, n, h⟩ => h72 (by have := h.fld.fits; omega)⟩⟩, ⟨by rw [eid]; exact p4, by rw [eov]; exact p5, hO5, hB5, by omega⟩⟩
          · have j68 : ¬ (68 : Int) ≤ G.length := by omega
            go_wp2_with fail
            go_meet
            case rel =>
              have e2 : ovOf G = zs32 := if_neg fun h => h68 h.2
              have e3 : verOf G = 0 := if_neg fun h => h68 (by have := h.2; omega)
              exact ⟨⟨by rw [e3], .inl ⟨rfl, fun ⟨hd, n, h⟩ => h68 (by have := h.fld.fits; omega)⟩⟩, ⟨by rw [eid]; exact q4, by rw [e2]; exact q5, hO4, hB4, by omega⟩⟩
        · have hd : decide (Upto G 36) = false := decide_eq_false hU
          rw [hd]
          go_wp2_with fail
          go_meet
          case rel =>
            have e1 : idOf G = zs32 := if_neg hU
            have e2 : ovOf G = zs32 := if_neg fun h => hU ⟨h.1, by have := h.2; omega⟩
            have e3 : verOf G = 0 := if_neg fun h => hU ⟨h.1, by have := h.2; omega⟩
            exact ⟨⟨by rw [e3], .inl ⟨rfl, fun ⟨hd, n, h⟩ => hU ⟨h.con, by have := h.fld.fits; omega⟩⟩⟩, ⟨by rw [e1]; exact r4, by rw [e2]; exact r5, hO3, hB3, by omega⟩⟩
      case rest =>
        obtain ⟨hF, hK⟩ := hcut
        obtain ⟨e6, hres⟩ := hF
        subst e6
        rcases hres with ⟨e10, hno⟩ | ⟨hd, n, hN, e10, e7, e8, e9⟩
        · subst e10
          clear r4 r5 t4 t5 hO3 hB3 hz3
          have hS := RS.ofOwn wc _ G hK.own (by omega)
          have r4 := World.rangeAt_alloc hK.id (.cells #[.slice a1 G.length c1, .int .i64 0, .nilIface] 57)
          have r5 := World.rangeAt_alloc hK.ov (.cells #[.slice a1 G.length c1, .int .i64 0, .nilIface] 57)
          have hBc := hK.below.alloc (Nat.le_trans hz1 (Nat.le_trans (by omega) hK.size)) (.cells #[.slice a1 G.length c1, .int .i64 0, .nilIface] 57)
          have hsz := hK.size
          go_wp2_with fail
          refine (newReader_any _ _ _ _).mono ?_
          rintro e w4 ⟨rfl, hw4⟩
          have hz4 : w4.heap.size = wc.heap.size + 1 := by rw [hw4]; simp
          rw [← hw4] at hS r4 r5 hBc
          clear hw4 hK
          go_wp2_with fail
          refine (zzReadNode_fails _ _ G w4 hS hb hno).mono ?_
          rintro e w5 ⟨rfl, off', u, hS5, hg5⟩
          have eqi := eqArr (idOf G) (idOf_length G) (idOf_byts G hb)
          have eqo := eqArr (ovOf G) (ovOf_length G) (ovOf_byts G hb)
          have li : (bv (idOf G)).length = 32 := by rw [bv_length, idOf_length]
          have lo : (bv (ovOf G)).length = 32 := by rw [bv_length, ovOf_length]
          obtain ⟨xs, hxs⟩ : ∃ xs, idOf G = xs := ⟨_, rfl⟩
          obtain ⟨ys, hys⟩ : ∃ ys, ovOf G = ys := ⟨_, rfl⟩
          obtain ⟨ver, hver⟩ : ∃ ver, verOf G = ver := ⟨_, rfl⟩
          rw [hxs] at eqi li r4 ⊢
          rw [hys] at eqo lo r5 ⊢
          rw [hver]
          clear hxs hys hver
          have hz5 := hg5.size
          have r4' := range_of_block (hg5.block w1.heap.size (by omega) (by simp; omega)) r4
          have r5' := range_of_block (hg5.block (w1.heap.size + 1) (by omega) (by simp; omega)) r5
          have hB5 : Below w.heap.size w w5 := hBc.grown hg5 (by omega) fun k hk => by cases hk; omega
          clear r4 r5 hBc hg5 hS
          have li' := hide li
          have lo' := hide lo
          clear li lo
          have qz : (⟨xs, ys, ver, [], .slice none 0 0⟩ : Nd).cells.length = 66 := by simp only [Nd.cells, List.length_append, unhide li', unhide lo']; rfl
          have hone : (⟨xs, ys, ver, [], .slice none 0 0⟩ : Nd).cells.toArray.all (·.oneCell') = true := all_oneCell_toArray fun x hx => by
            simp only [Nd.cells, List.mem_append] at hx
            rcases hx with hx | hx | hx
            · exact bv_one _ x hx
            · exact bv_one _ x hx
            · simp at hx; rcases hx with rfl | rfl <;> rfl
          have t9 : (w5.alloc (.cells Tryf.zeroCells34 34)).there w5.heap.size 0 66 := there_alloc w5 zero34 34
          have r9 := World.rangeAt_setCells_same (w5.alloc (.cells Tryf.zeroCells34 34)) w5.heap.size 0 (⟨xs, ys, ver, [], .slice none 0 0⟩ : Nd).cells (by rw [qz]; exact t9)
          have hl5 := hS5.lt
          have ho5 := hS5.own
          have hS9 := (hS5.alloc (.cells Tryf.zeroCells34 34)).set 0 (⟨xs, ys, ver, [], .slice none 0 0⟩ : Nd).cells (b := w5.heap.size) (by omega) fun k hk => by have := (ho5 k hk).1; omega
          have hold : ∀ k, k < w5.heap.size → ((w5.alloc (.cells Tryf.zeroCells34 34)).setCells w5.heap.size 0 (⟨xs, ys, ver, [], .slice none 0 0⟩ : Nd).cells).heap[k]? = w5.heap[k]? := fun k hk => (setCells_other _ _ (by omega) _ _ _).trans (Below.heap_alloc _ _ _ hk)
          have hB9 : Below w.heap.size w ((w5.alloc (.cells Tryf.zeroCells34 34)).setCells w5.heap.size 0 (⟨xs, ys, ver, [], .slice none 0 0⟩ : Nd).cells) :=
            hB5.trans ⟨setCells_os _ _ _ _, setCells_tape _ _ _ _, setCells_output _ _ _ _, by rw [setCells_size]; simp, fun k hk => hold k (by omega)⟩
          have r4 := range_of_block (hold w1.heap.size (by omega)) r4'
          have r5 := range_of_block (hold (w1.heap.size + 1) (by omega)) r5'
          have hsq : (⟨xs, ys, ver, [], .slice none 0 0⟩ : Nd).cells.toArray.size = 66 := qz
          have qid := range_take r9
          have qov := range_take (range_drop r9)
          rw [unhide li', Nat.zero_add] at qov
          have qver := range_drop (range_drop r9) 0 (.int .i32 ver) rfl
          have qsv := range_drop (range_drop r9) 1 (.slice none 0 0) rfl
          rw [unhide li', unhide lo'] at qver qsv
          simp only [Nat.zero_add, Nat.add_zero] at qver qsv
          obtain ⟨cs, hcs⟩ : ∃ cs, (⟨xs, ys, ver, [], .slice none 0 0⟩ : Nd).cells = cs := ⟨_, rfl⟩
          rw [hcs] at qz hone hS9 hold hB9 r4 r5 hsq qid qov qver qsv ⊢
          clear hcs r9 hold r4' r5'
          have i31 : (Tryf.prog.info? 31).map (·.size) = some (bv xs).length := by rw [unhide li']; exact Tryf.size31
          have i25 : (Tryf.prog.info? 25).map (·.size) = some (bv xs).length := by rw [unhide li']; exact Tryf.size25
          have i32 : (Tryf.prog.info? 32).map (·.size) = some (bv ys).length := by rw [unhide lo']; exact Tryf.size32
          have i25' : (Tryf.prog.info? 25).map (·.size) = some (bv ys).length := by rw [unhide lo']; exact Tryf.size25
          go_wp2_with (refine wpList_store_mid rfl 34 (.tmp 15) (.tmp 108) rfl w5.heap.size 0 cs.toArray rfl rfl ?h1 ?h2 hone ?_; rotate_right)
          case h1 => rw [hsq]; exact t9
          case h2 => rw [hsq]; exact Tryf.size34
          generalize hw9 : (w5.alloc (.cells Tryf.zeroCells34 34)).setCells w5.heap.size 0 cs = w9 at *
          have hq := eqnil22
          have hq' := neqnil22
          refine (err_any _ _ _ hS9.c2 (.inr ⟨_, _, rfl⟩)).mono ?_
          rintro e w10 ⟨rfl, rfl⟩
          go_wp2_with (first
            | refine wpList_load_mid rfl 31 (.tmp 114) rfl w5.heap.size 0 rfl (bv xs) _ qid Tryf.underlying31 rfl i31 ?_
            | refine wpList_load_mid rfl 25 (.tmp 4) rfl w1.heap.size 0 rfl (bv xs) _ r4 Tryf.underlying25 rfl i25 ?_
            | refine wpList_load_want (by rfl) 32 (.tmp 119) rfl w5.heap.size 32 rfl (bv ys) _ qov Tryf.underlying32 rfl i32 ?_
            | refine wpList_load_want (by rfl) 25 (.tmp 5) rfl (w1.heap.size + 1) 0 rfl (bv ys) _ r5 Tryf.underlying25 rfl i25' ?_)
          refine (close_bad _ _ _ hS9.c2).mono ?_
          rintro e w11 ⟨rfl, qd, rfl⟩
          go_wp2
          go_ret
          exact ⟨rfl, hB9.trans ⟨rfl, rfl, rfl, Nat.le_refl _, fun _ _ => rfl⟩⟩
        · subst e10 e7 e8 e9
          clear r4 r5 t4 t5 hO3 hB3 hz3
          have hfit : 72 + hd + n + padN hd n ≤ G.length := by have := hN.fld.fits; omega
          have hU72 : Upto G 72 := ⟨hN.con, by omega⟩
          have hnd : ∀ u, ndAt G 0 hd n u = ⟨idOf G, ovOf G, verOf G, (G.drop (72 + hd)).take n, u⟩ := fun u => by
            have h36 : Upto G 36 := ⟨hN.con, by omega⟩
            have h68 : Upto G 68 := ⟨hN.con, by omega⟩
            rw [idOf, if_pos h36, ovOf, if_pos h68, verOf, if_pos hU72]
            simp [ndAt]
          obtain ⟨g, cap, ev, hcap⟩ : ∃ g cap, Value.slice a1 G.length c1 = .slice (some ⟨g, 0, none⟩) G.length cap ∧ G.length ≤ cap := by
            rcases hK.own with ⟨_, e⟩ | ⟨g, cap, e, _, _, h, _⟩
            · rw [e] at hfit; simp at hfit
            · exact ⟨g, cap, e, h⟩
          cases ev
          have hS := RS.ofOwn wc _ G hK.own (by omega)
          have r4 := World.rangeAt_alloc hK.id (.cells #[.slice (some ⟨g, 0, none⟩) G.length c1, .int .i64 0, .nilIface] 57)
          have r5 := World.rangeAt_alloc hK.ov (.cells #[.slice (some ⟨g, 0, none⟩) G.length c1, .int .i64 0, .nilIface] 57)
          have hBc := hK.below.alloc (Nat.le_trans hz1 (Nat.le_trans (by omega) hK.size)) (.cells #[.slice (some ⟨g, 0, none⟩) G.length c1, .int .i64 0, .nilIface] 57)
          have hsz := hK.size
          have hk13 := fun rb w (hS : RS w rb (.slice (some ⟨g, 0, none⟩) G.length c1) G 0 .nilIface) => zzReadNode_ok rb _ G 0 hd n w hS hb hN
          simp only [hnd, Nat.zero_add] at hk13
          obtain ⟨U, hU⟩ : ∃ U, 72 + hd + n + padN hd n = U := ⟨_, rfl⟩
          obtain ⟨f, hf⟩ : ∃ f, 72 + hd = f := ⟨_, rfl⟩
          have hfU : f + n ≤ U := by omega
          rw [hU] at hfit
          simp only [hU] at hk13
          simp only [hf] at hk13
          rw [hU, hf]
          clear hU hf hnd hU72 hN
          go_wp2_with fail
          refine (newReader_any _ _ _ _).mono ?_
          rintro e w4 ⟨rfl, hw4⟩
          have hz4 : w4.heap.size = wc.heap.size + 1 := by rw [hw4]; simp
          rw [← hw4] at hS r4 r5 hBc
          clear hw4 hK
          go_wp2_with fail
          refine (hk13 _ w4 hS).mono ?_
          rintro e w5 ⟨a5, c5, rfl, hS5, hg5, ho5, hn5⟩
          clear hk13
          have eqi := eqArr (idOf G) (idOf_length G) (idOf_byts G hb)
          have eqo := eqArr (ovOf G) (ovOf_length G) (ovOf_byts G hb)
          have li : (bv (idOf G)).length = 32 := by rw [bv_length, idOf_length]
          have lo : (bv (ovOf G)).length = 32 := by rw [bv_length, ovOf_length]
          obtain ⟨xs, hxs⟩ : ∃ xs, idOf G = xs := ⟨_, rfl⟩
          obtain ⟨ys, hys⟩ : ∃ ys, ovOf G = ys := ⟨_, rfl⟩
          obtain ⟨ver, hver⟩ : ∃ ver, verOf G = ver := ⟨_, rfl⟩
          obtain ⟨zs, hzs⟩ : ∃ zs, (G.drop f).take n = zs := ⟨_, rfl⟩
          rw [hxs] at eqi li r4 ⊢
          rw [hys] at eqo lo r5 ⊢
          rw [hzs] at ho5 ⊢
          rw [hver]
          clear hxs hys hver
          have hz5 := hg5.size
          have r4' := range_of_block (hg5.block w1.heap.size (by omega) (by simp; omega)) r4
          have r5' := range_of_block (hg5.block (w1.heap.size + 1) (by omega) (by simp; omega)) r5
          have hB5 : Below w.heap.size w w5 := hBc.grown hg5 (by omega) fun k hk => by cases hk; omega
          clear r4 r5 hBc hg5 hS
          have li' := hide li
          have lo' := hide lo
          clear li lo
          have qz : (⟨xs, ys, ver, zs, .slice a5 n c5⟩ : Nd).cells.length = 66 := by simp only [Nd.cells, List.length_append, unhide li', unhide lo']; rfl
          have hone : (⟨xs, ys, ver, zs, .slice a5 n c5⟩ : Nd).cells.toArray.all (·.oneCell') = true := all_oneCell_toArray fun x hx => by
            simp only [Nd.cells, List.mem_append] at hx
            rcases hx with hx | hx | hx
            · exact bv_one _ x hx
            · exact bv_one _ x hx
            · simp at hx; rcases hx with rfl | rfl <;> rfl
          have t9 : (w5.alloc (.cells Tryf.zeroCells34 34)).there w5.heap.size 0 66 := there_alloc w5 zero34 34
          have r9 := World.rangeAt_setCells_same (w5.alloc (.cells Tryf.zeroCells34 34)) w5.heap.size 0 (⟨xs, ys, ver, zs, .slice a5 n c5⟩ : Nd).cells (by rw [qz]; exact t9)
          have hl5 := hS5.lt
          have hw5 := hS5.own
          have hS9 := (hS5.alloc (.cells Tryf.zeroCells34 34)).set 0 (⟨xs, ys, ver, zs, .slice a5 n c5⟩ : Nd).cells (b := w5.heap.size) (by omega) fun k hk => by have := (hw5 k hk).1; omega
          have hold : ∀ k, k < w5.heap.size → ((w5.alloc (.cells Tryf.zeroCells34 34)).setCells w5.heap.size 0 (⟨xs, ys, ver, zs, .slice a5 n c5⟩ : Nd).cells).heap[k]? = w5.heap[k]? := fun k hk => (setCells_other _ _ (by omega) _ _ _).trans (Below.heap_alloc _ _ _ hk)
          have hB9 : Below w.heap.size w ((w5.alloc (.cells Tryf.zeroCells34 34)).setCells w5.heap.size 0 (⟨xs, ys, ver, zs, .slice a5 n c5⟩ : Nd).cells) :=
            hB5.trans ⟨setCells_os _ _ _ _, setCells_tape _ _ _ _, setCells_output _ _ _ _, by rw [setCells_size]; simp, fun k hk => hold k (by omega)⟩
          have r4 := range_of_block (hold w1.heap.size (by omega)) r4'
          have r5 := range_of_block (hold (w1.heap.size + 1) (by omega)) r5'
          have rz := ho5.rd.kept hold
          have hsq : (⟨xs, ys, ver, zs, .slice a5 n c5⟩ : Nd).cells.toArray.size = 66 := qz
          have qid := range_take r9
          have qov := range_take (range_drop r9)
          rw [unhide li', Nat.zero_add] at qov
          have qver := range_drop (range_drop r9) 0 (.int .i32 ver) rfl
          have qsv := range_drop (range_drop r9) 1 (.slice a5 n c5) rfl
          rw [unhide li', unhide lo'] at qver qsv
          simp only [Nat.zero_add, Nat.add_zero] at qver qsv
          obtain ⟨cs, hcs⟩ : ∃ cs, (⟨xs, ys, ver, zs, .slice a5 n c5⟩ : Nd).cells = cs := ⟨_, rfl⟩
          rw [hcs] at qz hone hS9 hold hB9 r4 r5 rz hsq qid qov qver qsv ⊢
          clear hcs r9 hold r4' r5' ho5
          have i31 : (Tryf.prog.info? 31).map (·.size) = some (bv xs).length := by rw [unhide li']; exact Tryf.size31
          have i25 : (Tryf.prog.info? 25).map (·.size) = some (bv xs).length := by rw [unhide li']; exact Tryf.size25
          have i32 : (Tryf.prog.info? 32).map (·.size) = some (bv ys).length := by rw [unhide lo']; exact Tryf.size32
          have i25' : (Tryf.prog.info? 25).map (·.size) = some (bv ys).length := by rw [unhide lo']; exact Tryf.size25
          go_wp2_with (refine wpList_store_mid rfl 34 (.tmp 15) (.tmp 108) rfl w5.heap.size 0 cs.toArray rfl rfl ?h1 ?h2 hone ?_; rotate_right)
          case h1 => rw [hsq]; exact t9
          case h2 => rw [hsq]; exact Tryf.size34
          generalize hw9 : (w5.alloc (.cells Tryf.zeroCells34 34)).setCells w5.heap.size 0 cs = w9 at *
          clear hw9 t9
          have hq := eqnil22
          have hq' := neqnil22
          have hfit' : (f : Int) + n ≤ c1 := by omega
          have hzs' := hide hzs
          clear hzs
          have hn5' := hide hn5
          clear hn5
          have rb9 := hS9.rd
          refine (err_any _ _ _ hS9.c2 (.inl rfl)).mono ?_
          rintro e w10 ⟨rfl, rfl⟩
          by_cases hn0 : n = 0
          · subst hn0
            obtain rfl : a5 = none := by
              cases a5 with
              | none => rfl
              | some a => have := unhide hn5'; simp [nilS] at this
            by_cases h4 : U + 4 ≤ G.length
            · have i4 : (4 : Int) ≤ (G.length : Int) - U := by omega
              go_wp2_with (first
                  | refine wpList_load_mid rfl 31 (.tmp 114) rfl w5.heap.size 0 rfl (bv xs) _ qid Tryf.underlying31 rfl i31 ?_
                  | refine wpList_load_mid rfl 25 (.tmp 4) rfl w1.heap.size 0 rfl (bv xs) _ r4 Tryf.underlying25 rfl i25 ?_
                  | refine wpList_load_want (by rfl) 32 (.tmp 119) rfl w5.heap.size 32 rfl (bv ys) _ qov Tryf.underlying32 rfl i32 ?_
                  | refine wpList_load_want (by rfl) 25 (.tmp 5) rfl (w1.heap.size + 1) 0 rfl (bv ys) _ r5 Tryf.underlying25 rfl i25' ?_)
              have hle := fun w (h : Rd w (.slice (some ⟨g, 0, none⟩) G.length c1) G) => le32_any (.slice (some ⟨g, 0, none⟩) G.length c1) G U w h hb (by omega) (by omega) (by omega)
              simp only [Int.toNat_natCast] at hle
              have hki := fun w (h : RS w wc.heap.size (.slice (some ⟨g, 0, none⟩) G.length c1) G U .nilIface) => int_ok wc.heap.size (.slice (some ⟨g, 0, none⟩) G.length c1) G U w h h4 hb
              have hcv := hide (u32_i32 _ (le32_range G U hb))
              obtain ⟨y, hy⟩ : ∃ y, wrap32 (le32at G U) = y := ⟨_, rfl⟩
              obtain ⟨x, hx⟩ : ∃ x, le32at G U = x := ⟨_, rfl⟩
              simp only [hy] at hki
              rw [hy, hx] at hcv
              simp only [hx] at hle
              clear hx hy
              refine (hki _ hS9).mono ?_
              rintro e w11 ⟨rfl, hS11, hg11⟩
              have hB11 := hB9.grown hg11 (by have := hB9.size; omega) fun k hk => by cases hk; omega
              clear hki
              go_wp2_with fail
              refine (err_any _ _ _ hS11.c2 (.inl rfl)).mono ?_
              rintro e w12 ⟨rfl, rfl⟩
              go_wp2_with fail
              refine (hle _ hS11.rd).mono ?_
              rintro e w13 ⟨rfl, q13, rfl⟩
              have hS13 := hS11.drewN q13
              have hB13 : Below w.heap.size w (w12.drewN q13) := hB11.trans ⟨rfl, rfl, rfl, Nat.le_refl _, fun _ _ => rfl⟩
              clear hle hS11 hB11
              generalize w12.drewN q13 = w14 at *
              rw [unhide hcv]
              clear hcv
              by_cases hx : U + 4 = G.length
              · have jU : ¬ (U : Int) + 4 < (G.length : Int) := by omega
                go_wp2_with fail
                refine (close_ok _ _ G _ (rs_end hx hS13)).mono ?_
                rintro e wz ⟨rfl, qz, rfl⟩
                go_wp2
                go_ret
                refine ⟨?_, hB13.trans ⟨rfl, rfl, rfl, Nat.le_refl _, fun _ _ => rfl⟩⟩
                first
                  | rfl
                  | (show Ending.returned (.bool (!decide ((U : Int) + 4 < (G.length : Int)))) = _
                     rw [decide_eq_false (by omega : ¬ (U : Int) + 4 < (G.length : Int))]
                     rfl)
              · have hlt : U + 4 < G.length := by have := hS13.le; omega
                have jU : (U : Int) + 4 < (G.length : Int) := by omega
                go_wp2_with fail
                refine (close_over _ _ _ _ _ G rfl _ hS13 hlt).mono ?_
                rintro e wz ⟨u, rfl, hgz⟩
                go_wp2
                go_ret
                exact ⟨rfl, hB13.grown hgz (by have := hB13.size; omega) fun k hk => by cases hk; omega⟩
            · have i4 : ¬ (4 : Int) ≤ (G.length : Int) - U := by omega
              by_cases hx : U = G.length
              · have jU : ¬ (U : Int) < (G.length : Int) := by omega
                go_wp2_with (first
                    | refine wpList_load_mid rfl 31 (.tmp 114) rfl w5.heap.size 0 rfl (bv xs) _ qid Tryf.underlying31 rfl i31 ?_
                    | refine wpList_load_mid rfl 25 (.tmp 4) rfl w1.heap.size 0 rfl (bv xs) _ r4 Tryf.underlying25 rfl i25 ?_
                    | refine wpList_load_want (by rfl) 32 (.tmp 119) rfl w5.heap.size 32 rfl (bv ys) _ qov Tryf.underlying32 rfl i32 ?_
                    | refine wpList_load_want (by rfl) 25 (.tmp 5) rfl (w1.heap.size + 1) 0 rfl (bv ys) _ r5 Tryf.underlying25 rfl i25' ?_)
                refine (close_ok _ _ G _ (rs_end hx hS9)).mono ?_
                rintro e wz ⟨rfl, qz, rfl⟩
                go_wp2
                go_ret
                refine ⟨?_, hB9.trans ⟨rfl, rfl, rfl, Nat.le_refl _, fun _ _ => rfl⟩⟩
                first
                  | rfl
                  | (show Ending.returned (.bool (!decide ((U : Int) < (G.length : Int)))) = _
                     rw [decide_eq_false (by omega : ¬ (U : Int) < (G.length : Int))]
                     rfl)
              · have hlt : U < G.length := by have := hS9.le; omega
                have jU : (U : Int) < (G.length : Int) := by omega
                go_wp2_with (first
                    | refine wpList_load_mid rfl 31 (.tmp 114) rfl w5.heap.size 0 rfl (bv xs) _ qid Tryf.underlying31 rfl i31 ?_
                    | refine wpList_load_mid rfl 25 (.tmp 4) rfl w1.heap.size 0 rfl (bv xs) _ r4 Tryf.underlying25 rfl i25 ?_
                    | refine wpList_load_want (by rfl) 32 (.tmp 119) rfl w5.heap.size 32 rfl (bv ys) _ qov Tryf.underlying32 rfl i32 ?_
                    | refine wpList_load_want (by rfl) 25 (.tmp 5) rfl (w1.heap.size + 1) 0 rfl (bv ys) _ r5 Tryf.underlying25 rfl i25' ?_)
                refine (close_over _ _ _ _ _ G rfl _ hS9 hlt).mono ?_
                rintro e wz ⟨u, rfl, hgz⟩
                go_wp2
                go_ret
                exact ⟨rfl, hB9.grown hgz (by have := hB9.size; omega) fun k hk => by cases hk; omega⟩
          · obtain ⟨a0, rfl⟩ : ∃ a0, a5 = some a0 := by
              cases a5 with
              | none => have := unhide hn5'; simp [nilS, hn0] at this
              | some a => exact ⟨a, rfl⟩
            have jn0 : ¬ (n : Int) = 0 := by omega
            have hzl : zs.length = n := by rw [← unhide hzs']; simp; omega
            have rz2 : Rd w10 (.slice (some ⟨g, f, none⟩) n (c1 - f)) zs := by
              refine ⟨some ⟨g, f, none⟩, c1 - f, by rw [hzl], fun _ => ⟨g, f, rfl, ?_⟩⟩
              obtain ⟨_, _, ea, hr⟩ := rb9
              cases ea
              obtain ⟨_, _, eb, hr⟩ := hr (by omega)
              cases eb
              have e1 : bv G = bv (G.take f) ++ (bv ((G.drop f).take n) ++ bv ((G.drop f).drop n)) := by
                rw [← bv_append, ← bv_append, List.take_append_drop, List.take_append_drop]
              rw [e1] at hr
              have k5 := range_take (range_drop hr)
              rw [bv_length, List.length_take, Nat.min_eq_left (by omega), Nat.zero_add, unhide hzs'] at k5
              exact k5
            have hc15 : Hid (∀ r : Nat, Calls Tryf.prog 15 #[.slice (some a0) n c5, .slice (some ⟨g, f, none⟩) n (c1 - f)] (w10.drewN r) fun e w' => e = .returned (.bool true) ∧ ∃ m, w' = (w10.drewN r).drewN m) := fun r =>
              eqb_any _ _ zs _ (rz.drewN r) (rz2.drewN r) (by omega)
            clear hzl
            go_wp2_with (first
                | refine wpList_load_mid rfl 31 (.tmp 114) rfl w5.heap.size 0 rfl (bv xs) _ qid Tryf.underlying31 rfl i31 ?_
                | refine wpList_load_mid rfl 25 (.tmp 4) rfl w1.heap.size 0 rfl (bv xs) _ r4 Tryf.underlying25 rfl i25 ?_
                | refine wpList_load_want (by rfl) 32 (.tmp 119) rfl w5.heap.size 32 rfl (bv ys) _ qov Tryf.underlying32 rfl i32 ?_
                | refine wpList_load_want (by rfl) 25 (.tmp 5) rfl (w1.heap.size + 1) 0 rfl (bv ys) _ r5 Tryf.underlying25 rfl i25' ?_)
            go_quiet ((go_at_call 15; exact Calls.quiet_of (unhide hc15 _)))
            have hS15 := hS9.drewN nq
            have hB15 : Below w.heap.size w (w10.drewN nq) := hB9.trans ⟨rfl, rfl, rfl, Nat.le_refl _, fun _ _ => rfl⟩
            clear hc15 rz rz2 qver qov qid r5 r4 qsv rb9 hS9 hB9
            generalize w10.drewN nq = w15 at *
            by_cases h4 : U + 4 ≤ G.length
            · have i4 : (4 : Int) ≤ (G.length : Int) - U := by omega
              go_wp2_with fail
              have hle := fun w (h : Rd w (.slice (some ⟨g, 0, none⟩) G.length c1) G) => le32_any (.slice (some ⟨g, 0, none⟩) G.length c1) G U w h hb (by omega) (by omega) (by omega)
              simp only [Int.toNat_natCast] at hle
              have hki := fun w (h : RS w wc.heap.size (.slice (some ⟨g, 0, none⟩) G.length c1) G U .nilIface) => int_ok wc.heap.size (.slice (some ⟨g, 0, none⟩) G.length c1) G U w h h4 hb
              have hcv := hide (u32_i32 _ (le32_range G U hb))
              obtain ⟨y, hy⟩ : ∃ y, wrap32 (le32at G U) = y := ⟨_, rfl⟩
              obtain ⟨x, hx⟩ : ∃ x, le32at G U = x := ⟨_, rfl⟩
              simp only [hy] at hki
              rw [hy, hx] at hcv
              simp only [hx] at hle
              clear hx hy
              refine (hki _ hS15).mono ?_
              rintro e w11 ⟨rfl, hS11, hg11⟩
              have hB11 := hB15.grown hg11 (by have := hB15.size; omega) fun k hk => by cases hk; omega
              clear hki
              go_wp2_with fail
              refine (err_any _ _ _ hS11.c2 (.inl rfl)).mono ?_
              rintro e w12 ⟨rfl, rfl⟩
              go_wp2_with fail
              refine (hle _ hS11.rd).mono ?_
              rintro e w13 ⟨rfl, q13, rfl⟩
              have hS13 := hS11.drewN q13
              have hB13 : Below w.heap.size w (w12.drewN q13) := hB11.trans ⟨rfl, rfl, rfl, Nat.le_refl _, fun _ _ => rfl⟩
              clear hle hS11 hB11
              generalize w12.drewN q13 = w14 at *
              rw [unhide hcv]
              clear hcv
              by_cases hx : U + 4 = G.length
              · have jU : ¬ (U : Int) + 4 < (G.length : Int) := by omega
                go_wp2_with fail
                refine (close_ok _ _ G _ (rs_end hx hS13)).mono ?_
                rintro e wz ⟨rfl, qz, rfl⟩
                go_wp2
                go_ret
                refine ⟨?_, hB13.trans ⟨rfl, rfl, rfl, Nat.le_refl _, fun _ _ => rfl⟩⟩
                first
                  | rfl
                  | (show Ending.returned (.bool (!decide ((U : Int) + 4 < (G.length : Int)))) = _
                     rw [decide_eq_false (by omega : ¬ (U : Int) + 4 < (G.length : Int))]
                     rfl)
              · have hlt : U + 4 < G.length := by have := hS13.le; omega
                have jU : (U : Int) + 4 < (G.length : Int) := by omega
                go_wp2_with fail
                refine (close_over _ _ _ _ _ G rfl _ hS13 hlt).mono ?_
                rintro e wz ⟨u, rfl, hgz⟩
                go_wp2
                go_ret
                exact ⟨rfl, hB13.grown hgz (by have := hB13.size; omega) fun k hk => by cases hk; omega⟩
            · have i4 : ¬ (4 : Int) ≤ (G.length : Int) - U := by omega
              by_cases hx : U = G.length
              · have jU : ¬ (U : Int) < (G.length : Int) := by omega
                go_wp2_with fail
                refine (close_ok _ _ G _ (rs_end hx hS15)).mono ?_
                rintro e wz ⟨rfl, qz, rfl⟩
                go_wp2
                go_ret
                refine ⟨?_, hB15.trans ⟨rfl, rfl, rfl, Nat.le_refl _, fun _ _ => rfl⟩⟩
                first
                  | rfl
                  | (show Ending.returned (.bool (!decide ((U : Int) < (G.length : Int)))) = _
                     rw [decide_eq_false (by omega : ¬ (U : Int) < (G.length : Int))]
                     rfl)
              · have hlt : U < G.length := by have := hS15.le; omega
                have jU : (U : Int) < (G.length : Int) := by omega
                go_wp2_with fail
                refine (close_over _ _ _ _ _ G rfl _ hS15 hlt).mono ?_
                rintro e wz ⟨u, rfl, hgz⟩
                go_wp2
                go_ret
                exact ⟨rfl, hB15.grown hgz (by have := hB15.size; omega) fun k hk => by cases hk; omega⟩
end Go.Proofs.Qxb6605704aFmt
