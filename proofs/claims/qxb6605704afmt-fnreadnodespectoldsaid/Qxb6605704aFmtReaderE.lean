/-
  THE READER: Bytes (43) where it fails on its way.
-/
import Derived.Test.Qxb6605704aFmtReaderD
namespace Go.Proofs.Qxb6605704aFmt
open Go.RowKit

theorem next_posb (rb : Nat) (v : Value) (G : List Int) (off n : Nat) (m : Int) (w : World) (hm : m = (n : Int)) (h : RS w rb v G off .nilIface) (hl : off + n ≤ G.length) (hn : n ≠ 0) :
    Calls Tryf.prog 34 #[.pointer (some ⟨rb, 0, none⟩), .int .i64 m] w fun e w' => ∃ (b o c : Nat), e = .returned (.slice (some ⟨b, o, none⟩) n c) ∧ RS w' rb v G (off + n) .nilIface ∧ w.grownBy w' (some rb) ∧ Rd w' (.slice (some ⟨b, o, none⟩) n c) ((G.drop off).take n) ∧ b ≠ rb := by
  refine (next_ok' rb v G off n m w hm h hl (by omega)).mono ?_
  rintro e w' ⟨a, c, rfl, hS, hg, hu, hb⟩
  have hu' := hu
  have hlen : ((G.drop off).take n).length = n := by simp; omega
  obtain ⟨a', c', e, ha⟩ := hu
  obtain ⟨b, o, rfl, _⟩ := ha (by omega)
  rw [hlen] at e
  cases e
  exact ⟨b, o, c, rfl, hS, hg, hu', hb b rfl⟩

set_option maxHeartbeats 1600000 in
theorem bytes_short_fails (rb : Nat) (v : Value) (G : List Int) (off n : Nat) (w : World) (h : RS w rb v G off .nilIface) (hx : G[off]?.getD 0 = (n : Int)) (hn : n < 254) (h1 : off + 1 ≤ G.length) (hl : G.length < off + 1 + n + padN 1 n) :
    Calls Tryf.prog 43 #[.pointer (some ⟨rb, 0, none⟩)] w fun e w' => e = .returned (.slice none 0 0) ∧ ∃ off' u, RS w' rb v G off' (.iface 84 u) ∧ w.grownBy w' (some rb) := by
  have hq := eqnil22
  have i1 : (n : Int) < 254 := by omega
  have hx' := hide hx
  have hsm := h.small
  clear hx
  go_enter Tryf.func43, Tryf.ntmps43
  go_wp2_with fail
  refine (next_pos' rb v G off 1 1 _ ?_ ?_ ?_ ?_).mono ?_
  · rfl
  · exact h
  · omega
  · decide
  rintro e w1 ⟨b, o, c, rfl, hS, hg, hu⟩
  have hc0 := one_cell hu 0 (by decide) (by omega)
  rw [Nat.add_zero, Nat.add_zero, unhide hx'] at hc0
  clear hu

  by_cases hl1 : off + 1 + n ≤ G.length
  · go_wp2_with fail
    refine (next_ok' rb v G (off + 1) n n _ ?_ ?_ ?_ ?_).mono ?_
    · rfl
    · exact hS
    · omega
    · omega
    rintro e w2 ⟨a2, c2, rfl, hS2, hg2, hu2, hb2⟩
    go_wp2_with fail
    refine (next_nil' rb v G (off + 1 + n) (padN 1 n) _ .nilIface _ ?_ hS2 (.inr ⟨rfl, by omega⟩) (by unfold padN; omega)).mono ?_
    · unfold padN; omega
    rintro e w3 ⟨rfl, u, hS3, hg3⟩
    have h2 := hS3.c2
    go_wp2
    go_ret
    exact ⟨rfl, _, u, hS3, grown_trans hg (grown_trans hg2 hg3)⟩
  · go_wp2_with fail
    refine (next_nil' rb v G (off + 1) n n .nilIface _ rfl hS (.inr ⟨rfl, by omega⟩) (by omega)).mono ?_
    rintro e w2 ⟨rfl, u, hS2, hg2⟩
    go_wp2_with fail
    refine (next_nil' rb v G (off + 1) (padN 1 n) _ _ _ ?_ hS2 (Dead.bad u) (by unfold padN; omega)).mono ?_
    · unfold padN; omega
    rintro e w3 ⟨rfl, u3, hS3, hg3⟩
    have h2 := hS3.c2
    go_wp2
    go_ret
    exact ⟨rfl, _, u3, hS3, grown_trans hg (grown_trans hg2 hg3)⟩

set_option maxHeartbeats 1600000 in
theorem bytes_long_fails (rb : Nat) (v : Value) (G : List Int) (off n : Nat) (w : World) (h : RS w rb v G off .nilIface) (hb : Byts G) (hx : G[off]?.getD 0 = 254) (hx2 : le24at G (off + 1) = (n : Int)) (h1 : off + 4 ≤ G.length) (hl : G.length < off + 4 + n + padN 4 n) :
    Calls Tryf.prog 43 #[.pointer (some ⟨rb, 0, none⟩)] w fun e w' => e = .returned (.slice none 0 0) ∧ ∃ off' u, RS w' rb v G off' (.iface 84 u) ∧ w.grownBy w' (some rb) := by
  have hq := eqnil22
  have hsm := h.small
  have j0 := hb.get (off + 1)
  have j1 := hb.get (off + 1 + 1)
  have j2 := hb.get (off + 1 + 2)
  have hn24 : n < 16777216 := by unfold le24at at hx2; omega
  have hs := hide ((le_sum3 _ _ _ (hb.get (off + 1)) (hb.get (off + 1 + 1)) (hb.get (off + 1 + 2))).trans hx2)
  have hx' := hide hx
  clear hx hx2
  go_enter Tryf.func43, Tryf.ntmps43
  go_wp2_with fail
  refine (next_pos' rb v G off 1 1 _ ?_ ?_ ?_ ?_).mono ?_
  · rfl
  · exact h
  · omega
  · decide
  rintro e w1 ⟨b, o, c, rfl, hS, hg, hu⟩
  have hc0 := one_cell hu 0 (by decide) (by omega)
  rw [Nat.add_zero, Nat.add_zero, unhide hx'] at hc0
  clear hu
  go_wp2_with fail
  refine (next_pos' rb v G (off + 1) 3 3 _ ?_ ?_ ?_ ?_).mono ?_
  · rfl
  · exact hS
  · omega
  · decide
  rintro e wq ⟨bq, oq, cq, rfl, hSq, hgq, huq⟩
  have d0 := one_cell huq 0 (by decide) (by omega)
  have d1 := one_cell huq 1 (by decide) (by omega)
  have d2 := one_cell huq 2 (by decide) (by omega)
  clear hc0 huq
  simp only [Nat.add_zero] at d0
  generalize G[off + 1]?.getD 0 = y0 at *
  generalize G[off + 1 + 1]?.getD 0 = y1 at *
  generalize G[off + 1 + 2]?.getD 0 = y2 at *
  have hSr : RS wq rb v G (off + 4) .nilIface := hSq
  have hgr := grown_trans hg hgq
  go_wp2
  go_quiet (fail)
  go_wp2_with fail
  rw [unhide hs]

  by_cases hl1 : off + 4 + n ≤ G.length
  · go_wp2_with fail
    refine (next_ok' rb v G (off + 4) n n _ ?_ ?_ ?_ ?_).mono ?_
    · rfl
    · exact (hSr.drewN _)
    · omega
    · omega
    rintro e w2 ⟨a2, c2, rfl, hS2, hg2, hu2, hb2⟩
    go_wp2_with fail
    refine (next_nil' rb v G (off + 4 + n) (padN 4 n) _ .nilIface _ ?_ hS2 (.inr ⟨rfl, by omega⟩) (by unfold padN; omega)).mono ?_
    · unfold padN; omega
    rintro e w3 ⟨rfl, u, hS3, hg3⟩
    have h2 := hS3.c2
    go_wp2
    go_ret
    exact ⟨rfl, _, u, hS3, grown_trans (grown_trans hgr (grown_drewN _ _ nq)) (grown_trans hg2 hg3)⟩
  · refine (next_nil' rb v G (off + 4) n n .nilIface _ rfl (hSr.drewN _) (.inr ⟨rfl, by omega⟩) (by omega)).mono ?_
    rintro e w2 ⟨rfl, u, hS2, hg2⟩
    go_wp2_with fail
    refine (next_nil' rb v G (off + 4) (padN 4 n) _ _ _ ?_ hS2 (Dead.bad u) (by unfold padN; omega)).mono ?_
    · unfold padN; omega
    rintro e w3 ⟨rfl, u3, hS3, hg3⟩
    have h2 := hS3.c2
    go_wp2
    go_ret
    exact ⟨rfl, _, u3, hS3, grown_trans (grown_trans hgr (grown_drewN _ _ nq)) (grown_trans hg2 hg3)⟩

set_option maxHeartbeats 1600000 in
theorem bytes_head_fails (rb : Nat) (v : Value) (G : List Int) (off : Nat) (w : World) (h : RS w rb v G off .nilIface) (hx : G[off]?.getD 0 = 254) (h1 : off + 1 ≤ G.length) (hl : G.length < off + 4) :
    Calls Tryf.prog 43 #[.pointer (some ⟨rb, 0, none⟩)] w fun e w' => e = .returned (.slice none 0 0) ∧ ∃ off' u, RS w' rb v G off' (.iface 84 u) ∧ w.grownBy w' (some rb) := by
  have hq := eqnil22
  have hsm := h.small
  have hx' := hide hx
  clear hx
  go_enter Tryf.func43, Tryf.ntmps43
  go_wp2_with fail
  refine (next_pos' rb v G off 1 1 _ ?_ ?_ ?_ ?_).mono ?_
  · rfl
  · exact h
  · omega
  · decide
  rintro e w1 ⟨b, o, c, rfl, hS, hg, hu⟩
  have hc0 := one_cell hu 0 (by decide) (by omega)
  rw [Nat.add_zero, Nat.add_zero, unhide hx'] at hc0
  clear hu
  go_wp2_with fail
  refine (next_nil' rb v G (off + 1) 3 3 .nilIface _ rfl hS (.inr ⟨rfl, by omega⟩) (by decide)).mono ?_
  rintro e w2 ⟨rfl, u, hS2, hg2⟩
  go_wp2
  go_ret
  exact ⟨rfl, _, u, hS2, grown_trans hg hg2⟩

set_option maxHeartbeats 1600000 in
theorem bytes_255_fails (rb : Nat) (v : Value) (G : List Int) (off : Nat) (w : World) (h : RS w rb v G off .nilIface) (hx : G[off]?.getD 0 = 255) (h1 : off + 1 ≤ G.length) :
    Calls Tryf.prog 43 #[.pointer (some ⟨rb, 0, none⟩)] w fun e w' => e = .returned (.slice none 0 0) ∧ ∃ off' u, RS w' rb v G off' (.iface 84 u) ∧ w.grownBy w' (some rb) := by
  have hq := eqnil22
  have hsm := h.small
  have hx' := hide hx
  clear hx
  go_enter Tryf.func43, Tryf.ntmps43
  go_wp2_with fail
  refine (next_posb rb v G off 1 1 _ ?_ ?_ ?_ ?_).mono ?_
  · rfl
  · exact h
  · omega
  · decide
  rintro e w1 ⟨b, o, c, rfl, hS, hg, hu, hne⟩
  have hc0 := one_cell hu 0 (by decide) (by omega)
  rw [Nat.add_zero, Nat.add_zero, unhide hx'] at hc0
  clear hu
  have g1 := hS.c1
  have gf := hS.f1
  have hS' := hS.move off (by omega)
  have hgm := grown_trans hg (grown_set w1 rb 1 (.int .i64 off))
  go_wp2_with fail
  refine (fail_ok rb v G off _ _ _ (hS'.alloc _) (sp_byts 255 _ _ (by go_simp))).mono ?_
  rintro e w2 ⟨rfl, u, hS2, hg2⟩
  clear g1 gf hc0 hS hS'
  go_wp2
  go_ret
  exact ⟨rfl, _, u, hS2, grown_trans (grown_trans hgm (grown_alloc _ _ _)) hg2⟩

/-- Bytes, where no field lies: nil, and the error is set. -/
theorem bytes_fails (rb : Nat) (v : Value) (G : List Int) (off : Nat) (w : World) (h : RS w rb v G off .nilIface) (hb : Byts G) (hno : ¬ ∃ hd n, FieldAt G off hd n) :
    Calls Tryf.prog 43 #[.pointer (some ⟨rb, 0, none⟩)] w fun e w' => e = .returned (.slice none 0 0) ∧ ∃ off' u, RS w' rb v G off' (.iface 84 u) ∧ w.grownBy w' (some rb) := by
  have hx0 := hb.get off
  by_cases h1 : off + 1 ≤ G.length
  · by_cases c1 : G[off]?.getD 0 < 254
    · obtain ⟨n, hn⟩ := Int.eq_ofNat_of_zero_le hx0.1
      refine bytes_short_fails rb v G off n w h hn (by omega) h1 ?_
      apply Nat.lt_of_not_le
      intro hle
      exact hno ⟨1, n, .inl ⟨rfl, by omega, hn⟩, hle⟩
    · by_cases c2 : G[off]?.getD 0 = 254
      · by_cases h4 : off + 4 ≤ G.length
        · have b1 := hb.get (off + 1)
          have b2 := hb.get (off + 1 + 1)
          have b3 := hb.get (off + 1 + 2)
          obtain ⟨n, hn⟩ := Int.eq_ofNat_of_zero_le (show 0 ≤ le24at G (off + 1) by unfold le24at; omega)
          refine bytes_long_fails rb v G off n w h hb c2 hn h4 ?_
          apply Nat.lt_of_not_le
          intro hle
          exact hno ⟨4, n, .inr ⟨rfl, c2, hn⟩, hle⟩
        · exact bytes_head_fails rb v G off w h c2 h1 (by omega)
      · exact bytes_255_fails rb v G off w h (by omega) h1
  · refine (bytes_nil rb v G off .nilIface w h (.inr ⟨rfl, by omega⟩)).mono ?_
    rintro e w' ⟨rfl, u, hS, hg⟩
    exact ⟨rfl, off, u, hS, hg⟩
end Go.Proofs.Qxb6605704aFmt
