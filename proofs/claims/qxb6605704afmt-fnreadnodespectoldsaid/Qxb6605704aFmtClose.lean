/-
  THE READER: Close (17) where the error is set, and where bytes are left over.
-/
import Derived.Test.Qxb6605704aFmtFail
namespace Go.Proofs.Qxb6605704aFmt
open Go.RowKit

set_option maxHeartbeats 800000 in
theorem close_bad (rb : Nat) (u : Value) (w : World) (h : w.cell? ⟨rb, 2, none⟩ = some (.iface 84 u)) :
    Calls Tryf.prog 17 #[.pointer (some ⟨rb, 0, none⟩)] w fun e w' => e = .returned (.iface 84 u) ∧ ∃ q, w' = w.drewN q := by
  go_enter Tryf.func17, Tryf.ntmps17
  go_wp2
  go_quiet (fail)
  go_wp2
  go_ret
  exact ⟨rfl, _, rfl⟩

set_option maxHeartbeats 1600000 in
theorem close_over (a : Option Addr) (c off len rb : Nat) (G : List Int) (hG : G.length = len) (w : World) (h : RS w rb (.slice a len c) G off .nilIface) (hl : off < len) :
    Calls Tryf.prog 17 #[.pointer (some ⟨rb, 0, none⟩)] w fun e w' => ∃ u, e = .returned (.iface 84 u) ∧ w.grownBy w' (some rb) := by
  have h0 := h.c0
  have h1 := h.c1
  have h2 := h.c2
  have hsm := h.small
  rw [hG] at hsm
  have i1 : (off : Int) < len := by omega
  have h' := hide h
  have hG' := hide hG
  clear h hG
  go_enter Tryf.func17, Tryf.ntmps17
  go_wp2
  go_quiet (fail)
  go_wp2
  go_region_with (go_at_call 36; refine (fail_ok rb (.slice a len c) G off _ _ _ (((unhide h').drewN _).alloc _) (spn_over _ (w.drewN _))).mono ?_; rintro e w1 ⟨rfl, u, hS, hg⟩; have h3 := hS.c2)
  all_goals
    go_wp2
    go_ret
    exact ⟨u, rfl, grown_trans (grown_trans (grown_drewN w _ _) (grown_alloc _ _ _)) hg⟩
end Go.Proofs.Qxb6605704aFmt
