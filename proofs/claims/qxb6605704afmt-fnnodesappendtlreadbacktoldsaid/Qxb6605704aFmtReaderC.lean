/-
  THE READER: the walks of Expect (27) and Count (28) where nothing fails.
-/
import Derived.Test.Qxb6605704aFmtReaderI
namespace Go.Proofs.Qxb6605704aFmt
open Go.RowKit

set_option maxHeartbeats 1600000 in
theorem expect_ok (rb : Nat) (v : Value) (G : List Int) (off : Nat) (x : Int) (s : ByteArray) (w : World) (h : RS w rb v G off .nilIface) (hl : off + 4 ≤ G.length) (hb : Byts G) (hx : le32at G off = x) :
    Calls Tryf.prog 27 #[.pointer (some ⟨rb, 0, none⟩), .int .u32 x, .string s] w fun e w' => e = .returned (.bool true) ∧ RS w' rb v G (off + 4) .nilIface ∧ w.grownBy w' (some rb) := by
  have hc := con_ok rb v G off w h hl hb
  rw [hx] at hc
  clear hx
  go_enter Tryf.func27, Tryf.ntmps27
  go_wp2_with fail
  refine hc.mono ?_
  rintro e w1 ⟨rfl, hS, hg⟩
  have h2 := hS.c2
  go_wp2
  go_ret
  exact ⟨rfl, hS, hg⟩

set_option maxHeartbeats 1600000 in
theorem count_ok (rb : Nat) (v : Value) (G : List Int) (off N : Nat) (w : World) (h : RS w rb v G off .nilIface) (hl : off + 4 ≤ G.length) (hb : Byts G) (hx : wrap32 (le32at G off) = (N : Int)) (hN : off + 4 + 76 * N ≤ G.length) (hN2 : N ≤ 1048576) :
    Calls Tryf.prog 28 #[.pointer (some ⟨rb, 0, none⟩), .int .i64 76] w fun e w' => e = .returned (.int .i64 N) ∧ RS w' rb v G (off + 4) .nilIface ∧ w.grownBy w' (some rb) := by
  have hc := int_ok rb v G off w h hl hb
  rw [hx] at hc
  clear hx
  have hsm := h.small
  go_enter Tryf.func28, Tryf.ntmps28
  go_wp2_with fail
  refine hc.mono ?_
  rintro e w1 ⟨rfl, hS, hg⟩
  obtain ⟨a, c, e⟩ : ∃ a c, v = .slice a G.length c := by
    rcases hS.dat with ⟨rfl, rfl⟩ | ⟨b, o, c, rfl, _⟩
    · exact ⟨_, _, rfl⟩
    · exact ⟨_, _, rfl⟩
  have h0 := hS.c0
  have h1 := hS.c1
  have h2 := hS.c2
  rw [e] at h0
  have j1 : ¬ (N : Int) < 0 := by omega
  have j2 : ¬ ((G.length : Int) - (off + 4 : Nat)) < (N : Int) * 76 := by omega
  have hS' := hide hS
  have e' := hide e
  clear hS e
  go_wp2
  go_quiet (fail)
  go_wp2
  go_ret
  exact ⟨rfl, (unhide hS').drewN _, grown_trans hg (grown_drewN _ _ _)⟩
end Go.Proofs.Qxb6605704aFmt
