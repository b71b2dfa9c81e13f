/-
  THE READER WHERE IT GIVES NOTHING: the error is set, or the bytes are not there: next (34), Int (16), Constructor (40), Int256 (42), Bytes (43).
-/
import Derived.Test.Qxb6605704aFmtFail
import Derived.Test.Qxb6605704aFmtReaderN
namespace Go.Proofs.Qxb6605704aFmt
open Go.RowKit

/-- next(n) will give nil. -/
def Dead (G : List Int) (off n : Nat) (err : Value) : Prop := (∃ u, err = .iface 84 u) ∨ (err = .nilIface ∧ G.length < off + n)

theorem Dead.bad {G : List Int} {off n : Nat} (u : Value) : Dead G off n (.iface 84 u) := .inl ⟨u, rfl⟩

theorem next_nil (rb : Nat) (v : Value) (G : List Int) (off n : Nat) (err : Value) (w : World) (h : RS w rb v G off err) (hd : Dead G off n err) (hn : n ≤ 1099511627776) :
    Calls Tryf.prog 34 #[.pointer (some ⟨rb, 0, none⟩), .int .i64 n] w fun e w' => e = .returned (.slice none 0 0) ∧ ∃ u, RS w' rb v G off (.iface 84 u) ∧ w.grownBy w' (some rb) := by
  rcases hd with ⟨u, rfl⟩ | ⟨rfl, hl⟩
  · refine (next_bad rb u n w h.c2).mono ?_
    rintro e w' ⟨rfl, rfl⟩
    exact ⟨rfl, u, h, grownBy_refl _ _⟩
  · obtain ⟨a, c, rfl⟩ : ∃ a c, v = .slice a G.length c := by
      rcases h.dat with ⟨rfl, rfl⟩ | ⟨b, o, c, rfl, _⟩
      · exact ⟨_, _, rfl⟩
      · exact ⟨_, _, rfl⟩
    exact next_short a c n off G.length rb G rfl w h hl hn

theorem next_nil' (rb : Nat) (v : Value) (G : List Int) (off n : Nat) (m : Int) (err : Value) (w : World) (hm : m = (n : Int)) (h : RS w rb v G off err) (hd : Dead G off n err) (hn : n ≤ 1099511627776) :
    Calls Tryf.prog 34 #[.pointer (some ⟨rb, 0, none⟩), .int .i64 m] w fun e w' => e = .returned (.slice none 0 0) ∧ ∃ u, RS w' rb v G off (.iface 84 u) ∧ w.grownBy w' (some rb) := by
  subst hm
  exact next_nil rb v G off n err w h hd hn

theorem int_nil (rb : Nat) (v : Value) (G : List Int) (off : Nat) (err : Value) (w : World) (h : RS w rb v G off err) (hd : Dead G off 4 err) :
    Calls Tryf.prog 16 #[.pointer (some ⟨rb, 0, none⟩)] w fun e w' => e = .returned (.int .i32 0) ∧ ∃ u, RS w' rb v G off (.iface 84 u) ∧ w.grownBy w' (some rb) := by
  have hq := eqnil22
  go_enter Tryf.func16, Tryf.ntmps16
  go_wp2_with fail
  refine (next_nil' rb v G off 4 4 err _ rfl h hd (by decide)).mono ?_
  rintro e w1 ⟨rfl, u, hS, hg⟩
  go_wp2
  go_ret
  exact ⟨rfl, u, hS, hg⟩

theorem con_nil (rb : Nat) (v : Value) (G : List Int) (off : Nat) (err : Value) (w : World) (h : RS w rb v G off err) (hd : Dead G off 4 err) :
    Calls Tryf.prog 40 #[.pointer (some ⟨rb, 0, none⟩)] w fun e w' => e = .returned (.int .u32 0) ∧ ∃ u, RS w' rb v G off (.iface 84 u) ∧ w.grownBy w' (some rb) := by
  go_enter Tryf.func40, Tryf.ntmps40
  go_wp2_with fail
  refine (int_nil rb v G off err _ h hd).mono ?_
  rintro e w1 ⟨rfl, u, hS, hg⟩
  go_wp2
  go_ret
  exact ⟨rfl, u, hS, hg⟩

/-- Thirty-two zeros. -/
def zs32 : List Int := List.replicate 32 0

theorem copy_nil (w : World) (p : Nat) : (Builtin.copy_ #[22, 22] 3 #[.slice (some ⟨p, 0, none⟩) 32 32, .slice none 0 0]).run Tryf.prog w = .ok (.int .i64 0) w :=
  run_copy_none (P := Tryf.prog) w 22 22 3 5 _ _ 32 32 0 0 Tryf.underlying22 Tryf.size5 rfl

set_option maxHeartbeats 800000 in
theorem int256_nil (rb : Nat) (v : Value) (G : List Int) (off : Nat) (err : Value) (w : World) (h : RS w rb v G off err) (hd : Dead G off 32 err) :
    Calls Tryf.prog 42 #[.pointer (some ⟨rb, 0, none⟩)] w fun e w' => e = .returned (.agg (bv zs32).toArray) ∧ ∃ u, RS w' rb v G off (.iface 84 u) ∧ w.grownBy w' (some rb) := by
  have hlt := h.lt
  have hcp := copy_nil
  have hk := fun q => next_nil' rb v G off 32 32 err ((w.alloc (.cells (bv zs32).toArray 25)).drewN q) rfl ((h.alloc _).drewN q) hd (by decide)
  go_enter Tryf.func42, Tryf.ntmps42
  go_wp2
  go_region_with (go_at_call 34; refine (hk _).mono ?_; rintro e w1 ⟨rfl, u, hS, hg⟩)
  have hr : w1.rangeAt w.heap.size 0 (bv zs32) := range_of_block (hg.block w.heap.size (by simp) (by simp; omega)) (range_lit w zs32 25)
  go_wp2
  refine bodyPost_ret (v := .agg (bv zs32).toArray) ?_ rfl ⟨rfl, u, hS, ?_⟩
  · simp only [results, Tryf.results42]
    simp [asAddr, run_loadVar_mid _ _ 0 25 (bv zs32) _ hr Tryf.underlying25 rfl Tryf.size25]
  · exact grown_trans (grown_trans (grown_alloc w _ _) (grown_drewN _ _ _)) hg

set_option maxHeartbeats 800000 in
theorem bytes_nil (rb : Nat) (v : Value) (G : List Int) (off : Nat) (err : Value) (w : World) (h : RS w rb v G off err) (hd : Dead G off 1 err) :
    Calls Tryf.prog 43 #[.pointer (some ⟨rb, 0, none⟩)] w fun e w' => e = .returned (.slice none 0 0) ∧ ∃ u, RS w' rb v G off (.iface 84 u) ∧ w.grownBy w' (some rb) := by
  have hq := eqnil22
  go_enter Tryf.func43, Tryf.ntmps43
  go_wp2_with fail
  refine (next_nil' rb v G off 1 1 err _ rfl h hd (by decide)).mono ?_
  rintro e w1 ⟨rfl, u, hS, hg⟩
  go_wp2
  go_ret
  exact ⟨rfl, u, hS, hg⟩
end Go.Proofs.Qxb6605704aFmt
