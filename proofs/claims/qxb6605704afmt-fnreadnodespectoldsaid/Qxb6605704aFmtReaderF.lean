/-
  THE READER: ReadKey (50) and ReadPublicKey (41) where no ed25519 key lies.
-/
import Derived.Test.Qxb6605704aFmtReaderE
namespace Go.Proofs.Qxb6605704aFmt
open Go.RowKit

/-- An error that is nil or set. -/
def ErrK (err : Value) : Prop := err = .nilIface ∨ ∃ u, err = .iface 84 u
/-- No ed25519 key. -/
def KeyNo (k : Value) : Prop := k = .nilIface ∨ ∃ t x, (t = 81 ∨ t = 82 ∨ t = 83) ∧ k = .iface t x

/-- Bytes, whatever lies there. -/
theorem bytes_some (rb : Nat) (v : Value) (G : List Int) (off : Nat) (w : World) (h : RS w rb v G off .nilIface) (hb : Byts G) :
    Calls Tryf.prog 43 #[.pointer (some ⟨rb, 0, none⟩)] w fun e w' => ∃ a n c, e = .returned (.slice a n c) ∧ ∃ off' err', RS w' rb v G off' err' ∧ ErrK err' ∧ w.grownBy w' (some rb) := by
  by_cases hf : ∃ hd n, FieldAt G off hd n
  · obtain ⟨hd, n, hf⟩ := hf
    refine (bytes_ok rb v G off hd n w h hb hf).mono ?_
    rintro e w' ⟨a, c, rfl, hS, hg, _, _⟩
    exact ⟨a, n, c, rfl, _, _, hS, .inl rfl, hg⟩
  · refine (bytes_fails rb v G off w h hb hf).mono ?_
    rintro e w' ⟨rfl, off', u, hS, hg⟩
    exact ⟨none, 0, 0, rfl, off', _, hS, .inr ⟨u, rfl⟩, hg⟩
/-- Int256, whatever lies there. -/
theorem int256_some (rb : Nat) (v : Value) (G : List Int) (off : Nat) (w : World) (h : RS w rb v G off .nilIface) :
    Calls Tryf.prog 42 #[.pointer (some ⟨rb, 0, none⟩)] w fun e w' => ∃ xs, e = .returned (.agg (bv xs).toArray) ∧ ∃ off' err', RS w' rb v G off' err' ∧ ErrK err' ∧ w.grownBy w' (some rb) := by
  by_cases hf : off + 32 ≤ G.length
  · refine (int256_ok rb v G off w h hf).mono ?_
    rintro e w' ⟨rfl, hS, hg⟩
    exact ⟨_, rfl, _, _, hS, .inl rfl, hg⟩
  · refine (int256_nil rb v G off .nilIface w h (.inr ⟨rfl, by omega⟩)).mono ?_
    rintro e w' ⟨rfl, u, hS, hg⟩
    exact ⟨_, rfl, _, _, hS, .inr ⟨u, rfl⟩, hg⟩

set_option maxHeartbeats 1600000 in
theorem readKey_nil (rb : Nat) (v : Value) (G : List Int) (off : Nat) (w : World) (h : RS w rb v G off .nilIface) (hl : G.length < off + 4) :
    Calls Tryf.prog 50 #[.pointer (some ⟨rb, 0, none⟩)] w fun e w' => e = .returned .nilIface ∧ ∃ u, RS w' rb v G off (.iface 84 u) ∧ w.grownBy w' (some rb) := by
  go_enter Tryf.func50, Tryf.ntmps50
  go_wp2_with fail
  refine (con_nil rb v G off .nilIface _ h (.inr ⟨rfl, hl⟩)).mono ?_
  rintro e w1 ⟨rfl, u, hS, hg⟩
  go_wp2_with fail
  refine (err_any rb (.iface 84 u) _ hS.c2 (.inr ⟨_, _, rfl⟩)).mono ?_
  rintro e w2 ⟨rfl, rfl⟩
  go_wp2
  go_ret
  exact ⟨rfl, u, hS, hg⟩

set_option maxHeartbeats 1600000 in
theorem readKey_zero (rb : Nat) (v : Value) (G : List Int) (off : Nat) (w : World) (h : RS w rb v G off .nilIface) (hb : Byts G) (hc : le32at G off = 1209251014) (hl : off + 4 ≤ G.length) (hl2 : G.length < off + 36) :
    Calls Tryf.prog 50 #[.pointer (some ⟨rb, 0, none⟩)] w fun e w' => e = .returned (.iface 31 (.agg (bv zs32).toArray)) ∧ ∃ off' u, RS w' rb v G off' (.iface 84 u) ∧ w.grownBy w' (some rb) := by
  have hk := con_ok rb v G off w h hl hb
  rw [hc] at hk
  clear hc
  have h256 := fun w (hS : RS w rb v G (off + 4) .nilIface) => int256_nil rb v G (off + 4) .nilIface w hS (.inr ⟨rfl, by omega⟩)
  generalize (bv zs32).toArray = zz at *
  go_enter Tryf.func50, Tryf.ntmps50
  go_wp2_with fail
  refine hk.mono ?_
  rintro e w1 ⟨rfl, hS, hg⟩
  go_wp2_with fail
  refine (err_any rb .nilIface _ hS.c2 (.inl rfl)).mono ?_
  rintro e w2 ⟨rfl, rfl⟩
  go_wp2_with fail
  refine (h256 _ hS).mono ?_
  rintro e w3 ⟨rfl, u, hS3, hg3⟩
  go_wp2
  go_ret
  exact ⟨rfl, _, u, hS3, grown_trans hg hg3⟩

set_option maxHeartbeats 3200000 in
theorem readKey_other (rb : Nat) (v : Value) (G : List Int) (off : Nat) (w : World) (h : RS w rb v G off .nilIface) (hb : Byts G) (hl : off + 4 ≤ G.length) (x : Int) (hx : le32at G off = x) (hc : x ≠ 1209251014) :
    Calls Tryf.prog 50 #[.pointer (some ⟨rb, 0, none⟩)] w fun e w' => ∃ k, e = .returned k ∧ KeyNo k ∧ ∃ off' err', RS w' rb v G off' err' ∧ ErrK err' ∧ w.grownBy w' (some rb) := by
  have hk := con_ok rb v G off w h hl hb
  rw [hx] at hk
  clear hx
  have n1 : ¬ x = 1209251014 := hc
  by_cases c1 : x = 3055502602
  · subst c1
    go_enter Tryf.func50, Tryf.ntmps50
    go_wp2_with fail
    refine hk.mono ?_
    rintro e w1 ⟨rfl, hS, hg⟩
    go_wp2_with fail
    refine (err_any rb .nilIface _ hS.c2 (.inl rfl)).mono ?_
    rintro e w2 ⟨rfl, rfl⟩
    go_wp2_with fail
    refine (bytes_some rb v G (off + 4) _ hS hb).mono ?_
    rintro e w3 ⟨a, n, c, rfl, off', err', hS3, he, hg3⟩
    go_wp2
    go_ret
    exact ⟨_, rfl, .inr ⟨81, _, .inl rfl, rfl⟩, off', err', hS3, he, grown_trans hg hg3⟩
  by_cases c2 : x = 767339988
  · subst c2
    go_enter Tryf.func50, Tryf.ntmps50
    go_wp2_with fail
    refine hk.mono ?_
    rintro e w1 ⟨rfl, hS, hg⟩
    go_wp2_with fail
    refine (err_any rb .nilIface _ hS.c2 (.inl rfl)).mono ?_
    rintro e w2 ⟨rfl, rfl⟩
    go_wp2_with fail
    refine (int256_some rb v G (off + 4) _ hS).mono ?_
    rintro e w3 ⟨xs, rfl, off', err', hS3, he, hg3⟩
    go_wp2
    go_ret
    exact ⟨_, rfl, .inr ⟨82, _, .inr (.inl rfl), rfl⟩, off', err', hS3, he, grown_trans hg hg3⟩
  by_cases c3 : x = 884622795
  · subst c3
    go_enter Tryf.func50, Tryf.ntmps50
    go_wp2_with fail
    refine hk.mono ?_
    rintro e w1 ⟨rfl, hS, hg⟩
    go_wp2_with fail
    refine (err_any rb .nilIface _ hS.c2 (.inl rfl)).mono ?_
    rintro e w2 ⟨rfl, rfl⟩
    go_wp2_with fail
    refine (bytes_some rb v G (off + 4) _ hS hb).mono ?_
    rintro e w3 ⟨a, n, c, rfl, off', err', hS3, he, hg3⟩
    go_wp2
    go_ret
    exact ⟨_, rfl, .inr ⟨83, _, .inr (.inr rfl), rfl⟩, off', err', hS3, he, grown_trans hg hg3⟩
  · go_enter Tryf.func50, Tryf.ntmps50
    go_wp2_with fail
    refine hk.mono ?_
    rintro e w1 ⟨rfl, hS, hg⟩
    go_wp2_with fail
    refine (err_any rb .nilIface _ hS.c2 (.inl rfl)).mono ?_
    rintro e w2 ⟨rfl, rfl⟩
    go_wp2_with fail
    refine (fail_ok rb v G (off + 4) _ _ _ (hS.alloc _) (spn_con x _)).mono ?_
    rintro e w3 ⟨rfl, u, hS3, hg3⟩
    go_wp2
    go_ret
    exact ⟨_, rfl, .inl rfl, _, _, hS3, .inr ⟨u, rfl⟩, grown_trans (grown_trans hg (grown_alloc _ _ _)) hg3⟩
end Go.Proofs.Qxb6605704aFmt
