/-
  THE READER: the walks of Int (16), Constructor (40), Err (14), NewReader (12), Close (17) where nothing fails.
-/
import Derived.Test.Qxb6605704aFmtReader
namespace Go.Proofs.Qxb6605704aFmt
open Go.RowKit

theorem uint32_any (u : Value) (xs : List Int) (w : World) (hr : Rd w u xs) (hb : Byts xs) (hl : xs.length = 4) :
    Calls Tryf.prog 35 #[.agg #[], u] w fun e w' => e = .returned (.int .u32 (le32at xs 0)) ∧ ∃ o q, w' = (w.alloc o).drewN q := by
  obtain ⟨a, c, rfl, h⟩ := hr
  obtain ⟨b, o, rfl, hr⟩ := h (by omega)
  have hc := range_at hr
  exact uint32_core b o xs.length c _ _ _ _ w (by omega) (by omega) (hb.get _) (hb.get _) (hb.get _) (hb.get _) (hc 0 (by omega)) (hc 1 (by omega)) (hc 2 (by omega)) (hc 3 (by omega))

theorem le32_slice (G : List Int) (off : Nat) (_h : off + 4 ≤ G.length) : le32at ((G.drop off).take 4) 0 = le32at G off := by
  unfold le32at
  simp [List.getElem?_drop]
theorem Byts.slice {G : List Int} (h : Byts G) (off n : Nat) : Byts ((G.drop off).take n) := fun x hx => h x (List.mem_of_mem_drop (List.mem_of_mem_take hx))

theorem grown_ad (w : World) (r : Option Nat) (o : Obj) (q : Nat) : w.grownBy ((w.alloc o).drewN q) r := grown_trans (grown_alloc w r o) (grown_drewN _ r q)

/-- next of one byte or more, where the bytes are there. -/
theorem next_pos (rb : Nat) (v : Value) (G : List Int) (off n : Nat) (w : World) (h : RS w rb v G off .nilIface) (hl : off + n ≤ G.length) (hn : n ≠ 0) :
    Calls Tryf.prog 34 #[.pointer (some ⟨rb, 0, none⟩), .int .i64 n] w fun e w' => ∃ (b o c : Nat), e = .returned (.slice (some ⟨b, o, none⟩) n c) ∧ RS w' rb v G (off + n) .nilIface ∧ w.grownBy w' (some rb) ∧ Rd w' (.slice (some ⟨b, o, none⟩) n c) ((G.drop off).take n) := by
  refine (next_ok rb v G off n w h hl (by omega)).mono ?_
  rintro e w' ⟨u, rfl, hS, hg, hu, _, _⟩
  have hu' := hu
  have hlen : ((G.drop off).take n).length = n := by simp; omega
  obtain ⟨a, c, e, ha⟩ := hu
  obtain ⟨b, o, rfl, _⟩ := ha (by omega)
  rw [hlen] at e
  subst e
  exact ⟨b, o, c, rfl, hS, hg, hu'⟩

set_option maxHeartbeats 400000 in
theorem int_ok (rb : Nat) (v : Value) (G : List Int) (off : Nat) (w : World) (h : RS w rb v G off .nilIface) (hl : off + 4 ≤ G.length) (hb : Byts G) :
    Calls Tryf.prog 16 #[.pointer (some ⟨rb, 0, none⟩)] w fun e w' => e = .returned (.int .i32 (wrap32 (le32at G off))) ∧ RS w' rb v G (off + 4) .nilIface ∧ w.grownBy w' (some rb) := by
  have hq := eqnil22
  go_enter Tryf.func16, Tryf.ntmps16
  go_wp2_with (first
    | (go_at_call 34; refine (next_pos rb v G off 4 _ h hl (by decide)).mono ?_; rintro e w1 ⟨b, o, c, rfl, hS, hg, hu⟩)
    | (go_at_call 35; refine (uint32_any _ _ _ hu (hb.slice off 4) (by simp; omega)).mono ?_; rintro e w2 ⟨rfl, o2, q, rfl⟩))
  go_ret
  rw [le32_slice G off hl]
  exact ⟨rfl, (hS.alloc o2).drewN q, grown_trans hg (grown_ad _ _ _ _)⟩

theorem le32_range (G : List Int) (off : Nat) (hb : Byts G) : 0 ≤ le32at G off ∧ le32at G off < 4294967296 := by
  have a := hb.get off
  have b := hb.get (off + 1)
  have c := hb.get (off + 2)
  have d := hb.get (off + 3)
  unfold le32at
  omega
theorem u32_i32 (x : Int) (h : 0 ≤ x ∧ x < 4294967296) : wrap32 x % 4294967296 = x := by
  unfold wrap32
  omega

set_option maxHeartbeats 400000 in
theorem con_ok (rb : Nat) (v : Value) (G : List Int) (off : Nat) (w : World) (h : RS w rb v G off .nilIface) (hl : off + 4 ≤ G.length) (hb : Byts G) :
    Calls Tryf.prog 40 #[.pointer (some ⟨rb, 0, none⟩)] w fun e w' => e = .returned (.int .u32 (le32at G off)) ∧ RS w' rb v G (off + 4) .nilIface ∧ w.grownBy w' (some rb) := by
  have hc := hide (u32_i32 _ (le32_range G off hb))
  go_enter Tryf.func40, Tryf.ntmps40
  go_wp2_with (go_at_call 16; refine (int_ok rb v G off _ h hl hb).mono ?_; rintro e w1 ⟨rfl, hS, hg⟩)
  go_ret
  exact ⟨congrArg (fun z => Ending.returned (Value.int .u32 z)) (unhide hc), hS, hg⟩

theorem err_any (rb : Nat) (err : Value) (w : World) (h : w.cell? ⟨rb, 2, none⟩ = some err) (hone : err = .nilIface ∨ ∃ t x, err = .iface t x) :
    Calls Tryf.prog 14 #[.pointer (some ⟨rb, 0, none⟩)] w fun e w' => e = .returned err ∧ w' = w := by
  rcases hone with rfl | ⟨t, x, rfl⟩
  · go_enter Tryf.func14, Tryf.ntmps14
    go_wp2
    go_ret
    exact ⟨rfl, rfl⟩
  · go_enter Tryf.func14, Tryf.ntmps14
    go_wp2
    go_ret
    exact ⟨rfl, rfl⟩

theorem newReader_any (a : Option Addr) (n c : Nat) (w : World) :
    Calls Tryf.prog 12 #[.slice a n c] w fun e w' => e = .returned (.pointer (some ⟨w.heap.size, 0, none⟩)) ∧ w' = w.alloc (.cells #[.slice a n c, .int .i64 0, .nilIface] 57) := by
  go_enter Tryf.func12, Tryf.ntmps12
  go_wp2
  go_ret
  exact ⟨rfl, rfl⟩

set_option maxHeartbeats 400000 in
theorem close_ok (rb : Nat) (v : Value) (G : List Int) (w : World) (h : RS w rb v G G.length .nilIface) :
    Calls Tryf.prog 17 #[.pointer (some ⟨rb, 0, none⟩)] w fun e w' => e = .returned .nilIface ∧ ∃ q, w' = w.drewN q := by
  obtain ⟨a, c, rfl⟩ : ∃ a c, v = .slice a G.length c := by
    rcases h.dat with ⟨rfl, rfl⟩ | ⟨b, o, c, rfl, _⟩
    · exact ⟨_, _, rfl⟩
    · exact ⟨_, _, rfl⟩
  have h0 := h.c0
  have h1 := h.c1
  have h2 := h.c2
  clear h
  go_enter Tryf.func17, Tryf.ntmps17
  go_wp2
  go_quiet (fail)
  go_wp2
  go_ret
  exact ⟨rfl, _, rfl⟩
end Go.Proofs.Qxb6605704aFmt
