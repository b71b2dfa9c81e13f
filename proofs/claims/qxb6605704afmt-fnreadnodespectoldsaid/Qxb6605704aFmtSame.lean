/-
  THE WALK of sameReadB1 (20), at two nodes that read the same.
-/
import Derived.Test.Qxb6605704aFmtReaderN
import Derived.Laws.Cover3
namespace Go.Proofs.Qxb6605704aFmt
open Go.RowKit

theorem neqnil22 (w : World) (a : Option Addr) (n c : Nat) : (binOp .neq 22 (.slice a n c) (.slice none 0 0)).run Tryf.prog w = .ok (.bool (!a.isNone)) w := run_neq_slice_nil w 22 5 a n c Tryf.underlying22

/-- The same node with another signature slice. -/
def Nd.with (n : Nd) (sv : Value) : Nd := ⟨n.id, n.ov, n.ver, n.sig, sv⟩
theorem Nd.Ok.with {n : Nd} (k : n.Ok) (sv : Value) : (n.with sv).Ok := ⟨k.id, k.ov, k.idb, k.ovb, k.ver0, k.ver1, k.sigb⟩

set_option maxHeartbeats 1600000 in
theorem sameRead_any (n : Nd) (sv : Value) (w : World) (k : n.Ok) (hs : Rd w n.sv n.sig) (hs' : Rd w sv n.sig) (hnil : nilS n.sv = decide (n.sig.length = 0)) (hl : n.sig.length ≤ 281474976710656) :
    Calls Tryf.prog 20 #[.agg n.cells.toArray, .agg (n.with sv).cells.toArray] w fun e w' => e = .returned (.bool true) ∧ Below w.heap.size w w' := by
  have hq := eqnil22
  have hq' := neqnil22
  have k' := k.with sv
  obtain ⟨m, hm⟩ : ∃ m, n.with sv = m := ⟨_, rfl⟩
  have mid : m.id = n.id := by rw [← hm]; rfl
  have mov : m.ov = n.ov := by rw [← hm]; rfl
  have mver : m.ver = n.ver := by rw [← hm]; rfl
  have msv : m.sv = sv := by rw [← hm]; rfl
  rw [hm] at k' ⊢
  clear hm
  have hB : Below w.heap.size w ((w.alloc (.cells n.cells.toArray 34)).alloc (.cells m.cells.toArray 46)) := ((Below.refl _ w).alloc (Nat.le_refl _) _).alloc (by simp) _
  have r1 : ((w.alloc (.cells n.cells.toArray 34)).alloc (.cells m.cells.toArray 46)).rangeAt w.heap.size 0 n.cells := World.rangeAt_alloc (range_box w n.cells 34) _
  have r2 : ((w.alloc (.cells n.cells.toArray 34)).alloc (.cells m.cells.toArray 46)).rangeAt (w.heap.size + 1) 0 m.cells := by
    have := range_box (w.alloc (.cells n.cells.toArray 34)) m.cells 46
    simpa using this
  have hs2 := hs.kept fun k hk => hB.block k hk
  have hs2' := hs'.kept fun k hk => hB.block k hk
  obtain ⟨a, c, hsv, _⟩ := id hs
  obtain ⟨a', c', hsv', _⟩ := id hs'
  have hid1 := range_take r1
  have hid2 := range_take r2
  have hov1 := range_take (range_drop r1)
  have hov2 := range_take (range_drop r2)
  rw [bv_length, k.id, Nat.zero_add] at hov1
  rw [bv_length, k'.id, Nat.zero_add] at hov2
  have hv1 := nd_ver r1 k
  have hv2 := nd_ver r2 k'
  have hs3 := nd_sv r1 k
  have hs4 := nd_sv r2 k'
  rw [mid] at hid2
  rw [mov] at hov2
  rw [mver] at hv2
  rw [msv, hsv'] at hs4
  rw [hsv] at hs3 hs2 hnil
  rw [hsv'] at hs2'
  have e1 := eqArr n.id k.id k.idb
  have e2 := eqArr n.ov k.ov k.ovb
  have i31 : (Tryf.prog.info? 31).map (·.size) = some (bv n.id).length := by rw [bv_length, k.id]; exact Tryf.size31
  have i25 : (Tryf.prog.info? 25).map (·.size) = some (bv n.id).length := by rw [bv_length, k.id]; exact Tryf.size25
  have i32 : (Tryf.prog.info? 32).map (·.size) = some (bv n.ov).length := by rw [bv_length, k.ov]; exact Tryf.size32
  have i25' : (Tryf.prog.info? 25).map (·.size) = some (bv n.ov).length := by rw [bv_length, k.ov]; exact Tryf.size25
  clear hsv hsv' msv hs hs' r1 r2 k'
  by_cases hz : n.sig.length = 0
  · obtain rfl : a = none := by
      cases a with
      | none => rfl
      | some a => simp [nilS, hz] at hnil
    clear hnil
    rw [hz] at hs3 hs4
    go_enter Tryf.func20, Tryf.ntmps20
    go_wp2_with (first
      | refine wpList_load_mid rfl 31 (.tmp 5) rfl w.heap.size 0 rfl (bv n.id) _ hid1 Tryf.underlying31 rfl i31 ?_
      | refine wpList_load_mid rfl 25 (.tmp 7) rfl (w.heap.size + 1) 0 rfl (bv n.id) _ hid2 Tryf.underlying25 rfl i25 ?_
      | refine wpList_load_want (by rfl) 32 (.tmp 11) rfl w.heap.size 32 rfl (bv n.ov) _ hov1 Tryf.underlying32 rfl i32 ?_
      | refine wpList_load_want (by rfl) 25 (.tmp 13) rfl (w.heap.size + 1) 32 rfl (bv n.ov) _ hov2 Tryf.underlying25 rfl i25' ?_)
    go_ret
    exact ⟨rfl, hB⟩
  · obtain ⟨a0, rfl⟩ : ∃ a0, a = some a0 := by
      cases a with
      | none => simp [nilS, hz] at hnil
      | some a => exact ⟨a, rfl⟩
    clear hnil
    have hz1 : ¬ (n.sig.length : Int) = 0 := by omega
    go_enter Tryf.func20, Tryf.ntmps20
    go_wp2_with (first
      | refine wpList_load_mid rfl 31 (.tmp 5) rfl w.heap.size 0 rfl (bv n.id) _ hid1 Tryf.underlying31 rfl i31 ?_
      | refine wpList_load_mid rfl 25 (.tmp 7) rfl (w.heap.size + 1) 0 rfl (bv n.id) _ hid2 Tryf.underlying25 rfl i25 ?_
      | refine wpList_load_want (by rfl) 32 (.tmp 11) rfl w.heap.size 32 rfl (bv n.ov) _ hov1 Tryf.underlying32 rfl i32 ?_
      | refine wpList_load_want (by rfl) 25 (.tmp 13) rfl (w.heap.size + 1) 32 rfl (bv n.ov) _ hov2 Tryf.underlying25 rfl i25' ?_)
    refine (eqb_any _ _ n.sig _ hs2 hs2' (by omega)).mono ?_
    rintro e w' ⟨rfl, q, rfl⟩
    go_wp2
    go_ret
    exact ⟨rfl, hB.trans ⟨rfl, rfl, rfl, Nat.le_refl _, fun _ _ => rfl⟩⟩
end Go.Proofs.Qxb6605704aFmt
