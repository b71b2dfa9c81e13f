/-
  CLOSED FACTS FOR THE WALKS OVER fmt's STOPPED FRONTS (after the kit's worked texts).
-/
import Derived.Test.Qxb6605704aFmtReaderI
import Derived.Stop.CallBack
import Derived.Stop.IfaceNil
import GoSem.ClaimData
namespace Go.Proofs.Qxb6605704aFmt
open Go.RowKit Go.Extern.Stop Go.Stop Go.Extern

theorem Tryf.call45 (args : Array Value) (w : World) : (callFunc 45 args).run Tryf.prog w = (FmtCalls.sprintf #[9, 69] #[9] args).run Tryf.prog w :=
  run_callFunc_next Tryf.func45 (by kernel_rfl) (by kernel_rfl) (by kernel_rfl) args w
@[go_sem] theorem Tryf.call51 (args : Array Value) (w : World) : (callFunc 51 args).run Tryf.prog w = ((FmtStop.errorf #[9, 69] #[37] args).run Tryf.prog w).andThen fun v w' => .ok (.value v) w' :=
  run_callFunc_extern Tryf.func51 (by kernel_rfl) (by kernel_rfl) (by kernel_rfl) (by kernel_rfl) args w
@[go_sem] theorem Tryf.guard (name : String) (w : World) : (FmtStop.guard name).run Tryf.prog w = .ok () w := by kernel_rfl
theorem Tryf.nextTurns : Extern.next FmtCalls.turnsRow = some (FmtCalls.begun #[] #[]) := by kernel_rfl

@[go_sem] theorem Tryf.fmtWant : FmtStop.printed? ⟨#[119, 97, 110, 116, 32, 37, 100, 32, 98, 121, 116, 101, 115, 44, 32, 37, 100, 32, 108, 101, 102, 116]⟩ 2 = some [(0, 100, false), (1, 100, false)] := by kernel_rfl
@[go_sem] theorem Tryf.fmtOver : FmtStop.printed? ⟨#[37, 100, 32, 98, 121, 116, 101, 115, 32, 108, 101, 102, 116, 32, 111, 118, 101, 114]⟩ 1 = some [(0, 100, false)] := by kernel_rfl
@[go_sem] theorem Tryf.fmtByts : FmtStop.printed? ⟨#[98, 121, 116, 101, 115, 32, 102, 105, 101, 108, 100, 32, 115, 116, 97, 114, 116, 115, 32, 119, 105, 116, 104, 32, 48, 120, 37, 48, 50, 120]⟩ 1 = some [(0, 120, false)] := by kernel_rfl
@[go_sem] theorem Tryf.fmtCon : FmtStop.printed? ⟨#[112, 117, 98, 108, 105, 99, 32, 107, 101, 121, 32, 111, 102, 32, 99, 111, 110, 115, 116, 114, 117, 99, 116, 111, 114, 32, 48, 120, 37, 48, 56, 120]⟩ 1 = some [(0, 120, false)] := by kernel_rfl
@[go_sem] theorem Tryf.fmtKey : FmtStop.printed? ⟨#[37, 115, 32, 107, 101, 121, 32, 105, 115, 32, 110, 111, 116, 32, 112, 117, 98, 46, 101, 100, 50, 53, 53, 49, 57]⟩ 1 = some [(0, 115, false)] := by kernel_rfl
@[go_sem] theorem Tryf.fmtAt : FmtStop.printed? ⟨#[116, 108, 58, 32, 97, 116, 32, 98, 121, 116, 101, 32, 37, 100, 58, 32, 37, 115]⟩ 2 = some [(0, 100, false), (1, 115, false)] := by kernel_rfl
@[go_sem] theorem Tryf.fmtAtr (w : World) : (FmtDoors.printed ⟨#[116, 108, 58, 32, 97, 116, 32, 98, 121, 116, 101, 32, 37, 100, 58, 32, 37, 115]⟩ 2).run Tryf.prog w = .ok [(0, 100, false), (1, 115, false)] w := by kernel_rfl

def Tryf.shape3 : List UInt8 := [5, 3, 0, 0, 0, 0, 0, 0, 0, 105, 110, 116]
@[go_sem] theorem Tryf.act3_100 (name : String) (x : Value) (w : World) : (FmtCalls.act name false 100 false (.iface 3 x)).run Tryf.prog w = .ok (.closed false) w := by kernel_rfl
@[go_sem] theorem Tryf.op3_100 (name : String) (x : Int) (w : World) : (FmtStop.operand name false 100 false (.iface 3 (.int .i64 x))).run Tryf.prog w = .ok (Tryf.shape3, Go.Extern.Stop.digits 8 (x % 2 ^ 64).toNat) w := by kernel_rfl
@[go_sem] theorem Tryf.op3_100w (name : String) (x : Int) (w : World) : (FmtStop.operand name true 100 false (.iface 3 (.int .i64 x))).run Tryf.prog w = .ok (Tryf.shape3, Go.Extern.Stop.digits 8 (x % 2 ^ 64).toNat) w := by kernel_rfl
def Tryf.shape9 : List UInt8 := [12, 6, 0, 0, 0, 0, 0, 0, 0, 115, 116, 114, 105, 110, 103]
@[go_sem] theorem Tryf.act9_115 (name : String) (x : Value) (w : World) : (FmtCalls.act name false 115 false (.iface 9 x)).run Tryf.prog w = .ok (.closed false) w := by kernel_rfl
@[go_sem] theorem Tryf.op9_115 (name : String) (x : ByteArray) (w : World) : (FmtStop.operand name false 115 false (.iface 9 (.string x))).run Tryf.prog w = .ok (Tryf.shape9, FmtStop.pack x.data.toList) w := by kernel_rfl
@[go_sem] theorem Tryf.op9_115w (name : String) (x : ByteArray) (w : World) : (FmtStop.operand name true 115 false (.iface 9 (.string x))).run Tryf.prog w = .ok (Tryf.shape9, FmtStop.pack x.data.toList) w := by kernel_rfl
@[go_sem] theorem Tryf.ptrErr (w : World) : (FmtStop.ptrTo "errors.errorString").run Tryf.prog w = .ok 84 w := by kernel_rfl
@[go_sem] theorem Tryf.elem84 (w : World) : (elemOf 84).run Tryf.prog w = .ok 86 w := by kernel_rfl

/-- Errorf, at the reader's own format. -/
theorem errorf_at (x : Int) (t : ByteArray) (blk : Nat) (w : World) (hc0 : w.cell? ⟨blk, 0, none⟩ = some (.iface 3 (.int .i64 x))) (hc1 : w.cell? ⟨blk, 1, none⟩ = some (.iface 9 (.string t))) :
    Calls Tryf.prog 44 #[.string ⟨#[116, 108, 58, 32, 97, 116, 32, 98, 121, 116, 101, 32, 37, 100, 58, 32, 37, 115]⟩, .slice (some ⟨blk, 0, none⟩) 2 2] w fun e w' => e = .returned (.iface 84 (.pointer (some ⟨w.heap.size, 0, none⟩))) ∧ w.grownBy w' none := by
  go_enter Tryf.func44, Tryf.ntmps44
  go_wp2
  go_ret
  exact ⟨rfl, grown_ad w none _ 1⟩

/-- Two ints, each printed by %d. -/
theorem rows_dd (f : ByteArray) (x y : Int) (blk : Nat) (w : World) (R : Value → World → Prop) (hx : w.cell? ⟨blk, 0, none⟩ = some (.iface 3 (.int .i64 x))) (hy : w.cell? ⟨blk, 1, none⟩ = some (.iface 3 (.int .i64 y)))
    (h : ∀ s, R (.string s) w.drew) : Rows Tryf.prog FmtCalls.turnsRow (FmtCalls.save 0 0 (.slice (some ⟨blk, 0, none⟩) 2 2) f [] [(0, 100, false), (1, 100, false)]) w R := by
  apply rows_value Tryf.nextTurns
  case hr =>
    go_simp
    exact ⟨rfl, rfl⟩
  case h => exact h _

/-- WHAT Sprintf(f, a...) DOES IN w: it draws, and gives a string. -/
structure Sprints (f : ByteArray) (a : Value) (w : World) : Prop where
  call : ∃ args, (callFunc 45 #[.string f, a]).run Tryf.prog w = .ok (.row FmtCalls.turnsRow args) w ∧ ∀ R : Value → World → Prop, (∀ s, R (.string s) w.drew) → Rows Tryf.prog FmtCalls.turnsRow args w R

set_option maxHeartbeats 1600000 in
theorem fail_core (rb off : Nat) (f : ByteArray) (a : Value) (w : World) (hrb : rb < w.heap.size) (hc1 : w.cell? ⟨rb, 1, none⟩ = some (.int .i64 off)) (hc2 : w.cell? ⟨rb, 2, none⟩ = some .nilIface) (hf2 : w.frozen? ⟨rb, 2, none⟩ = false)
    (hs : Sprints f a w.drew) :
    Calls Tryf.prog 36 #[.pointer (some ⟨rb, 0, none⟩), .string f, a] w fun e w' => e = .returned (.tuple #[]) ∧ ∃ w1 u, w' = w1.setCell ⟨rb, 2, none⟩ (.iface 84 u) ∧ w.grownBy w1 none := by
  obtain ⟨args, hcall, hrows⟩ := hs.call
  clear hs
  go_enter Tryf.func36, Tryf.ntmps36
  go_wp2
  go_region_with (first
    | (refine hrows _ ?_; intro s)
    | (go_at_call 44; refine (errorf_at (off : Int) s _ _ (by go_simp) (by go_simp)).mono ?_; rintro e w' ⟨rfl, hg⟩; have hb := (hg.block rb (by simp; omega) (by simp)).trans (Below.heap_alloc w _ rb hrb); have k1 := (World.cell?_of_block (w := w) (a := ⟨rb, 2, none⟩) hb).trans hc2; have k2 := (World.frozen?_of_block (w := w) (a := ⟨rb, 2, none⟩) hb).trans hf2))
  all_goals
    change bodyPost Tryf.prog Tryf.f36 _ _ _ _
    simp [bodyPost, results, Tryf.results36, go_sem]
    exact ⟨w', ⟨_, rfl⟩, grown_trans (grown_trans (grown_alloc w none _) (grown_drewN _ none 2)) hg⟩
end Go.Proofs.Qxb6605704aFmt
