/-
  WALK OF tl.AppendBytes (49).
-/
import Derived.Test.Qxb6605704aFmtEnc
import Derived.Deep.LoopGhost
namespace Go.Proofs.Qxb6605704aFmt
open Go.RowKit

/-- THE SLICE VALUE sv READS AS ys, AND NOT OUT OF THE BLOCK 'row'. -/
def RdA (w : World) (row : Option Nat) (sv : Value) (ys : List Int) : Prop :=
  ∃ a c, sv = .slice a ys.length c ∧ (ys.length ≠ 0 → ∃ b o, a = some ⟨b, o, none⟩ ∧ some b ≠ row ∧ w.rangeAt b o (bv ys))
theorem RdA.rd {w : World} {row : Option Nat} {sv : Value} {ys : List Int} (h : RdA w row sv ys) : Rd w sv ys := by
  obtain ⟨a, c, e, h⟩ := h
  exact ⟨a, c, e, fun hn => let ⟨b, o, e', _, hr⟩ := h hn; ⟨b, o, e', hr⟩⟩
theorem App.range {B : Nat} {w w1 : World} {v v1 : Value} {xs ys : List Int} (h : App B w v xs w1 v1 ys) {b o : Nat} {cs : List Value} (hr : w.rangeAt b o cs) (hn : cs.length ≠ 0) (hb : some b ≠ v.ownBlock) : w1.rangeAt b o cs ∧ some b ≠ v1.ownBlock := by
  have hlt := range_lt hr hn
  refine ⟨range_of_block (h.grow.block b hlt hb) hr, ?_⟩
  rcases h.blk with e | e
  · rw [e]; exact hb
  · intro e'; have := e b e'.symm; omega
theorem App.rdA {B : Nat} {w w1 : World} {v v1 : Value} {xs ys zs : List Int} {sv : Value} (h : App B w v xs w1 v1 ys) (hr : RdA w v.ownBlock sv zs) : RdA w1 v1.ownBlock sv zs := by
  obtain ⟨a, c, e, hr⟩ := hr
  refine ⟨a, c, e, fun hn => ?_⟩
  obtain ⟨b, o, e', hne, hro⟩ := hr hn
  have := h.range hro (by simpa [bv] using hn) hne
  exact ⟨b, o, e', this.2, this.1⟩
theorem RdA.alloc {w : World} {row : Option Nat} {sv : Value} {ys : List Int} (h : RdA w row sv ys) (ob : Obj) : RdA (w.alloc ob) row sv ys := by
  obtain ⟨a, c, e, h⟩ := h
  exact ⟨a, c, e, fun hn => let ⟨b, o, e', hb, hr⟩ := h hn; ⟨b, o, e', hb, World.rangeAt_alloc hr ob⟩⟩

/-- The head of a bytes field. -/
def headB (n : Nat) : List Int := if n < 254 then [(n : Int)] else [254, (n : Int) % 256, (n : Int) / 256 % 256, (n : Int) / 65536]
def padB (n : Nat) : Nat := (4 - ((headB n).length + n) % 4) % 4
/-- A bytes field. -/
def encB (ys : List Int) : List Int := headB ys.length ++ ys ++ List.replicate (padB ys.length) 0
theorem headB_length (n : Nat) : (headB n).length = if n < 254 then 1 else 4 := by unfold headB; split <;> rfl
theorem encB_length (ys : List Int) : (encB ys).length = fieldLen ys.length := by
  unfold encB padB fieldLen
  simp only [List.length_append, List.length_replicate, headB_length]
  split <;> omega

theorem pad_short (n : Nat) (h : n < 254) : padB n = (4 - (1 + n) % 4) % 4 := by unfold padB; rw [headB_length, if_pos h]
theorem pad_long (n : Nat) (h : 254 ≤ n) : padB n = (4 - (4 + n) % 4) % 4 := by unfold padB; rw [headB_length, if_neg (by omega)]
theorem encB_short (ys : List Int) (h : ys.length < 254) : encB ys = ([(ys.length : Int)] ++ ys) ++ List.replicate (padB ys.length) 0 := by unfold encB headB; rw [if_pos h]
theorem encB_long (ys : List Int) (h : 254 ≤ ys.length) : encB ys = ([254, (ys.length : Int) % 256, (ys.length : Int) / 256 % 256, (ys.length : Int) / 65536] ++ ys) ++ List.replicate (padB ys.length) 0 := by unfold encB headB; rw [if_neg (by omega)]

/-- The loop that pads. -/
theorem App.snoc {B : Nat} {w w1 w2 : World} {v v1 v2 : Value} {xs ys : List Int} {k : Nat} {o : Obj} (hv : Own w B v xs) (h : App B w v xs w1 v1 (ys ++ List.replicate k 0)) (k2 : App B (w1.alloc o) v1 (xs ++ (ys ++ List.replicate k 0)) w2 v2 [0]) : App B w v xs w2 v2 (ys ++ List.replicate (k + 1) 0) := by
  have := App.trans hv h k2.of_alloc
  rwa [List.append_assoc, ← List.replicate_succ'] at this

set_option maxHeartbeats 1000000 in
theorem appBytes_short (B : Nat) (v : Value) (xs ys : List Int) (sv : Value) (w : World) (hown : Own w B v xs) (hB : B ≤ w.heap.size) (hr : RdA w v.ownBlock sv ys) (hn : ys.length < 254) (hl : xs.length + ys.length ≤ 140737488000000) :
    Calls Tryf.prog 49 #[v, sv] w fun e w' => ∃ v', e = .returned v' ∧ App B w v xs w' v' (encB ys) := by
  obtain ⟨a, c, rfl, _⟩ := id hr
  have hn' : (ys.length : Int) < 254 := by omega
  go_enter Tryf.func49, Tryf.ntmps49
  go_wp2_with (first
    | (at_builtin; refine wpList_app rfl (.tmp 18) (.tmp 21) rfl B v xs rfl (hown.alloc _) _ [(ys.length : Int)] rfl ?h2 ?h3 ?h4 ?_; rotate_right; intro v1 w1 hA; have hA1 := hA.of_alloc; have hr1 := hA1.rdA hr; clear hA)
    | (at_builtin; refine wpList_app rfl (.tmp 37) (.tmp 38) rfl B v1 (xs ++ [(ys.length : Int)]) rfl hA1.own _ ys rfl hr1.rd ?h5 ?h6 ?_; rotate_right; intro v2 w2 hA2; have hA3 := App.trans hown hA1 hA2; clear hA1 hA2 hr1))
  case h2 => exact Rd.lit w [(ys.length : Int)] 1 1 _ rfl rfl
  case h3 => simp; omega
  case h4 => simp; omega
  case h5 => simp; omega
  case h6 => have := hA1.grow.size; omega
  go_loopw [0, 7] (fun b i wr => ∃ k : Nat, k ≤ padB ys.length ∧ i = .int .i64 (1 + ys.length + k : Int) ∧ App B w v xs wr b (([(ys.length : Int)] ++ ys) ++ List.replicate k 0)) (fun _ i _ => 1 + ys.length + padB ys.length - (intOf i).toNat)
  case atStart => exact ⟨0, Nat.zero_le _, by go_num, by simpa using hA3⟩
  case round =>
    obtain ⟨k, hk, rfl, hAk⟩ := hrel
    have hp := pad_short ys.length hn
    by_cases hlt : k < padB ys.length
    · have ht : (((1 : Int) + ys.length + k) % 4 != 0) = true := by simp; omega
      go_wp2_with (at_builtin; refine wpList_app rfl (.tmp 49) (.tmp 50) rfl B u0 (xs ++ (([(ys.length : Int)] ++ ys) ++ List.replicate k 0)) rfl (hAk.own.alloc _) _ [0] rfl ?g2 ?g3 ?g4 ?_; rotate_right; intro v4 w4 hA4)
      case g2 => exact Rd.lit wr [0] 1 1 _ rfl rfl
      case g3 => simp; omega
      case g4 => have := hAk.grow.size; simp; omega
      have hA5 := App.snoc hown hAk hA4
      go_roundw
      case rel => exact ⟨k + 1, by omega, by go_num, hA5⟩
      case measure => simp [intOf]; omega
    · have ht : (((1 : Int) + ys.length + k) % 4 != 0) = false := by simp; omega
      go_wp2
      go_ret
      have : k = padB ys.length := by omega
      subst this
      exact ⟨_, rfl, by rw [encB_short ys hn]; exact hAk⟩
set_option maxHeartbeats 1000000 in
theorem appBytes_long (B : Nat) (v : Value) (xs ys : List Int) (sv : Value) (w : World) (hown : Own w B v xs) (hB : B ≤ w.heap.size) (hr : RdA w v.ownBlock sv ys) (hn : 254 ≤ ys.length) (hn2 : ys.length ≤ 16777215) (hl : xs.length + ys.length ≤ 140737488000000) :
    Calls Tryf.prog 49 #[v, sv] w fun e w' => ∃ v', e = .returned v' ∧ App B w v xs w' v' (encB ys) := by
  obtain ⟨a, c, rfl, _⟩ := id hr
  have hn' : ¬ (ys.length : Int) < 254 := by omega
  have hn3 : (ys.length : Int) ≤ 16777215 := by omega
  go_enter Tryf.func49, Tryf.ntmps49
  go_wp2_with (first
    | (at_builtin; refine wpList_app rfl (.tmp 26) (.tmp 35) rfl B v xs rfl (hown.alloc _) _ [254, (ys.length : Int) % 256, (ys.length : Int) / 256 % 256, (ys.length : Int) / 65536] rfl ?h2 ?h3 ?h4 ?_; rotate_right; intro v1 w1 hA; have hA1 := hA.of_alloc; have hr1 := hA1.rdA hr; clear hA)
    | (at_builtin; refine wpList_app rfl (.tmp 37) (.tmp 38) rfl B v1 (xs ++ [254, (ys.length : Int) % 256, (ys.length : Int) / 256 % 256, (ys.length : Int) / 65536]) rfl hA1.own _ ys rfl hr1.rd ?h5 ?h6 ?_; rotate_right; intro v2 w2 hA2; have hA3 := App.trans hown hA1 hA2; clear hA1 hA2 hr1))
  case h2 => exact Rd.lit w [254, (ys.length : Int) % 256, (ys.length : Int) / 256 % 256, (ys.length : Int) / 65536] 4 4 _ rfl rfl
  case h3 => first | omega | (simp; omega)
  case h4 => first | omega | (simp; omega)
  case h5 => first | omega | (simp; omega)
  case h6 => have := hA1.grow.size; omega
  go_loopw [0, 7] (fun b i wr => ∃ k : Nat, k ≤ padB ys.length ∧ i = .int .i64 (4 + ys.length + k : Int) ∧ App B w v xs wr b (([254, (ys.length : Int) % 256, (ys.length : Int) / 256 % 256, (ys.length : Int) / 65536] ++ ys) ++ List.replicate k 0)) (fun _ i _ => 4 + ys.length + padB ys.length - (intOf i).toNat)
  case atStart => exact ⟨0, Nat.zero_le _, by go_num, by simpa using hA3⟩
  case round =>
    obtain ⟨k, hk, rfl, hAk⟩ := hrel
    have hp := pad_long ys.length hn
    by_cases hlt : k < padB ys.length
    · have ht : (((4 : Int) + ys.length + k) % 4 != 0) = true := by simp; omega
      go_wp2_with (at_builtin; refine wpList_app rfl (.tmp 49) (.tmp 50) rfl B u0 (xs ++ (([254, (ys.length : Int) % 256, (ys.length : Int) / 256 % 256, (ys.length : Int) / 65536] ++ ys) ++ List.replicate k 0)) rfl (hAk.own.alloc _) _ [0] rfl ?g2 ?g3 ?g4 ?_; rotate_right; intro v4 w4 hA4)
      case g2 => exact Rd.lit wr [0] 1 1 _ rfl rfl
      case g3 => simp; omega
      case g4 => have := hAk.grow.size; simp; omega
      have hA5 := App.snoc hown hAk hA4
      go_roundw
      case rel => exact ⟨k + 1, by omega, by go_num, hA5⟩
      case measure => simp [intOf]; omega
    · have ht : (((4 : Int) + ys.length + k) % 4 != 0) = false := by simp; omega
      go_wp2
      go_ret
      have : k = padB ys.length := by omega
      subst this
      exact ⟨_, rfl, by rw [encB_long ys hn]; exact hAk⟩
theorem appBytes_any (B : Nat) (v : Value) (xs ys : List Int) (sv : Value) (w : World) (hown : Own w B v xs) (hB : B ≤ w.heap.size) (hr : RdA w v.ownBlock sv ys) (hn : ys.length ≤ 16777215) (hl : xs.length + ys.length ≤ 140737488000000) :
    Calls Tryf.prog 49 #[v, sv] w fun e w' => ∃ v', e = .returned v' ∧ App B w v xs w' v' (encB ys) := by
  by_cases h : ys.length < 254
  · exact appBytes_short B v xs ys sv w hown hB hr h hl
  · exact appBytes_long B v xs ys sv w hown hB hr (by omega) hn hl
end Go.Proofs.Qxb6605704aFmt
