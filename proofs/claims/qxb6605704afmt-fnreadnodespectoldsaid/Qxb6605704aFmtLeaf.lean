/-
  WALKS OF THE LEAVES: cloneBytesB1 (10), le32B1 (11), equalBytesB1 (15), tlFieldLenB1 (24).
-/
import Derived.Test.Qxb6605704aFmtMem
import Derived.Deep.QuietTactic
import Derived.BigQuiet
import Derived.Laws.BitsAllLaws
namespace Go.Proofs.Qxb6605704aFmt
open Go.RowKit

theorem hide {p : Prop} (h : p) : Hid p := h
theorem unhide {p : Prop} (h : Hid p) : p := h

def cpy (xs : List Int) (k : Nat) : Array Value := ((xs.take k).map (Value.int .u8) ++ List.replicate (xs.length - k) (Value.int .u8 0)).toArray
theorem cpy_size (xs : List Int) (k : Nat) (h : k ≤ xs.length) : (cpy xs k).size = xs.length := by
  simp [cpy]; omega
theorem cpy_zero (xs : List Int) : madeCells #[.int .u8 0] xs.length = cpy xs 0 := by
  apply Array.toList_inj.1
  rw [toList_madeCells_one]; simp [cpy]
theorem cpy_all (xs : List Int) : cpy xs xs.length = (bv xs).toArray := by simp [cpy, bv]
theorem cpy_succ (xs : List Int) (k : Nat) (h : k < xs.length) : (cpy xs k).setIfInBounds k (.int .u8 (xs[k]?.getD 0)) = cpy xs (k + 1) := by
  apply Array.ext_getElem?
  intro j
  rw [Array.getElem?_setIfInBounds, cpy_size _ _ (by omega)]
  simp only [cpy, List.getElem?_toArray]
  rcases Nat.lt_trichotomy k j with hj | hj | hj
  · rw [if_neg (by omega)]
    rw [List.getElem?_append_right (by simp; omega), List.getElem?_append_right (by simp; omega)]
    simp only [List.length_map, List.length_take, List.getElem?_replicate]
    by_cases hjn : j < xs.length
    · rw [if_pos (by omega), if_pos (by omega)]
    · rw [if_neg (by omega), if_neg (by omega)]
  · subst hj
    rw [if_pos rfl, if_pos h, List.getElem?_append_left (by simp; omega)]
    simp [h]
  · rw [if_neg (by omega)]
    rw [List.getElem?_append_left (by simp; omega), List.getElem?_append_left (by simp; omega)]
    simp [hj, show j < k + 1 by omega]

theorem eqnil22 (w : World) (a : Option Addr) (n c n' c' : Nat) : (binOp .eql 22 (.slice a n c) (.slice none n' c')).run Tryf.prog w = .ok (.bool a.isNone) w := Lib.run_eql_slice_nil w _ _ a n c n' c' Tryf.underlying22

/-- Is it the nil slice? -/
def nilS : Value → Bool
  | .slice none _ _ => true
  | _ => false

set_option maxHeartbeats 400000 in
theorem clone_nil (n c : Nat) (w : World) :
    Calls Tryf.prog 10 #[.slice none n c] w fun e w' => e = .returned (.slice none 0 0) ∧ w' = w := by
  have hq := eqnil22
  go_enter Tryf.func10, Tryf.ntmps10
  go_wp2
  go_ret
  exact ⟨rfl, rfl⟩
set_option maxHeartbeats 400000 in
theorem clone_some (a : Addr) (xs : List Int) (c : Nat) (w : World) (hn : xs.length ≤ 281474976710656)
   (hb : xs.length ≠ 0 → ∃ b off, a = ⟨b, off, none⟩ ∧ ∀ j, j < xs.length → w.cell? ⟨b, off + j, none⟩ = some (.int .u8 (xs[j]?.getD 0))) :
    Calls Tryf.prog 10 #[.slice (some a) xs.length c] w fun e w' => e = .returned (.slice (some ⟨w.heap.size, 0, none⟩) xs.length xs.length) ∧ w' = w.alloc (.cells (bv xs).toArray 5) := by
  have hq := eqnil22
  obtain ⟨i0, hi, hz0, hz1, hz2⟩ := info_parts Tryf.info5
  have hmk : ∀ w, (Instr.makeSlice 22 (.int .i64 xs.length) (.int .i64 xs.length)).run Tryf.prog w = .ok (.slice (some ⟨w.heap.size, 0, none⟩) xs.length xs.length) (w.alloc (.cells (cpy xs 0) 5)) := by
    intro w
    have := run_make (P := Tryf.prog) w 22 5 i0 _ Tryf.underlying22 hi hz0 .i64 .i64 xs.length xs.length (by omega) (by omega) (by rw [hz2]; omega) (by omega)
    rw [this, hz1, ← cpy_zero]; simp [Value.cells]
  clear hi hz0 hz1 hz2
  go_enter Tryf.func10, Tryf.ntmps10
  go_wp2
  clear hmk
  go_loopw [4] (fun i wr => ∃ k : Nat, k ≤ xs.length ∧ i = .int .i64 k ∧ wr = w.alloc (.cells (cpy xs k) 5)) (fun i _ => xs.length - (intOf i).toNat)
  case atStart => exact ⟨0, Nat.zero_le _, rfl, rfl⟩
  case round =>
    obtain ⟨k, hk, rfl, rfl⟩ := hrel
    by_cases hlt : k < xs.length
    · obtain ⟨b, off, rfl, hc⟩ := hb (by omega)
      have hc0 := hc k hlt
      have hbl : b < w.heap.size := World.block_lt_of_cell? w _ hc0
      have hsz := cpy_size xs k (by omega)
      have hlt' : k < (cpy xs k).size := by omega
      have hs := hide (cpy_succ xs k hlt)
      clear hb hc
      go_wp2
      go_roundw
      case rel =>
        refine ⟨k + 1, by omega, by go_num, ?_⟩
        have h2 := unhide hs
        rw [List.getElem?_eq_getElem hlt, Option.getD_some] at h2
        rw [h2]
      case measure => simp [intOf]; omega
    · have : k = xs.length := by omega
      subst this
      go_wp2
      go_ret
      exact ⟨rfl, by rw [cpy_all]⟩

theorem clone_any (v : Value) (xs : List Int) (w : World) (hr : Rd w v xs) (hn : xs.length ≤ 281474976710656) :
    Calls Tryf.prog 10 #[v] w fun e w' => ∃ v', e = .returned v' ∧ Own w' w.heap.size v' xs ∧ Below w.heap.size w w' ∧ nilS v' = nilS v := by
  obtain ⟨a, c, rfl, h⟩ := hr
  cases a with
  | none =>
    have hx : xs = [] := by
      by_cases hz : xs.length = 0
      · exact List.eq_nil_of_length_eq_zero hz
      · obtain ⟨_, _, e, _⟩ := h hz; cases e
    subst hx
    refine (clone_nil _ c w).mono ?_
    rintro e w' ⟨rfl, rfl⟩
    exact ⟨_, rfl, Own.nil _ _, Below.refl _ _, rfl⟩
  | some a =>
    refine (clone_some a xs c w hn fun hz => ?_).mono ?_
    · obtain ⟨b, o, e, hr⟩ := h hz
      exact ⟨b, o, Option.some.inj e, fun j hj => range_at hr j hj⟩
    · rintro e w' ⟨rfl, rfl⟩
      have hcell : ∀ j, (w.alloc (.cells (bv xs).toArray 5)).cell? ⟨w.heap.size, 0 + j, none⟩ = (bv xs)[j]? := fun j => by
        rw [cell_of_row _ w.heap.size (0 + j) _ 5 (0, 0) (heap_alloc_new w _), Nat.zero_add, List.getElem?_toArray]
      refine ⟨_, rfl, .inr ⟨w.heap.size, xs.length, rfl, Nat.le_refl _, by simp, Nat.le_refl _, fun j u hj => by rw [hcell, hj], fun j hj => ⟨?_, ?_⟩⟩, (Below.refl _ _).alloc (Nat.le_refl _) _, rfl⟩
      · rw [hcell, bv_get _ _ hj]; rfl
      · have hh := heap_alloc_new w (.cells (bv xs).toArray 5)
        simp only [World.frozen?]
        rw [hh]
        simp

/-! ### le32 -/
/-- Each is a byte. -/
def Byts (xs : List Int) : Prop := ∀ x ∈ xs, 0 ≤ x ∧ x < 256
theorem Byts.get {xs : List Int} (h : Byts xs) (j : Nat) : 0 ≤ xs[j]?.getD 0 ∧ xs[j]?.getD 0 < 256 := by
  by_cases hj : j < xs.length
  · rw [List.getElem?_eq_getElem hj]; exact h _ (List.getElem_mem hj)
  · rw [List.getElem?_eq_none (by omega)]; exact ⟨by decide, by decide⟩
theorem Byts.append {xs ys : List Int} (h : Byts xs) (k : Byts ys) : Byts (xs ++ ys) := fun x hx => by
  rcases List.mem_append.1 hx with hx | hx
  · exact h x hx
  · exact k x hx
def le32at (xs : List Int) (k : Nat) : Int := xs[k]?.getD 0 + xs[k + 1]?.getD 0 * 256 + xs[k + 2]?.getD 0 * 65536 + xs[k + 3]?.getD 0 * 16777216

theorem or_mul (a b i m : Nat) (hm : m = 2 ^ i) (h : a < m) : a ||| (b * m) = b * m + a := by
  subst hm
  rw [Nat.or_comm, ← Nat.shiftLeft_eq, Nat.shiftLeft_add_eq_or_of_lt h]
theorem le_sum (x0 x1 x2 x3 : Int) (a0 : 0 ≤ x0 ∧ x0 < 256) (a1 : 0 ≤ x1 ∧ x1 < 256) (a2 : 0 ≤ x2 ∧ x2 < 256) (a3 : 0 ≤ x3 ∧ x3 < 256) :
    bits BinOp.or IntKind.u32 (bits BinOp.or IntKind.u32 (bits BinOp.or IntKind.u32 x0 (x1 * 256)) (x2 * 65536)) (x3 * 16777216) = x0 + x1 * 256 + x2 * 65536 + x3 * 16777216 := by
  obtain ⟨n0, rfl⟩ := Int.eq_ofNat_of_zero_le a0.1
  obtain ⟨n1, rfl⟩ := Int.eq_ofNat_of_zero_le a1.1
  obtain ⟨n2, rfl⟩ := Int.eq_ofNat_of_zero_le a2.1
  obtain ⟨n3, rfl⟩ := Int.eq_ofNat_of_zero_le a3.1
  have e1 : ((n1 : Int) * 256) = ((n1 * 256 : Nat) : Int) := by omega
  have e2 : ((n2 : Int) * 65536) = ((n2 * 65536 : Nat) : Int) := by omega
  have e3 : ((n3 : Int) * 16777216) = ((n3 * 16777216 : Nat) : Int) := by omega
  rw [e1, e2, e3, u32_or_nat n0 (n1 * 256) (by omega) (by omega), or_mul n0 n1 8 256 (by decide) (by omega), u32_or_nat _ (n2 * 65536) (by omega) (by omega), or_mul _ n2 16 65536 (by decide) (by omega), u32_or_nat _ (n3 * 16777216) (by omega) (by omega), or_mul _ n3 24 16777216 (by decide) (by omega)]
  omega

set_option maxHeartbeats 400000 in
theorem le32_core (b off n c k : Nat) (x0 x1 x2 x3 : Int) (w : World) (hk : k + 3 < n) (hn : n ≤ 9223372036854775807)
    (a0 : 0 ≤ x0 ∧ x0 < 256) (a1 : 0 ≤ x1 ∧ x1 < 256) (a2 : 0 ≤ x2 ∧ x2 < 256) (a3 : 0 ≤ x3 ∧ x3 < 256)
    (h0 : w.cell? ⟨b, off + k, none⟩ = some (.int .u8 x0)) (h1 : w.cell? ⟨b, off + (k + 1), none⟩ = some (.int .u8 x1))
    (h2 : w.cell? ⟨b, off + (k + 2), none⟩ = some (.int .u8 x2)) (h3 : w.cell? ⟨b, off + (k + 3), none⟩ = some (.int .u8 x3)) :
    Calls Tryf.prog 11 #[.slice (some ⟨b, off, none⟩) n c, .int .i64 k] w fun e w' => e = .returned (.int .u32 (x0 + x1 * 256 + x2 * 65536 + x3 * 16777216)) ∧ ∃ q, w' = w.drewN q := by
  have hs := hide (le_sum x0 x1 x2 x3 a0 a1 a2 a3)
  have i0 : (k : Int) < n := by omega
  have i1 : (k : Int) + 1 < n := by omega
  have i2 : (k : Int) + 2 < n := by omega
  have i3 : (k : Int) + 3 < n := by omega
  go_enter Tryf.func11, Tryf.ntmps11
  go_wp2
  go_quiet (fail)
  go_wp2
  go_ret
  refine ⟨?_, _, rfl⟩
  rw [← unhide hs]
  rfl

theorem le32_any (v : Value) (xs : List Int) (k : Int) (w : World) (hr : Rd w v xs) (hb : Byts xs) (h0 : 0 ≤ k) (h1 : k + 4 ≤ xs.length) (hl : xs.length ≤ 281474976710656) :
    Calls Tryf.prog 11 #[v, .int .i64 k] w fun e w' => e = .returned (.int .u32 (le32at xs k.toNat)) ∧ ∃ q, w' = w.drewN q := by
  obtain ⟨k, rfl⟩ := Int.eq_ofNat_of_zero_le h0
  obtain ⟨a, c, rfl, h⟩ := hr
  obtain ⟨b, o, rfl, hr⟩ := h (by omega)
  have hc := range_at hr
  rw [Int.toNat_natCast]
  exact le32_core b o xs.length c k _ _ _ _ w (by omega) (by omega) (hb.get _) (hb.get _) (hb.get _) (hb.get _) (hc k (by omega)) (hc (k + 1) (by omega)) (hc (k + 2) (by omega)) (hc (k + 3) (by omega))

/-! ### equalBytes, at two slices that read the same -/
set_option maxHeartbeats 400000 in
theorem eqb_core (a1 a2 : Option Addr) (c1 c2 : Nat) (xs : List Int) (w : World) (hn : xs.length ≤ 9223372036854775807)
    (h1 : xs.length ≠ 0 → ∃ b o, a1 = some ⟨b, o, none⟩ ∧ w.rangeAt b o (bv xs)) (h2 : xs.length ≠ 0 → ∃ b o, a2 = some ⟨b, o, none⟩ ∧ w.rangeAt b o (bv xs)) :
    Calls Tryf.prog 15 #[.slice a1 xs.length c1, .slice a2 xs.length c2] w fun e w' => e = .returned (.bool true) ∧ ∃ q, w' = w.drewN q := by
  go_enter Tryf.func15, Tryf.ntmps15
  go_wp2
  go_loopw [5] (fun i wr => ∃ k q : Nat, k ≤ xs.length ∧ i = .int .i64 k ∧ wr = w.drewN q) (fun i _ => xs.length - (intOf i).toNat)
  case atStart => exact ⟨0, 0, Nat.zero_le _, rfl, rfl⟩
  case round =>
    obtain ⟨k, q, hk, rfl, rfl⟩ := hrel
    by_cases hlt : k < xs.length
    · obtain ⟨b, o, rfl, r1⟩ := h1 (by omega)
      obtain ⟨b2, o2, rfl, r2⟩ := h2 (by omega)
      have g1 := range_at r1 k hlt
      have g2 := range_at r2 k hlt
      have hi : (k : Int) < xs.length := by omega
      clear h1 h2 r1 r2
      go_wp2
      go_quiet (fail)
      go_wp2
      go_roundw
      case rel => exact ⟨k + 1, q + nq, by omega, by go_num, rfl⟩
      case measure => simp [intOf]; omega
    · have hi : ¬ (k : Int) < xs.length := by omega
      go_wp2
      go_ret
      exact ⟨rfl, q, rfl⟩
theorem eqb_any (v1 v2 : Value) (xs : List Int) (w : World) (h1 : Rd w v1 xs) (h2 : Rd w v2 xs) (hn : xs.length ≤ 9223372036854775807) :
    Calls Tryf.prog 15 #[v1, v2] w fun e w' => e = .returned (.bool true) ∧ ∃ q, w' = w.drewN q := by
  obtain ⟨a1, c1, rfl, h1⟩ := h1
  obtain ⟨a2, c2, rfl, h2⟩ := h2
  exact eqb_core a1 a2 c1 c2 xs w hn h1 h2

/-! ### tlFieldLen -/
/-- The length of a bytes field that holds n bytes. -/
def fieldLen (n : Nat) : Nat := ((if n < 254 then 1 else 4) + n + 3) / 4 * 4
set_option maxHeartbeats 400000 in
theorem fieldLen_any (n : Int) (w : World) (h0 : 0 ≤ n) (h1 : n ≤ 281474976710656) :
    Calls Tryf.prog 24 #[.int .i64 n] w fun e w' => e = .returned (.int .i64 (fieldLen n.toNat)) ∧ w' = w := by
  by_cases h : 254 ≤ n
  · go_enter Tryf.func24, Tryf.ntmps24
    go_wp2
    go_ret
    refine ⟨?_, rfl⟩
    refine congrArg (fun z => Ending.returned (Value.int .i64 z)) ?_
    unfold fieldLen; split <;> omega
  · go_enter Tryf.func24, Tryf.ntmps24
    go_wp2
    go_ret
    refine ⟨?_, rfl⟩
    refine congrArg (fun z => Ending.returned (Value.int .i64 z)) ?_
    unfold fieldLen; split <;> omega
end Go.Proofs.Qxb6605704aFmt
