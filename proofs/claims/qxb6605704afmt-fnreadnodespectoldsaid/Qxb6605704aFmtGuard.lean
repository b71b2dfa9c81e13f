/-
  WALKS OF THE GUARDS: zzBytes_.. (21, 26, 29, 32), tooBigB1 (22).
-/
import Derived.Test.Qxb6605704aFmtEncN
namespace Go.Proofs.Qxb6605704aFmt
open Go.RowKit

/-- THE SLICE VALUE v READS AS THE NODES ns. -/
def RdN (w : World) (row : Option Nat) (v : Value) (ns : List Nd) : Prop :=
  ∃ a c, v = .slice a ns.length c ∧ (ns.length ≠ 0 → ∃ b o, a = some ⟨b, o, none⟩ ∧ NdsAt w row b o ns)

theorem NdAt.svAt {w : World} {row : Option Nat} {b o : Nat} {n : Nd} (h : NdAt w row b o n) (k : n.Ok) : ∃ a c, w.cell? ⟨b, o + 65, none⟩ = some (.slice a n.sig.length c) := by
  obtain ⟨a, c, e, _⟩ := h.sig
  exact ⟨a, c, by rw [h.sv k, e]⟩

/-- The guard's answer: where it is true the lengths are small. -/
def ZzB (ns : List Nd) (e : Ending) : Prop := ∃ r, e = .returned (.bool r) ∧ (r = true → ns.length ≤ 1048576 ∧ ∀ n ∈ ns, n.sig.length ≤ 1048576)
theorem ZzB.no (ns : List Nd) : ZzB ns (.returned (.bool false)) := ⟨false, rfl, fun h => by cases h⟩
theorem ZzB.yes (ns : List Nd) (h1 : ns.length ≤ 1048576) (h2 : ∀ n ∈ ns, n.sig.length ≤ 1048576) : ZzB ns (.returned (.bool true)) := ⟨true, rfl, fun _ => ⟨h1, h2⟩⟩
/-- Bounds on the first m signatures. -/
def SmallTo (ns : List Nd) (m : Nat) : Prop := ∀ n ∈ ns.take m, n.sig.length ≤ 1048576
theorem SmallTo.zero (ns : List Nd) : SmallTo ns 0 := fun n h => by simp at h
theorem SmallTo.succ {ns : List Nd} {m : Nat} (h : SmallTo ns m) (hm : m < ns.length) {sl : Nat} (e : ns[m].sig.length = sl) (hl : (sl : Int) ≤ 1048576) : SmallTo ns (m + 1) := fun n hn => by
  rw [List.take_succ_eq_append_getElem hm] at hn
  rcases List.mem_append.1 hn with hn | hn
  · exact h n hn
  · simp at hn; subst hn; omega
theorem SmallTo.all {ns : List Nd} (h : SmallTo ns ns.length) : ∀ n ∈ ns, n.sig.length ≤ 1048576 := fun n hn => h n (by rw [List.take_length]; exact hn)
/-- It returns a bool. -/
def RetB (e : Ending) : Prop := ∃ r, e = .returned (.bool r)
theorem RetB.mk (r : Bool) : RetB (.returned (.bool r)) := ⟨r, rfl⟩

/-- .. and of a second slice. -/
def ZzB2 (ns : List Nd) (xs : List Int) (e : Ending) : Prop := ∃ r, e = .returned (.bool r) ∧ (r = true → ns.length ≤ 1048576 ∧ (∀ n ∈ ns, n.sig.length ≤ 1048576) ∧ xs.length ≤ 1048576)
theorem ZzB2.no (ns : List Nd) (xs : List Int) : ZzB2 ns xs (.returned (.bool false)) := ⟨false, rfl, fun h => by cases h⟩
theorem ZzB2.yes (ns : List Nd) (xs : List Int) (h1 : ns.length ≤ 1048576) (h2 : ∀ n ∈ ns, n.sig.length ≤ 1048576) (h3 : xs.length ≤ 1048576) : ZzB2 ns xs (.returned (.bool true)) := ⟨true, rfl, fun _ => ⟨h1, h2, h3⟩⟩

set_option maxHeartbeats 1000000 in
theorem zz21_any (v bvv : Value) (ns : List Nd) (xs : List Int) (w : World) (hv : RdN w none v ns) (hb : Rd w bvv xs) (k : ∀ n ∈ ns, n.Ok) (hN : ns.length ≤ 9223372036854775807) :
    Calls Tryf.prog 21 #[v, bvv] w fun e w' => ZzB2 ns xs e ∧ w' = w := by
  obtain ⟨a, c, rfl, hns⟩ := hv
  obtain ⟨a2, c2, rfl, _⟩ := hb
  go_enter Tryf.func21, Tryf.ntmps21
  go_wp2
  all_goals try (go_ret; exact ⟨ZzB2.no _ _, rfl⟩)
  go_loop [5, 6] (fun z i => ∃ (m : Nat) (y : Int), m ≤ ns.length ∧ i = .int .i64 m ∧ z = .int .i64 y ∧ SmallTo ns m) (fun _ i => ns.length - (intOf i).toNat)
  case atStart => exact ⟨0, _, Nat.zero_le _, rfl, rfl, SmallTo.zero ns⟩
  case round =>
    obtain ⟨m, y, hm, rfl, rfl, hsm⟩ := hrel
    by_cases hlt : m < ns.length
    · obtain ⟨b, o, rfl, hnd⟩ := hns (by omega)
      have hi : (m : Int) < ns.length := by omega
      have km := k _ (List.getElem_mem hlt)
      obtain ⟨a3, c3, hc⟩ := (hnd m _ (List.getElem?_eq_getElem hlt)).svAt km
      generalize hsl : ns[m].sig.length = sl at hc
      have hsl := hide hsl
      clear hns hnd km
      go_wp2
      all_goals try (go_ret; exact ⟨ZzB2.no _ _, rfl⟩)
      go_round
      case rel => exact ⟨m + 1, _, by omega, by go_num, rfl, hsm.succ hlt (unhide hsl) (by omega)⟩
      case measure => simp [intOf]; omega
    · have hi : ¬ (m : Int) < ns.length := by omega
      have : m = ns.length := by omega
      subst this
      go_wp2
      all_goals try (go_ret; exact ⟨ZzB2.no _ _, rfl⟩)
      go_ret
      exact ⟨ZzB2.yes _ _ (by omega) (SmallTo.all hsm) (by omega), rfl⟩

set_option maxHeartbeats 1000000 in
theorem zz26_any (v : Value) (ns : List Nd) (w : World) (hv : RdN w none v ns) (k : ∀ n ∈ ns, n.Ok) (hN : ns.length ≤ 9223372036854775807) :
    Calls Tryf.prog 26 #[v] w fun e w' => ZzB ns e ∧ w' = w := by
  obtain ⟨a, c, rfl, hns⟩ := hv
  go_enter Tryf.func26, Tryf.ntmps26
  go_wp2
  all_goals try (go_ret; exact ⟨ZzB.no _, rfl⟩)
  go_loop [3, 4] (fun z i => ∃ (m : Nat) (y : Int), m ≤ ns.length ∧ i = .int .i64 m ∧ z = .int .i64 y ∧ SmallTo ns m) (fun _ i => ns.length - (intOf i).toNat)
  case atStart => exact ⟨0, _, Nat.zero_le _, rfl, rfl, SmallTo.zero ns⟩
  case round =>
    obtain ⟨m, y, hm, rfl, rfl, hsm⟩ := hrel
    by_cases hlt : m < ns.length
    · obtain ⟨b, o, rfl, hnd⟩ := hns (by omega)
      have hi : (m : Int) < ns.length := by omega
      have km := k _ (List.getElem_mem hlt)
      obtain ⟨a3, c3, hc⟩ := (hnd m _ (List.getElem?_eq_getElem hlt)).svAt km
      generalize hsl : ns[m].sig.length = sl at hc
      have hsl := hide hsl
      clear hns hnd km
      go_wp2
      all_goals try (go_ret; exact ⟨ZzB.no _, rfl⟩)
      go_round
      case rel => exact ⟨m + 1, _, by omega, by go_num, rfl, hsm.succ hlt (unhide hsl) (by omega)⟩
      case measure => simp [intOf]; omega
    · have hi : ¬ (m : Int) < ns.length := by omega
      have : m = ns.length := by omega
      subst this
      go_wp2
      all_goals try (go_ret; exact ⟨ZzB.no _, rfl⟩)
      go_ret
      exact ⟨ZzB.yes _ (by omega) (SmallTo.all hsm), rfl⟩

set_option maxHeartbeats 1000000 in
theorem zz29_any (v : Value) (ns : List Nd) (lim : Int) (w : World) (hv : RdN w none v ns) (k : ∀ n ∈ ns, n.Ok) (hN : ns.length ≤ 9223372036854775807) :
    Calls Tryf.prog 29 #[v, .int .i64 lim] w fun e w' => ZzB ns e ∧ w' = w := by
  obtain ⟨a, c, rfl, hns⟩ := hv
  go_enter Tryf.func29, Tryf.ntmps29
  go_wp2
  all_goals try (go_ret; exact ⟨ZzB.no _, rfl⟩)
  go_loop [5, 6] (fun z i => ∃ (m : Nat) (y : Int), m ≤ ns.length ∧ i = .int .i64 m ∧ z = .int .i64 y ∧ SmallTo ns m) (fun _ i => ns.length - (intOf i).toNat)
  case atStart => exact ⟨0, _, Nat.zero_le _, rfl, rfl, SmallTo.zero ns⟩
  case round =>
    obtain ⟨m, y, hm, rfl, rfl, hsm⟩ := hrel
    by_cases hlt : m < ns.length
    · obtain ⟨b, o, rfl, hnd⟩ := hns (by omega)
      have hi : (m : Int) < ns.length := by omega
      have km := k _ (List.getElem_mem hlt)
      obtain ⟨a3, c3, hc⟩ := (hnd m _ (List.getElem?_eq_getElem hlt)).svAt km
      generalize hsl : ns[m].sig.length = sl at hc
      have hsl := hide hsl
      clear hns hnd km
      go_wp2
      all_goals try (go_ret; exact ⟨ZzB.no _, rfl⟩)
      go_round
      case rel => exact ⟨m + 1, _, by omega, by go_num, rfl, hsm.succ hlt (unhide hsl) (by omega)⟩
      case measure => simp [intOf]; omega
    · have hi : ¬ (m : Int) < ns.length := by omega
      have : m = ns.length := by omega
      subst this
      go_wp2
      all_goals try (go_ret; exact ⟨ZzB.no _, rfl⟩)
      go_ret
      exact ⟨ZzB.yes _ (by omega) (SmallTo.all hsm), rfl⟩

set_option maxHeartbeats 1000000 in
theorem zz32_any (v : Value) (ns : List Nd) (lim : Int) (w : World) (hv : RdN w none v ns) (k : ∀ n ∈ ns, n.Ok) (hN : ns.length ≤ 9223372036854775807) :
    Calls Tryf.prog 32 #[v, .int .i64 lim] w fun e w' => ZzB ns e ∧ w' = w := by
  obtain ⟨a, c, rfl, hns⟩ := hv
  go_enter Tryf.func32, Tryf.ntmps32
  go_wp2
  all_goals try (go_ret; exact ⟨ZzB.no _, rfl⟩)
  go_loop [5, 6] (fun z i => ∃ (m : Nat) (y : Int), m ≤ ns.length ∧ i = .int .i64 m ∧ z = .int .i64 y ∧ SmallTo ns m) (fun _ i => ns.length - (intOf i).toNat)
  case atStart => exact ⟨0, _, Nat.zero_le _, rfl, rfl, SmallTo.zero ns⟩
  case round =>
    obtain ⟨m, y, hm, rfl, rfl, hsm⟩ := hrel
    by_cases hlt : m < ns.length
    · obtain ⟨b, o, rfl, hnd⟩ := hns (by omega)
      have hi : (m : Int) < ns.length := by omega
      have km := k _ (List.getElem_mem hlt)
      obtain ⟨a3, c3, hc⟩ := (hnd m _ (List.getElem?_eq_getElem hlt)).svAt km
      generalize hsl : ns[m].sig.length = sl at hc
      have hsl := hide hsl
      clear hns hnd km
      go_wp2
      all_goals try (go_ret; exact ⟨ZzB.no _, rfl⟩)
      go_round
      case rel => exact ⟨m + 1, _, by omega, by go_num, rfl, hsm.succ hlt (unhide hsl) (by omega)⟩
      case measure => simp [intOf]; omega
    · have hi : ¬ (m : Int) < ns.length := by omega
      have : m = ns.length := by omega
      subst this
      go_wp2
      all_goals try (go_ret; exact ⟨ZzB.no _, rfl⟩)
      go_ret
      exact ⟨ZzB.yes _ (by omega) (SmallTo.all hsm), rfl⟩

def ZzX (xs : List Int) (e : Ending) : Prop := ∃ r, e = .returned (.bool r) ∧ (r = true → xs.length ≤ 1048576)
theorem ZzX.no (xs : List Int) : ZzX xs (.returned (.bool false)) := ⟨false, rfl, fun h => by cases h⟩
theorem ZzX.yes (xs : List Int) (h : xs.length ≤ 1048576) : ZzX xs (.returned (.bool true)) := ⟨true, rfl, fun _ => h⟩
set_option maxHeartbeats 400000 in
theorem zz9_any (v : Value) (xs : List Int) (w : World) (hr : Rd w v xs) (hl : xs.length ≤ 9223372036854775807) : Calls Tryf.prog 9 #[v] w fun e w' => ZzX xs e ∧ w' = w := by
  obtain ⟨a, c, rfl, _⟩ := hr
  by_cases h : (1048576 : Int) < xs.length
  · go_enter Tryf.func9, Tryf.ntmps9
    go_wp2
    go_ret
    exact ⟨ZzX.no _, rfl⟩
  · go_enter Tryf.func9, Tryf.ntmps9
    go_wp2
    go_ret
    exact ⟨ZzX.yes _ (by omega), rfl⟩

/-! ### tooBig -/
def sigs (ns : List Nd) : Nat := (ns.map (·.sig.length)).sum
theorem sigs_snoc (ns : List Nd) (k : Nat) (h : k < ns.length) : sigs (ns.take (k + 1)) = sigs (ns.take k) + ns[k].sig.length := by
  unfold sigs
  rw [List.take_succ_eq_append_getElem h, List.map_append, List.sum_append]
  simp
/-- What tooBigB1's answer says. -/
def TooB (ns : List Nd) (x : Int) (e : Ending) : Prop := ∃ r, e = .returned (.bool r) ∧ (r = false → ns.length ≤ 16384 ∧ x + 96 * ns.length + sigs ns ≤ 1048576)
theorem TooB.yes (ns : List Nd) (x : Int) : TooB ns x (.returned (.bool true)) := ⟨true, rfl, fun h => by cases h⟩
theorem TooB.dec (ns : List Nd) (x z : Int) (h : ns.length ≤ 16384) (hz : z = x + 96 * ns.length + sigs ns) : TooB ns x (.returned (.bool (decide (1048576 < z)))) :=
  ⟨_, rfl, fun h' => ⟨h, by have := of_decide_eq_false h'; omega⟩⟩

set_option maxHeartbeats 1000000 in
theorem tooBig_any (v : Value) (ns : List Nd) (x : Int) (w : World) (hv : RdN w none v ns) (k : ∀ n ∈ ns, n.Ok ∧ n.sig.length ≤ 281474976710656) (hN : ns.length ≤ 9223372036854775807) (hx : 0 ≤ x) (hx1 : x ≤ 281474976710656) :
    Calls Tryf.prog 22 #[v, .int .i64 x] w fun e w' => TooB ns x e ∧ w' = w := by
  obtain ⟨a, c, rfl, hns⟩ := hv
  by_cases hb : 1048576 < x
  · go_enter Tryf.func22, Tryf.ntmps22
    go_wp2
    go_ret
    exact ⟨TooB.yes _ _, rfl⟩
  by_cases hb2 : (16384 : Int) < ns.length
  · have hd : decide (1048576 < x) = false := decide_eq_false hb
    go_enter Tryf.func22, Tryf.ntmps22
    go_wp2
    go_ret
    exact ⟨TooB.yes _ _, rfl⟩
  have hd : decide (1048576 < x) = false := decide_eq_false hb
  have hd2 : decide ((16384 : Int) < ns.length) = false := decide_eq_false hb2
  go_enter Tryf.func22, Tryf.ntmps22
  go_wp2
  go_loop [5, 21] (fun z i => ∃ (m : Nat), m ≤ ns.length ∧ i = .int .i64 m ∧ z = .int .i64 (x + 96 * ns.length + sigs (ns.take m)) ∧ x + 96 * ns.length + sigs (ns.take m) ≤ 4000000) (fun _ i => ns.length - (intOf i).toNat)
  case atStart => exact ⟨0, Nat.zero_le _, rfl, by simp [sigs], by simp [sigs]; omega⟩
  case round =>
    obtain ⟨m, hm, rfl, rfl, hbd⟩ := hrel
    by_cases hlt : m < ns.length
    · obtain ⟨b, o, rfl, hnd⟩ := hns (by omega)
      have hi : (m : Int) < ns.length := by omega
      have km := k _ (List.getElem_mem hlt)
      obtain ⟨a3, c3, hc⟩ := (hnd m _ (List.getElem?_eq_getElem hlt)).svAt km.1
      have hs := hide (sigs_snoc ns m hlt)
      have km2 := km.2
      generalize ns[m].sig.length = sl at hc hs km2
      generalize sigs (ns.take m) = q at hbd hs
      clear hns hnd km
      go_wp2
      · go_ret
        exact ⟨TooB.yes _ _, rfl⟩
      go_round
      case rel => exact ⟨m + 1, by omega, by go_num, by rw [unhide hs]; go_num, by rw [unhide hs]; omega⟩
      case measure => simp [intOf]; omega
    · have hi : ¬ (m : Int) < ns.length := by omega
      have : m = ns.length := by omega
      subst this
      rw [List.take_length] at *
      go_wp2
      go_ret
      exact ⟨TooB.dec _ _ _ (by omega) rfl, rfl⟩
end Go.Proofs.Qxb6605704aFmt
