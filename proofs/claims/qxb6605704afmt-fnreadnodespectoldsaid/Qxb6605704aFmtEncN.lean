/-
  NODES IN MEMORY; WALKS OF Node.appendBare (39) AND Nodes.AppendTL (19).
-/
import Derived.Test.Qxb6605704aFmtEncB
namespace Go.Proofs.Qxb6605704aFmt
open Go.RowKit

/-- ONE NODE, AS DATA: its fields, and the slice value that is its signature. -/
structure Nd where
  id : List Int
  ov : List Int
  ver : Int
  sig : List Int
  sv : Value

def Nd.cells (n : Nd) : List Value := bv n.id ++ (bv n.ov ++ [.int .i32 n.ver, n.sv])
structure Nd.Ok (n : Nd) : Prop where
  id : n.id.length = 32
  ov : n.ov.length = 32
  idb : Byts n.id
  ovb : Byts n.ov
  ver0 : -2147483648 ≤ n.ver
  ver1 : n.ver < 2147483648
  sigb : Byts n.sig
theorem Nd.Ok.length {n : Nd} (h : n.Ok) : n.cells.length = 66 := by simp [Nd.cells, bv_length, h.id, h.ov]

/-- A bare overlay.node. -/
def encN (n : Nd) : List Int := (le4 1209251014 ++ n.id) ++ (n.ov ++ (le4 (u32 n.ver) ++ encB n.sig))
theorem encN_length (n : Nd) (h : n.Ok) : (encN n).length = 72 + fieldLen n.sig.length := by
  simp only [encN, List.length_append, le4_length, encB_length, h.id, h.ov]; omega

/-- A node lies in block b from offset o on; neither its cells nor its signature's bytes lie in the block 'row'. -/
structure NdAt (w : World) (row : Option Nat) (b o : Nat) (n : Nd) : Prop where
  cells : w.rangeAt b o n.cells
  ne : some b ≠ row
  sig : RdA w row n.sv n.sig

theorem NdAt.id {w : World} {row : Option Nat} {b o : Nat} {n : Nd} (h : NdAt w row b o n) : w.rangeAt b o (bv n.id) := range_take h.cells
theorem NdAt.ov {w : World} {row : Option Nat} {b o : Nat} {n : Nd} (h : NdAt w row b o n) (k : n.Ok) : w.rangeAt b (o + 32) (bv n.ov) := by
  have := range_take (range_drop h.cells)
  rwa [bv_length, k.id] at this
theorem NdAt.ver {w : World} {row : Option Nat} {b o : Nat} {n : Nd} (h : NdAt w row b o n) (k : n.Ok) : w.cell? ⟨b, o + 64, none⟩ = some (.int .i32 n.ver) := by
  have := range_drop (range_drop h.cells) 0 (.int .i32 n.ver) rfl
  rwa [bv_length, bv_length, k.id, k.ov] at this
theorem NdAt.sv {w : World} {row : Option Nat} {b o : Nat} {n : Nd} (h : NdAt w row b o n) (k : n.Ok) : w.cell? ⟨b, o + 65, none⟩ = some n.sv := by
  have := range_drop (range_drop h.cells) 1 n.sv rfl
  rwa [bv_length, bv_length, k.id, k.ov] at this
theorem App.nd {B : Nat} {w w1 : World} {v v1 : Value} {xs ys : List Int} {b o : Nat} {n : Nd} (h : App B w v xs w1 v1 ys) (k : n.Ok) (hn : NdAt w v.ownBlock b o n) : NdAt w1 v1.ownBlock b o n := by
  obtain ⟨h1, h2⟩ := h.range hn.cells (by rw [k.length]; decide) hn.ne
  exact ⟨h1, h2, h.rdA hn.sig⟩

set_option maxHeartbeats 1000000 in
theorem bare_any (B : Nat) (v : Value) (xs : List Int) (b o : Nat) (n : Nd) (w : World) (k : n.Ok) (hown : Own w B v xs) (hB : B ≤ w.heap.size) (hn : NdAt w v.ownBlock b o n) (hs : n.sig.length ≤ 16777215) (hl : xs.length + n.sig.length ≤ 140737487000000) :
    Calls Tryf.prog 39 #[.pointer (some ⟨b, o, none⟩), v] w fun e w' => ∃ v', e = .returned v' ∧ App B w v xs w' v' (encN n) := by
  have i31 : (Tryf.prog.info? 31).map (·.size) = some (bv n.id).length := by rw [bv_length, k.id]; exact Tryf.size31
  have i32 : (Tryf.prog.info? 32).map (·.size) = some (bv n.ov).length := by rw [bv_length, k.ov]; exact Tryf.size32
  have hid := hn.id
  go_enter Tryf.func39, Tryf.ntmps39
  go_wp2_with (refine wpList_load_mid rfl 31 (.tmp 7) rfl b o rfl (bv n.id) _ hid Tryf.underlying31 rfl i31 ?_)
  refine (keyTL_any B v xs n.id _ k.id hown hB (by omega)).mono ?_
  rintro e w1 ⟨v1, rfl, h1⟩
  have n1 := h1.nd k hn
  have hov := n1.ov k
  have s1 := h1.grow.size
  clear hid i31
  go_wp2_with (refine wpList_load_mid rfl 32 (.tmp 14) rfl b (o + 32) rfl (bv n.ov) _ hov Tryf.underlying32 rfl i32 ?_)
  refine (app256_any B v1 _ n.ov _ k.ov h1.own (by omega) (by simp [le4_length, k.id]; omega)).mono ?_
  rintro e w2 ⟨v2, rfl, h2⟩
  have n2 := h2.nd k n1
  have hver := n2.ver k
  have s2 := h2.grow.size
  have h12 := App.trans hown h1 h2
  clear hov i32 h1 h2 n1
  go_wp2_with fail
  refine (appInt_any B v2 _ n.ver _ h12.own (by omega) (by simp [le4_length, k.id, k.ov]; omega)).mono ?_
  rintro e w3 ⟨v3, rfl, h3⟩
  have n3 := h3.nd k n2
  have hsv := n3.sv k
  have hsr := n3.sig
  have s3 := h3.grow.size
  have h13 := App.trans hown h12 h3
  clear hver h12 h3 n2
  go_wp2_with fail
  refine (appBytes_any B v3 _ n.sig n.sv _ h13.own (by omega) hsr hs (by simp [le4_length, k.id, k.ov]; omega)).mono ?_
  rintro e w4 ⟨v4, rfl, h4⟩
  have h14 := App.trans hown h13 h4
  clear hsv hsr h13 h4 n3
  go_wp2
  go_ret
  refine ⟨v4, rfl, ?_⟩
  unfold encN
  simpa using h14

/-- The nodes lie in block b from offset o on, one behind the other. -/
def NdsAt (w : World) (row : Option Nat) (b o : Nat) (ns : List Nd) : Prop := ∀ i n, ns[i]? = some n → NdAt w row b (o + i * 66) n
def encNs (ns : List Nd) : List Int := ns.flatMap encN
def encTL (ns : List Nd) : List Int := (le4 3834063118 ++ le4 ns.length) ++ encNs ns
theorem encNs_snoc (ns : List Nd) (k : Nat) (h : k < ns.length) : encNs (ns.take (k + 1)) = encNs (ns.take k) ++ encN ns[k] := by
  unfold encNs
  rw [List.take_succ_eq_append_getElem h, List.flatMap_append, List.flatMap_cons, List.flatMap_nil, List.append_nil]
theorem encNs_take_le (ns : List Nd) (k : Nat) : (encNs (ns.take k)).length ≤ (encNs ns).length := by
  conv => rhs; rw [← List.take_append_drop k ns]
  unfold encNs
  rw [List.flatMap_append, List.length_append]
  omega
theorem App.nds {B : Nat} {w w1 : World} {v v1 : Value} {xs ys : List Int} {b o : Nat} {ns : List Nd} (h : App B w v xs w1 v1 ys) (k : ∀ n ∈ ns, n.Ok) (hn : NdsAt w v.ownBlock b o ns) : NdsAt w1 v1.ownBlock b o ns :=
  fun i n e => h.nd (k n (List.mem_of_getElem? e)) (hn i n e)

set_option maxHeartbeats 1000000 in
theorem appTL_any (B : Nat) (v : Value) (xs : List Int) (a : Option Addr) (c : Nat) (ns : List Nd) (w : World) (k : ∀ n ∈ ns, n.Ok ∧ n.sig.length ≤ 16777215) (hown : Own w B v xs) (hB : B ≤ w.heap.size)
    (hns : ns.length ≠ 0 → ∃ b o, a = some ⟨b, o, none⟩ ∧ NdsAt w v.ownBlock b o ns) (hN : ns.length ≤ 1048576) (hl : xs.length + (encNs ns).length ≤ 140737480000000) :
    Calls Tryf.prog 19 #[.slice a ns.length c, v] w fun e w' => ∃ v', e = .returned v' ∧ App B w v xs w' v' (encTL ns) := by
  go_enter Tryf.func19, Tryf.ntmps19
  go_wp2_with fail
  refine (appCon_any B v xs 3834063118 _ (by decide) (by decide) hown hB (by omega)).mono ?_
  rintro e w1 ⟨v1, rfl, h1⟩
  have s1 := h1.grow.size
  go_wp2_with fail
  refine (appInt_any B v1 _ ns.length _ h1.own (by omega) (by simp [le4_length]; omega)).mono ?_
  rintro e w2 ⟨v2, rfl, h2⟩
  have s2 := h2.grow.size
  have hu : u32 (ns.length : Int) = ns.length := by unfold u32; omega
  rw [hu] at h2
  have h12 := App.trans hown h1 h2
  clear hu h1 h2
  go_wp2
  go_loopw [1, 14] (fun b i wr => ∃ m : Nat, m ≤ ns.length ∧ i = .int .i64 m ∧ App B w v xs wr b ((le4 3834063118 ++ le4 ns.length) ++ encNs (ns.take m))) (fun _ i _ => ns.length - (intOf i).toNat)
  case atStart => exact ⟨0, Nat.zero_le _, rfl, by simpa [encNs] using h12⟩
  case round =>
    obtain ⟨m, hm, rfl, hA⟩ := hrel
    by_cases hlt : m < ns.length
    · obtain ⟨b, o, rfl, hnd⟩ := hns (by omega)
      have hi : (m : Int) < ns.length := by omega
      have km := k _ (List.getElem_mem hlt)
      have hm1 := hA.nd km.1 (hnd m _ (List.getElem?_eq_getElem hlt))
      have hle := encNs_take_le ns m
      have hle2 := encNs_take_le ns (m + 1)
      rw [encNs_snoc ns m hlt, List.length_append, encN_length _ km.1] at hle2
      have hsn := hide (encNs_snoc ns m hlt)
      have sA := hA.grow.size
      go_wp2_with fail
      refine (bare_any B u1 _ b (o + m * 66) ns[m] _ km.1 hA.own (by omega) hm1 km.2 ?_).mono ?_
      · simp [le4_length]; unfold fieldLen at hle2; omega
      rintro e w3 ⟨v3, rfl, h3⟩
      have h13 := App.trans hown hA h3
      clear hm1 hA h3
      go_wp2
      go_roundw
      case rel => exact ⟨m + 1, by omega, by go_num, by rw [unhide hsn]; simpa using h13⟩
      case measure => simp [intOf]; omega
    · have hi : ¬ (m : Int) < ns.length := by omega
      go_wp2
      go_ret
      have : m = ns.length := by omega
      subst this
      exact ⟨_, rfl, by unfold encTL; simpa using hA⟩
end Go.Proofs.Qxb6605704aFmt
