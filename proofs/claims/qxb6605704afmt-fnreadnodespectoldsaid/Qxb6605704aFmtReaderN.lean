/-
  THE READER: the walks of ReadKey (50), ReadPublicKey (41), readNode (33), ZZreadNode (13) where nothing fails.
-/
import Derived.Test.Qxb6605704aFmtReaderB
namespace Go.Proofs.Qxb6605704aFmt
open Go.RowKit

/-- A block apart from the reader's and its data's is written. -/
theorem RS.set {w : World} {rb : Nat} {v : Value} {G : List Int} {off : Nat} {err : Value} (h : RS w rb v G off err) {b : Nat} (o : Nat) (cs : List Value) (hb : rb ≠ b) (hv : ∀ k, v.ownBlock = some k → k ≠ b) : RS (w.setCells b o cs) rb v G off err :=
  h.kept2 (by rw [setCells_size]; exact Nat.le_refl _) (setCells_other _ _ hb _ _ _) fun k hk => setCells_other _ _ (hv k hk) _ _ _

set_option maxHeartbeats 1600000 in
theorem readKey_ok (rb : Nat) (v : Value) (G : List Int) (off : Nat) (w : World) (h : RS w rb v G off .nilIface) (hb : Byts G) (hc : le32at G off = 1209251014) (hl : off + 36 ≤ G.length) :
    Calls Tryf.prog 50 #[.pointer (some ⟨rb, 0, none⟩)] w fun e w' => e = .returned (.iface 31 (.agg (bv ((G.drop (off + 4)).take 32)).toArray)) ∧ RS w' rb v G (off + 36) .nilIface ∧ w.grownBy w' (some rb) := by
  have hc' := hide hc
  clear hc
  have h256 := fun w (hS : RS w rb v G (off + 4) .nilIface) => int256_ok rb v G (off + 4) w hS (by omega)
  obtain ⟨xs, hxs⟩ : ∃ xs, (G.drop (off + 4)).take 32 = xs := ⟨_, rfl⟩
  rw [hxs] at h256 ⊢
  clear hxs
  go_enter Tryf.func50, Tryf.ntmps50
  go_wp2_with fail
  refine (con_ok rb v G off _ h (by omega) hb).mono ?_
  rintro e w1 ⟨rfl, hS, hg⟩
  rw [unhide hc']
  go_wp2_with fail
  refine (err_any rb .nilIface _ hS.c2 (.inl rfl)).mono ?_
  rintro e w2 ⟨rfl, rfl⟩
  go_wp2_with fail
  refine (h256 _ hS).mono ?_
  rintro e w3 ⟨rfl, hS3, hg3⟩
  go_wp2
  go_ret
  exact ⟨rfl, hS3, grown_trans hg hg3⟩

theorem assert31 (w : World) (x : Value) : (Instr.typeAssert (.iface 31 x) 77 31 true).run Tryf.prog w = .ok (.tuple #[x, .bool true]) w := by kernel_rfl

set_option maxHeartbeats 1600000 in
theorem readPub_ok (rb : Nat) (v : Value) (G : List Int) (off : Nat) (s : ByteArray) (w : World) (h : RS w rb v G off .nilIface) (hb : Byts G) (hc : le32at G off = 1209251014) (hl : off + 36 ≤ G.length) :
    Calls Tryf.prog 41 #[.pointer (some ⟨rb, 0, none⟩), .string s] w fun e w' => e = .returned (.agg (bv ((G.drop (off + 4)).take 32)).toArray) ∧ RS w' rb v G (off + 36) .nilIface ∧ w.grownBy w' (some rb) := by
  obtain ⟨xs, hxs⟩ : ∃ xs, (G.drop (off + 4)).take 32 = xs := ⟨_, rfl⟩
  have hx : xs.length = 32 := by rw [← hxs]; simp; omega
  have hx' := hide hx
  have hk := readKey_ok rb v G off (w.alloc (.cells (List.replicate 32 (Value.int .u8 0)).toArray 31)) (h.alloc _) hb hc hl
  rw [hxs] at hk ⊢
  clear hxs hx
  go_enter Tryf.func41, Tryf.ntmps41
  go_wp2_with fail
  refine hk.mono ?_
  rintro e w1 ⟨rfl, hS, hg⟩
  have hta := assert31
  have hlt := h.lt
  have hpos := hg.size
  simp only [World.size_alloc] at hpos
  have hsz : (bv xs).toArray.size = 32 := by simp [bv_length, unhide hx']
  have hone := all_oneCell_toArray (bv_one xs)
  have ht0 : w1.there w.heap.size 0 32 := there_of_block (hg.block w.heap.size (by simp) (by simp; omega)) (there_alloc w (List.replicate 32 (.int .u8 0)) 31)
  have ht1 : (w1.alloc (.cells (List.replicate 32 (Value.int .u8 0)).toArray 31)).there w1.heap.size 0 32 := there_alloc w1 (List.replicate 32 (.int .u8 0)) 31
  have hr1 := World.rangeAt_setCells_same (w1.alloc (.cells (List.replicate 32 (Value.int .u8 0)).toArray 31)) w1.heap.size 0 (bv xs) (by rw [bv_length, unhide hx']; exact ht1)
  have ht2 : ((w1.alloc (.cells (List.replicate 32 (Value.int .u8 0)).toArray 31)).setCells w1.heap.size 0 (bv xs)).there w.heap.size 0 32 := there_of_block ((setCells_other _ _ (by omega) _ _ _).trans (Below.heap_alloc _ _ _ (by omega))) ht0
  have hr2 := World.rangeAt_setCells_same ((w1.alloc (.cells (List.replicate 32 (Value.int .u8 0)).toArray 31)).setCells w1.heap.size 0 (bv xs)) w.heap.size 0 (bv xs) (by rw [bv_length, unhide hx']; exact ht2)
  have hi : (Tryf.prog.info? 31).map (·.size) = some (bv xs).length := by rw [bv_length, unhide hx']; exact Tryf.size31
  go_wp2_with (first
    | (refine wpList_store_mid rfl 31 (.tmp 5) (.tmp 11) rfl w1.heap.size 0 (bv xs).toArray rfl rfl ?h1 ?h2 hone ?_; rotate_right)
    | (refine wpList_load_mid rfl 31 (.tmp 5) rfl w1.heap.size 0 rfl (bv xs) _ hr1 Tryf.underlying31 rfl hi ?_)
    | (refine wpList_store_mid rfl 31 (.tmp 4) (.tmp 20) rfl w.heap.size 0 (bv xs).toArray rfl rfl ?h3 ?h4 hone ?_; rotate_right))
  case h1 => rw [hsz]; exact ht1
  case h2 => rw [hsz]; exact Tryf.size31
  case h3 => rw [hsz]; exact ht2
  case h4 => rw [hsz]; exact Tryf.size31
  have hown := h.own
  refine bodyPost_ret (v := .agg (bv xs).toArray) ?_ rfl ⟨rfl, ?_, ?_⟩
  · simp only [results, Tryf.results41]
    have hld := run_loadVar_mid (P := Tryf.prog) _ w.heap.size 0 31 (bv xs) _ hr2 Tryf.underlying31 rfl hi
    simp [asAddr, Act.put]
    exact hld
  · exact ((hS.alloc _).set 0 (bv xs) (by omega) fun k hk => by have := (hown k hk).1; omega).set 0 (bv xs) (by omega) fun k hk => by have := (hown k hk).1; omega
  · refine grown_into (w0 := w1) hg ?_ 0 (bv xs)
    exact grown_into (grownBy_refl _ _) (grownBy_refl _ _) 0 (bv xs)

/-- A bytes field of n bytes begins at off, its head hd bytes long. -/
structure FieldAt (G : List Int) (off hd n : Nat) : Prop where
  head : (hd = 1 ∧ n < 254 ∧ G[off]?.getD 0 = (n : Int)) ∨ (hd = 4 ∧ G[off]?.getD 0 = 254 ∧ le24at G (off + 1) = (n : Int))
  fits : off + hd + n + padN hd n ≤ G.length

theorem bytes_ok (rb : Nat) (v : Value) (G : List Int) (off hd n : Nat) (w : World) (h : RS w rb v G off .nilIface) (hb : Byts G) (hf : FieldAt G off hd n) :
    Calls Tryf.prog 43 #[.pointer (some ⟨rb, 0, none⟩)] w fun e w' => ∃ a c, e = .returned (.slice a n c) ∧ RS w' rb v G (off + hd + n + padN hd n) .nilIface ∧ w.grownBy w' (some rb) ∧ Own w' w.heap.size (.slice a n c) ((G.drop (off + hd)).take n) ∧ nilS (.slice a n c) = decide (n = 0) := by
  have hfit := hf.fits
  have hlen : ((G.drop (off + hd)).take n).length = n := by simp; omega
  have key : Calls Tryf.prog 43 #[.pointer (some ⟨rb, 0, none⟩)] w fun e w' => ∃ u, e = .returned u ∧ RS w' rb v G (off + hd + n + padN hd n) .nilIface ∧ w.grownBy w' (some rb) ∧ Own w' w.heap.size u ((G.drop (off + hd)).take n) ∧ nilS u = decide (n = 0) := by
    rcases hf.head with ⟨rfl, hn, hx⟩ | ⟨rfl, hx, hx2⟩
    · exact bytes_short rb v G off n w h hx hn hfit
    · exact bytes_long rb v G off n w h hb hx hx2 hfit
  refine key.mono ?_
  rintro e w' ⟨u, rfl, hS, hg, ho, hn⟩
  obtain ⟨a, c, e, _⟩ := ho.rd
  rw [hlen] at e
  subst e
  exact ⟨a, c, rfl, hS, hg, ho, hn⟩

/-- One more piece is written into a block, behind what lies there. -/
theorem fill {w : World} {p k n : Nat} {cs ds : List Value} (ht : w.there p 0 n) (hr : w.rangeAt p 0 cs) (hk : cs.length = k) (hn : k + ds.length ≤ n) : (w.setCells p k ds).rangeAt p 0 (cs ++ ds) ∧ (w.setCells p k ds).there p 0 n := by
  subst hk
  refine ⟨range_append (World.rangeAt_setCells_apart hr p cs.length ds (by omega)) ?_, World.there_setCells ht _ _ _⟩
  rw [Nat.zero_add]
  exact World.rangeAt_setCells_same w p cs.length ds fun j hj => by have := ht (cs.length + j) (by omega); simpa using this

/-- A node's cells, all zero. -/
def zero34 : List Value := List.replicate 64 (Value.int .u8 0) ++ [Value.int .i32 0, Value.slice none 0 0]
/-- The node that lies at off. -/
structure NodeAt (G : List Int) (off hd n : Nat) : Prop where
  con : le32at G off = 1209251014
  fld : FieldAt G (off + 72) hd n
def ndAt (G : List Int) (off hd n : Nat) (u : Value) : Nd := ⟨(G.drop (off + 4)).take 32, (G.drop (off + 36)).take 32, wrap32 (le32at G (off + 68)), (G.drop (off + 72 + hd)).take n, u⟩

theorem Own.mono {w : World} {B B' : Nat} {v : Value} {xs : List Int} (h : Own w B v xs) (hB : B' ≤ B) : Own w B' v xs := by
  rcases h with h | ⟨g, cap, h0, h1, h2⟩
  · exact .inl h
  · exact .inr ⟨g, cap, h0, Nat.le_trans hB h1, h2⟩
theorem grown_in {w w1 : World} {r : Option Nat} (hg : w.grownBy w1 r) (o : Nat) (cs : List Value) : w.grownBy (w1.setCells w.heap.size o cs) r := by
  refine ⟨(setCells_os _ _ _ _).trans hg.os, (setCells_tape _ _ _ _).trans hg.tape, (setCells_output _ _ _ _).trans hg.output, by rw [setCells_size]; exact hg.size, fun j hj hn => ?_⟩
  rw [setCells_other _ _ (by omega)]
  exact hg.block j hj hn

set_option maxHeartbeats 3200000 in
theorem readNode_ok (rb : Nat) (v : Value) (G : List Int) (off hd n : Nat) (w : World) (h : RS w rb v G off .nilIface) (hb : Byts G) (hN : NodeAt G off hd n) :
    Calls Tryf.prog 33 #[.pointer (some ⟨rb, 0, none⟩)] w fun e w' => ∃ a c, e = .returned (.agg (ndAt G off hd n (.slice a n c)).cells.toArray) ∧ RS w' rb v G (off + 72 + hd + n + padN hd n) .nilIface ∧ w.grownBy w' (some rb) ∧ Own w' w.heap.size (.slice a n c) ((G.drop (off + 72 + hd)).take n) ∧ nilS (.slice a n c) = decide (n = 0) := by
  have hfit := hN.fld.fits
  have k1 := fun s w (hS : RS w rb v G off .nilIface) => readPub_ok rb v G off s w hS hb hN.con (by omega)
  have k2 := fun w (hS : RS w rb v G (off + 36) .nilIface) => int256_ok rb v G (off + 36) w hS (by omega)
  have k3 := fun w (hS : RS w rb v G (off + 68) .nilIface) => int_ok rb v G (off + 68) w hS (by omega) hb
  have k4 := fun w (hS : RS w rb v G (off + 72) .nilIface) => bytes_ok rb v G (off + 72) hd n w hS hb hN.fld
  unfold ndAt
  obtain ⟨xs, hxs⟩ : ∃ xs, (G.drop (off + 4)).take 32 = xs := ⟨_, rfl⟩
  obtain ⟨ys, hys⟩ : ∃ ys, (G.drop (off + 36)).take 32 = ys := ⟨_, rfl⟩
  obtain ⟨zs, hzs⟩ : ∃ zs, (G.drop (off + 72 + hd)).take n = zs := ⟨_, rfl⟩
  obtain ⟨ver, hver⟩ : ∃ ver, wrap32 (le32at G (off + 68)) = ver := ⟨_, rfl⟩
  have hx : xs.length = 32 := by rw [← hxs]; simp; omega
  have hy : ys.length = 32 := by rw [← hys]; simp; omega
  rw [hxs] at k1 ⊢
  rw [hys] at k2 ⊢
  rw [hver] at k3 ⊢
  rw [hzs] at k4 ⊢
  clear hxs hys hzs hver hN
  have hx' := hide hx
  have hy' := hide hy
  clear hx hy
  have hlt := h.lt
  have hown := h.own
  have t0 : (w.alloc (.cells zero34.toArray 34)).there w.heap.size 0 66 := there_alloc w zero34 34
  have h0 := h.alloc (.cells zero34.toArray 34)
  go_enter Tryf.func33, Tryf.ntmps33
  go_wp2_with fail
  refine (k1 _ _ h0).mono ?_
  rintro e w1 ⟨rfl, hS1, hg1⟩
  have t1 : w1.there w.heap.size 0 66 := there_of_block (hg1.block w.heap.size (by simp) (by simp; omega)) t0
  have hsx : (bv xs).toArray.size = 32 := by simp [bv_length, unhide hx']
  have hsy : (bv ys).toArray.size = 32 := by simp [bv_length, unhide hy']
  have onex := all_oneCell_toArray (bv_one xs)
  have oney := all_oneCell_toArray (bv_one ys)
  have r1 : w1.rangeAt w.heap.size 0 [] := fun j u hj => by simp at hj
  obtain ⟨r1', t1'⟩ := fill (ds := bv xs) t1 r1 rfl (by rw [bv_length, unhide hx']; decide)
  rw [List.nil_append] at r1'
  have hS1' : RS (w1.setCells w.heap.size 0 (bv xs)) rb v G (off + 36) .nilIface := hS1.set 0 (bv xs) (by omega) fun k hk => by have := (hown k hk).1; omega
  have hg1' : w.grownBy (w1.setCells w.heap.size 0 (bv xs)) (some rb) := grown_into (w0 := w1) hg1 (grownBy_refl _ _) 0 (bv xs)
  go_wp2_with (refine wpList_store_mid rfl 31 (.tmp 5) (.tmp 4) rfl w.heap.size 0 (bv xs).toArray rfl rfl ?h1 ?h2 onex ?_; rotate_right)
  case h1 => rw [hsx]; exact fun j hj => t1 j (by omega)
  case h2 => rw [hsx]; exact Tryf.size31
  refine (k2 _ hS1').mono ?_
  rintro e w2 ⟨rfl, hS2, hg2⟩
  have hz1 := hg1'.size
  have hp1 : w.heap.size < (w1.setCells w.heap.size 0 (bv xs)).heap.size := by
    have := hg1.size
    rw [setCells_size]; simp at this; omega
  have b2 := hg2.block w.heap.size hp1 (by simp; omega)
  obtain ⟨r2', t2'⟩ := fill (k := 32) (ds := bv ys) (there_of_block b2 t1') (range_of_block b2 r1') (by rw [bv_length, unhide hx']) (by rw [bv_length, unhide hy']; decide)
  have hS2' : RS (w2.setCells w.heap.size 32 (bv ys)) rb v G (off + 68) .nilIface := hS2.set 32 (bv ys) (by omega) fun k hk => by have := (hown k hk).1; omega
  have hg2' : w.grownBy (w2.setCells w.heap.size 32 (bv ys)) (some rb) := grown_in (grown_trans hg1' hg2) 32 (bv ys)
  clear r1' t1' r1 t1 t0 h0
  have t2 := there_of_block b2 (World.there_setCells (there_of_block (hg1.block w.heap.size (by simp) (by simp; omega)) (there_alloc w zero34 34)) w.heap.size 0 (bv xs))
  go_wp2_with (refine wpList_store_mid rfl 32 (.tmp 8) (.tmp 7) rfl w.heap.size 32 (bv ys).toArray rfl rfl ?h3 ?h4 oney ?_; rotate_right)
  case h3 => rw [hsy]; exact fun j hj => by have := t2 (32 + j) (by simp [zero34]; omega); simpa using this
  case h4 => rw [hsy]; exact Tryf.size32
  refine (k3 _ hS2').mono ?_
  rintro e w3 ⟨rfl, hS3, hg3⟩
  have hp2 : w.heap.size < (w2.setCells w.heap.size 32 (bv ys)).heap.size := by
    have := hg2.size
    rw [setCells_size]; omega
  have b3 := hg3.block w.heap.size hp2 (by simp; omega)
  have t3 := there_of_block b3 t2'
  have r3 := range_of_block b3 r2'
  obtain ⟨o64, c64⟩ := Option.isSome_iff_exists.1 (t3 64 (by decide)).1
  have f64 := (t3 64 (by decide)).2
  simp only [Nat.zero_add] at c64 f64
  obtain ⟨r3', t3'⟩ := fill (k := 64) (ds := [.int .i32 ver]) t3 r3 (by rw [List.length_append, bv_length, bv_length, unhide hx', unhide hy']) (by simp)
  have hS3' : RS (w3.setCells w.heap.size 64 [.int .i32 ver]) rb v G (off + 72) .nilIface := hS3.set 64 _ (by omega) fun k hk => by have := (hown k hk).1; omega
  have hg3' : w.grownBy (w3.setCells w.heap.size 64 [.int .i32 ver]) (some rb) := grown_in (grown_trans hg2' hg3) 64 _
  go_wp2_with fail
  refine (k4 _ hS3').mono ?_
  rintro e w4 ⟨a, c, rfl, hS4, hg4, ho4, hn4⟩
  have hp3 : w.heap.size < (w3.setCells w.heap.size 64 [.int .i32 ver]).heap.size := by
    have := hg3.size
    rw [setCells_size]; omega
  have b4 := hg4.block w.heap.size hp3 (by simp; omega)
  have t4 := there_of_block b4 t3'
  have r4 := range_of_block b4 r3'
  obtain ⟨o65, c65⟩ := Option.isSome_iff_exists.1 (t4 65 (by decide)).1
  have f65 := (t4 65 (by decide)).2
  simp only [Nat.zero_add] at c65 f65
  obtain ⟨r4', t4'⟩ := fill (k := 65) (ds := [.slice a n c]) t4 r4 (by rw [List.length_append, List.length_append, bv_length, bv_length, unhide hx', unhide hy']; rfl) (by simp)
  have hS4' : RS (w4.setCells w.heap.size 65 [.slice a n c]) rb v G (off + 72 + hd + n + padN hd n) .nilIface := hS4.set 65 _ (by omega) fun k hk => by have := (hown k hk).1; omega
  have hg4' : w.grownBy (w4.setCells w.heap.size 65 [.slice a n c]) (some rb) := grown_in (grown_trans hg3' hg4) 65 _
  have hcs : (bv xs ++ bv ys ++ [.int .i32 ver]) ++ [.slice a n c] = (⟨xs, ys, ver, zs, .slice a n c⟩ : Nd).cells := by simp [Nd.cells]
  rw [hcs] at r4'
  have hi : (Tryf.prog.info? 34).map (·.size) = some (⟨xs, ys, ver, zs, .slice a n c⟩ : Nd).cells.length := by
    rw [← hcs]; simp only [List.length_append, bv_length, unhide hx', unhide hy']; exact Tryf.size34
  go_wp2
  refine bodyPost_ret (v := .agg (⟨xs, ys, ver, zs, .slice a n c⟩ : Nd).cells.toArray) ?_ rfl ⟨a, c, rfl, hS4', hg4', ?_, hn4⟩
  · simp only [results, Tryf.results33]
    have hld := run_loadVar_mid (P := Tryf.prog) _ w.heap.size 0 34 _ _ r4' Tryf.underlying34 rfl hi
    simp [asAddr]
    exact hld
  · have hw := ho4.lt
    refine Own.mono (ho4.kept (w' := w4.setCells w.heap.size 65 [.slice a n c]) (by rw [setCells_size]; exact Nat.le_refl _) fun g hg => setCells_other _ _ (by have := (hw g hg).1; omega) _ _ _) (by omega)

set_option maxHeartbeats 1600000 in
theorem zzReadNode_ok (rb : Nat) (v : Value) (G : List Int) (off hd n : Nat) (w : World) (h : RS w rb v G off .nilIface) (hb : Byts G) (hN : NodeAt G off hd n) :
    Calls Tryf.prog 13 #[.pointer (some ⟨rb, 0, none⟩)] w fun e w' => ∃ a c, e = .returned (.agg (ndAt G off hd n (.slice a n c)).cells.toArray) ∧ RS w' rb v G (off + 72 + hd + n + padN hd n) .nilIface ∧ w.grownBy w' (some rb) ∧ Own w' w.heap.size (.slice a n c) ((G.drop (off + 72 + hd)).take n) ∧ nilS (.slice a n c) = decide (n = 0) := by
  have hfit := hN.fld.fits
  have hlen : ∀ u, (ndAt G off hd n u).cells.length = 66 := fun u => by simp [ndAt, Nd.cells, bv_length]; omega
  have h1cell : ∀ a c, ∀ x ∈ (ndAt G off hd n (.slice a n c)).cells, x.oneCell' = true := by
    intro a c x hx
    simp only [ndAt, Nd.cells, List.mem_append] at hx
    rcases hx with hx | hx | hx
    · exact bv_one _ x hx
    · exact bv_one _ x hx
    · simp at hx; rcases hx with rfl | rfl <;> rfl
  have hk := readNode_ok rb v G off hd n (w.alloc (.cells zero34.toArray 34)) (h.alloc _) hb hN
  generalize hnd : ndAt G off hd n = nd at *
  have hlt := h.lt
  have hown := h.own
  go_enter Tryf.func13, Tryf.ntmps13
  go_wp2_with fail
  refine hk.mono ?_
  rintro e w1 ⟨a, c, rfl, hS, hg, ho, hn⟩
  have hz := hlen (.slice a n c)
  have hone := all_oneCell_toArray (h1cell a c)
  obtain ⟨cs, hcs⟩ : ∃ cs, (nd (.slice a n c)).cells = cs := ⟨_, rfl⟩
  rw [hcs] at hz hone ⊢
  have hcs' := hide hcs
  clear hcs
  have t1 : w1.there w.heap.size 0 66 := there_of_block (hg.block w.heap.size (by simp) (by simp; omega)) (there_alloc w zero34 34)
  have hr := World.rangeAt_setCells_same w1 w.heap.size 0 cs (by rw [hz]; exact t1)
  have hi : (Tryf.prog.info? 34).map (·.size) = some cs.length := by rw [hz]; exact Tryf.size34
  have hs1 := hg.size
  simp only [World.size_alloc] at hs1 ho
  go_wp2_with (refine wpList_store_mid rfl 34 (.tmp 2) (.tmp 4) rfl w.heap.size 0 cs.toArray rfl rfl ?h1 ?h2 hone ?_; rotate_right)
  case h1 => rw [show cs.toArray.size = 66 from hz]; exact t1
  case h2 => exact hi
  refine bodyPost_ret (v := .agg cs.toArray) ?_ rfl ⟨a, c, by rw [unhide hcs'], ?_, ?_, ?_, hn⟩
  · simp only [results, Tryf.results13]
    have hld := run_loadVar_mid (P := Tryf.prog) _ w.heap.size 0 34 _ _ hr Tryf.underlying34 rfl hi
    simp [asAddr, Act.put]
    exact hld
  · exact hS.set 0 cs (by omega) fun k hk => by have := (hown k hk).1; omega
  · exact grown_into (w0 := w1) hg (grownBy_refl _ _) 0 cs
  · have hw := ho.lt
    exact Own.mono (ho.kept (w' := w1.setCells w.heap.size 0 cs) (by rw [setCells_size]; exact Nat.le_refl _) fun g hg => setCells_other _ _ (by have := (hw g hg).1; omega) _ _ _) (by omega)
end Go.Proofs.Qxb6605704aFmt
