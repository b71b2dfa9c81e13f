/-
  THE READER: readNode (33) and ZZreadNode (13) where no node lies.
-/
import Derived.Test.Qxb6605704aFmtReaderG
namespace Go.Proofs.Qxb6605704aFmt
open Go.RowKit

/-- The first k bytes lie there, behind the right constructor. -/
def Upto (G : List Int) (k : Nat) : Prop := le32at G 0 = 1209251014 ∧ k ≤ G.length
instance (G : List Int) (k : Nat) : Decidable (Upto G k) := inferInstanceAs (Decidable (_ ∧ _))
/-- What the reader says at place k: it stands there without error, or it has failed. -/
def Stands (G : List Int) (k : Nat) (off : Nat) (err : Value) : Prop := (Upto G k ∧ off = k ∧ err = .nilIface) ∨ (¬ Upto G k ∧ ∃ u, err = .iface 84 u)
def idOf (G : List Int) : List Int := if Upto G 36 then (G.drop 4).take 32 else zs32
def ovOf (G : List Int) : List Int := if Upto G 68 then (G.drop 36).take 32 else zs32
def verOf (G : List Int) : Int := if Upto G 72 then wrap32 (le32at G 68) else 0
theorem idOf_length (G : List Int) : (idOf G).length = 32 := by
  unfold idOf; split
  · rename_i h; have := h.2; simp; omega
  · rfl
theorem ovOf_length (G : List Int) : (ovOf G).length = 32 := by
  unfold ovOf; split
  · rename_i h; have := h.2; simp; omega
  · rfl

theorem step_id (rb : Nat) (v : Value) (G : List Int) (s : ByteArray) (w : World) (h : RS w rb v G 0 .nilIface) (hb : Byts G) :
    Calls Tryf.prog 41 #[.pointer (some ⟨rb, 0, none⟩), .string s] w fun e w' => e = .returned (.agg (bv (idOf G)).toArray) ∧ ∃ off err, RS w' rb v G off err ∧ Stands G 36 off err ∧ w.grownBy w' (some rb) := by
  by_cases hu : Upto G 36
  · rw [idOf, if_pos hu]
    refine (readPub_ok rb v G 0 s w h hb hu.1 (by have := hu.2; omega)).mono ?_
    rintro e w' ⟨rfl, hS, hg⟩
    exact ⟨rfl, 36, _, hS, .inl ⟨hu, rfl, rfl⟩, hg⟩
  · rw [idOf, if_neg hu]
    refine (readPub_fails rb v G 0 s w h hb (fun hc => hu ⟨hc.1, by have := hc.2; omega⟩)).mono ?_
    rintro e w' ⟨rfl, off', u, hS, hg⟩
    exact ⟨rfl, off', _, hS, .inr ⟨hu, u, rfl⟩, hg⟩
theorem step_ov (rb : Nat) (v : Value) (G : List Int) (off : Nat) (err : Value) (w : World) (h : RS w rb v G off err) (hs : Stands G 36 off err) :
    Calls Tryf.prog 42 #[.pointer (some ⟨rb, 0, none⟩)] w fun e w' => e = .returned (.agg (bv (ovOf G)).toArray) ∧ ∃ off err, RS w' rb v G off err ∧ Stands G 68 off err ∧ w.grownBy w' (some rb) := by
  by_cases hu : Upto G 68
  · rw [ovOf, if_pos hu]
    rcases hs with ⟨_, rfl, rfl⟩ | ⟨hn, _⟩
    · refine (int256_ok rb v G 36 w h (by have := hu.2; omega)).mono ?_
      rintro e w' ⟨rfl, hS, hg⟩
      exact ⟨rfl, 68, _, hS, .inl ⟨hu, rfl, rfl⟩, hg⟩
    · exact absurd ⟨hu.1, by have := hu.2; omega⟩ hn
  · rw [ovOf, if_neg hu]
    have hd : Dead G off 32 err := by
      rcases hs with ⟨h1, rfl, rfl⟩ | ⟨_, hu'⟩
      · exact .inr ⟨rfl, Nat.lt_of_not_le fun x => hu ⟨h1.1, x⟩⟩
      · exact .inl hu'
    refine (int256_nil rb v G off err w h hd).mono ?_
    rintro e w' ⟨rfl, u, hS, hg⟩
    exact ⟨rfl, off, _, hS, .inr ⟨hu, u, rfl⟩, hg⟩
theorem step_ver (rb : Nat) (v : Value) (G : List Int) (off : Nat) (err : Value) (w : World) (h : RS w rb v G off err) (hb : Byts G) (hs : Stands G 68 off err) :
    Calls Tryf.prog 16 #[.pointer (some ⟨rb, 0, none⟩)] w fun e w' => e = .returned (.int .i32 (verOf G)) ∧ ∃ off err, RS w' rb v G off err ∧ Stands G 72 off err ∧ w.grownBy w' (some rb) := by
  by_cases hu : Upto G 72
  · rw [verOf, if_pos hu]
    rcases hs with ⟨_, rfl, rfl⟩ | ⟨hn, _⟩
    · refine (int_ok rb v G 68 w h (by have := hu.2; omega) hb).mono ?_
      rintro e w' ⟨rfl, hS, hg⟩
      exact ⟨rfl, 72, _, hS, .inl ⟨hu, rfl, rfl⟩, hg⟩
    · exact absurd ⟨hu.1, by have := hu.2; omega⟩ hn
  · rw [verOf, if_neg hu]
    have hd : Dead G off 4 err := by
      rcases hs with ⟨h1, rfl, rfl⟩ | ⟨_, hu'⟩
      · exact .inr ⟨rfl, Nat.lt_of_not_le fun x => hu ⟨h1.1, x⟩⟩
      · exact .inl hu'
    refine (int_nil rb v G off err w h hd).mono ?_
    rintro e w' ⟨rfl, u, hS, hg⟩
    exact ⟨rfl, off, _, hS, .inr ⟨hu, u, rfl⟩, hg⟩
theorem step_sig (rb : Nat) (v : Value) (G : List Int) (off : Nat) (err : Value) (w : World) (h : RS w rb v G off err) (hb : Byts G) (hs : Stands G 72 off err) (hno : ¬ ∃ hd n, NodeAt G 0 hd n) :
    Calls Tryf.prog 43 #[.pointer (some ⟨rb, 0, none⟩)] w fun e w' => e = .returned (.slice none 0 0) ∧ ∃ off u, RS w' rb v G off (.iface 84 u) ∧ w.grownBy w' (some rb) := by
  rcases hs with ⟨h1, rfl, rfl⟩ | ⟨_, u, rfl⟩
  · exact bytes_fails rb v G 72 w h hb fun ⟨hd, n, hf⟩ => hno ⟨hd, n, h1.1, hf⟩
  · refine (bytes_nil rb v G off _ w h (Dead.bad u)).mono ?_
    rintro e w' ⟨rfl, u', hS, hg⟩
    exact ⟨rfl, off, u', hS, hg⟩

set_option maxHeartbeats 3200000 in
theorem readNode_fails (rb : Nat) (v : Value) (G : List Int) (w : World) (h : RS w rb v G 0 .nilIface) (hb : Byts G) (hno : ¬ ∃ hd n, NodeAt G 0 hd n) :
    Calls Tryf.prog 33 #[.pointer (some ⟨rb, 0, none⟩)] w fun e w' => e = .returned (.agg (⟨idOf G, ovOf G, verOf G, [], .slice none 0 0⟩ : Nd).cells.toArray) ∧ ∃ off u, RS w' rb v G off (.iface 84 u) ∧ w.grownBy w' (some rb) := by
  have k1 := fun s w (hS : RS w rb v G 0 .nilIface) => step_id rb v G s w hS hb
  have k2 := fun off err w (hS : RS w rb v G off err) (hs : Stands G 36 off err) => step_ov rb v G off err w hS hs
  have k3 := fun off err w (hS : RS w rb v G off err) (hs : Stands G 68 off err) => step_ver rb v G off err w hS hb hs
  have k4 := fun off err w (hS : RS w rb v G off err) (hs : Stands G 72 off err) => step_sig rb v G off err w hS hb hs hno
  have hx := idOf_length G
  have hy := ovOf_length G
  obtain ⟨xs, hxs⟩ : ∃ xs, idOf G = xs := ⟨_, rfl⟩
  obtain ⟨ys, hys⟩ : ∃ ys, ovOf G = ys := ⟨_, rfl⟩
  obtain ⟨ver, hver⟩ : ∃ ver, verOf G = ver := ⟨_, rfl⟩
  rw [hxs] at k1 hx ⊢
  rw [hys] at k2 hy ⊢
  rw [hver] at k3 ⊢
  clear hxs hys hver hno
  have hx' := hide hx
  have hy' := hide hy
  clear hx hy
  have hlt := h.lt
  have hown := h.own
  have t0 : (w.alloc (.cells zero34.toArray 34)).there w.heap.size 0 66 := there_alloc w zero34 34
  have h0 := h.alloc (.cells zero34.toArray 34)
  go_enter Tryf.func33, Tryf.ntmps33
  go_wp2_with fail
  refine (k1 _ _ h0).mono ?_
  rintro e w1 ⟨rfl, o1, e1, hS1, s1, hg1⟩
  have t1 : w1.there w.heap.size 0 66 := there_of_block (hg1.block w.heap.size (by simp) (by simp; omega)) t0
  have hsx : (bv xs).toArray.size = 32 := by simp [bv_length, unhide hx']
  have hsy : (bv ys).toArray.size = 32 := by simp [bv_length, unhide hy']
  have onex := all_oneCell_toArray (bv_one xs)
  have oney := all_oneCell_toArray (bv_one ys)
  have r1 : w1.rangeAt w.heap.size 0 [] := fun j u hj => by simp at hj
  obtain ⟨r1', t1'⟩ := fill (ds := bv xs) t1 r1 rfl (by rw [bv_length, unhide hx']; decide)
  rw [List.nil_append] at r1'
  have hS1' : RS (w1.setCells w.heap.size 0 (bv xs)) rb v G o1 e1 := hS1.set 0 (bv xs) (by omega) fun k hk => by have := (hown k hk).1; omega
  have hg1' : w.grownBy (w1.setCells w.heap.size 0 (bv xs)) (some rb) := grown_into (w0 := w1) hg1 (grownBy_refl _ _) 0 (bv xs)
  go_wp2_with (refine wpList_store_mid rfl 31 (.tmp 5) (.tmp 4) rfl w.heap.size 0 (bv xs).toArray rfl rfl ?h1 ?h2 onex ?_; rotate_right)
  case h1 => rw [hsx]; exact fun j hj => t1 j (by omega)
  case h2 => rw [hsx]; exact Tryf.size31
  refine (k2 o1 e1 _ hS1' s1).mono ?_
  rintro e w2 ⟨rfl, o2, e2, hS2, s2, hg2⟩
  have hz1 := hg1'.size
  have hp1 : w.heap.size < (w1.setCells w.heap.size 0 (bv xs)).heap.size := by
    have := hg1.size
    rw [setCells_size]; simp at this; omega
  have b2 := hg2.block w.heap.size hp1 (by simp; omega)
  obtain ⟨r2', t2'⟩ := fill (k := 32) (ds := bv ys) (there_of_block b2 t1') (range_of_block b2 r1') (by rw [bv_length, unhide hx']) (by rw [bv_length, unhide hy']; decide)
  have hS2' : RS (w2.setCells w.heap.size 32 (bv ys)) rb v G o2 e2 := hS2.set 32 (bv ys) (by omega) fun k hk => by have := (hown k hk).1; omega
  have hg2' : w.grownBy (w2.setCells w.heap.size 32 (bv ys)) (some rb) := grown_in (grown_trans hg1' hg2) 32 (bv ys)
  clear r1' t1' r1 t1 t0 h0
  have t2 := there_of_block b2 (World.there_setCells (there_of_block (hg1.block w.heap.size (by simp) (by simp; omega)) (there_alloc w zero34 34)) w.heap.size 0 (bv xs))
  go_wp2_with (refine wpList_store_mid rfl 32 (.tmp 8) (.tmp 7) rfl w.heap.size 32 (bv ys).toArray rfl rfl ?h3 ?h4 oney ?_; rotate_right)
  case h3 => rw [hsy]; exact fun j hj => by have := t2 (32 + j) (by simp [zero34]; omega); simpa using this
  case h4 => rw [hsy]; exact Tryf.size32
  refine (k3 o2 e2 _ hS2' s2).mono ?_
  rintro e w3 ⟨rfl, o3, e3, hS3, s3, hg3⟩
  have hp2 : w.heap.size < (w2.setCells w.heap.size 32 (bv ys)).heap.size := by
    have := hg2.size
    rw [setCells_size]; omega
  have b3 := hg3.block w.heap.size hp2 (by simp; omega)
  have t3 := there_of_block b3 t2'
  have r3 := range_of_block b3 r2'
  obtain ⟨o64, c64⟩ := Option.isSome_iff_exists.1 (t3 64 (by decide)).1
  have f64 := (t3 64 (by decide)).2
  simp only [Nat.zero_add] at c64 f64
  obtain ⟨r3', t3'⟩ := fill (k := 64) (ds := [.int .i32 ver]) t3 r3 (by rw [List.length_append, bv_length, bv_length, unhide hx', unhide hy']) (by simp)
  have hS3' : RS (w3.setCells w.heap.size 64 [.int .i32 ver]) rb v G o3 e3 := hS3.set 64 _ (by omega) fun k hk => by have := (hown k hk).1; omega
  have hg3' : w.grownBy (w3.setCells w.heap.size 64 [.int .i32 ver]) (some rb) := grown_in (grown_trans hg2' hg3) 64 _
  go_wp2_with fail
  refine (k4 o3 e3 _ hS3' s3).mono ?_
  rintro e w4 ⟨rfl, o4, u4, hS4, hg4⟩
  have hp3 : w.heap.size < (w3.setCells w.heap.size 64 [.int .i32 ver]).heap.size := by
    have := hg3.size
    rw [setCells_size]; omega
  have b4 := hg4.block w.heap.size hp3 (by simp; omega)
  have t4 := there_of_block b4 t3'
  have r4 := range_of_block b4 r3'
  obtain ⟨o65, c65⟩ := Option.isSome_iff_exists.1 (t4 65 (by decide)).1
  have f65 := (t4 65 (by decide)).2
  simp only [Nat.zero_add] at c65 f65
  obtain ⟨r4', t4'⟩ := fill (k := 65) (ds := [.slice none 0 0]) t4 r4 (by rw [List.length_append, List.length_append, bv_length, bv_length, unhide hx', unhide hy']; rfl) (by simp)
  have hS4' : RS (w4.setCells w.heap.size 65 [.slice none 0 0]) rb v G o4 (.iface 84 u4) := hS4.set 65 _ (by omega) fun k hk => by have := (hown k hk).1; omega
  have hg4' : w.grownBy (w4.setCells w.heap.size 65 [.slice none 0 0]) (some rb) := grown_in (grown_trans hg3' hg4) 65 _
  have hcs : (bv xs ++ bv ys ++ [.int .i32 ver]) ++ [.slice none 0 0] = (⟨xs, ys, ver, [], .slice none 0 0⟩ : Nd).cells := by simp [Nd.cells]
  rw [hcs] at r4'
  have hi : (Tryf.prog.info? 34).map (·.size) = some (⟨xs, ys, ver, [], .slice none 0 0⟩ : Nd).cells.length := by
    rw [← hcs]; simp only [List.length_append, bv_length, unhide hx', unhide hy']; exact Tryf.size34
  go_wp2
  refine bodyPost_ret (v := .agg (⟨xs, ys, ver, [], .slice none 0 0⟩ : Nd).cells.toArray) ?_ rfl ⟨rfl, o4, u4, hS4', hg4'⟩
  · simp only [results, Tryf.results33]
    have hld := run_loadVar_mid (P := Tryf.prog) _ w.heap.size 0 34 _ _ r4' Tryf.underlying34 rfl hi
    simp [asAddr]
    exact hld

set_option maxHeartbeats 1600000 in
theorem zzReadNode_fails (rb : Nat) (v : Value) (G : List Int) (w : World) (h : RS w rb v G 0 .nilIface) (hb : Byts G) (hno : ¬ ∃ hd n, NodeAt G 0 hd n) :
    Calls Tryf.prog 13 #[.pointer (some ⟨rb, 0, none⟩)] w fun e w' => e = .returned (.agg (⟨idOf G, ovOf G, verOf G, [], .slice none 0 0⟩ : Nd).cells.toArray) ∧ ∃ off u, RS w' rb v G off (.iface 84 u) ∧ w.grownBy w' (some rb) := by
  have hk := readNode_fails rb v G (w.alloc (.cells zero34.toArray 34)) (h.alloc _) hb hno
  have hz : (⟨idOf G, ovOf G, verOf G, [], .slice none 0 0⟩ : Nd).cells.length = 66 := by simp [Nd.cells, bv_length, idOf_length, ovOf_length]
  have hone : (⟨idOf G, ovOf G, verOf G, [], .slice none 0 0⟩ : Nd).cells.toArray.all (·.oneCell') = true := all_oneCell_toArray fun x hx => by
    simp only [Nd.cells, List.mem_append] at hx
    rcases hx with hx | hx | hx
    · exact bv_one _ x hx
    · exact bv_one _ x hx
    · simp at hx; rcases hx with rfl | rfl <;> rfl
  obtain ⟨cs, hcs⟩ : ∃ cs, (⟨idOf G, ovOf G, verOf G, [], .slice none 0 0⟩ : Nd).cells = cs := ⟨_, rfl⟩
  rw [hcs] at hk hz hone ⊢
  clear hcs
  have hlt := h.lt
  have hown := h.own
  go_enter Tryf.func13, Tryf.ntmps13
  go_wp2_with fail
  refine hk.mono ?_
  rintro e w1 ⟨rfl, off', u, hS, hg⟩
  have t1 : w1.there w.heap.size 0 66 := there_of_block (hg.block w.heap.size (by simp) (by simp; omega)) (there_alloc w zero34 34)
  have hr := World.rangeAt_setCells_same w1 w.heap.size 0 cs (by rw [hz]; exact t1)
  have hi : (Tryf.prog.info? 34).map (·.size) = some cs.length := by rw [hz]; exact Tryf.size34
  have hs1 := hg.size
  simp only [World.size_alloc] at hs1
  go_wp2_with (refine wpList_store_mid rfl 34 (.tmp 2) (.tmp 4) rfl w.heap.size 0 cs.toArray rfl rfl ?h1 ?h2 hone ?_; rotate_right)
  case h1 => rw [show cs.toArray.size = 66 from hz]; exact t1
  case h2 => exact hi
  refine bodyPost_ret (v := .agg cs.toArray) ?_ rfl ⟨rfl, off', u, ?_, ?_⟩
  · simp only [results, Tryf.results13]
    have hld := run_loadVar_mid (P := Tryf.prog) _ w.heap.size 0 34 _ _ hr Tryf.underlying34 rfl hi
    simp [asAddr, Act.put]
    exact hld
  · exact hS.set 0 cs (by omega) fun k hk => by have := (hown k hk).1; omega
  · exact grown_into (w0 := w1) hg (grownBy_refl _ _) 0 cs
end Go.Proofs.Qxb6605704aFmt
