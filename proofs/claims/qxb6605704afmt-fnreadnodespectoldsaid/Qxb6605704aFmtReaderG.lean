/-
  THE READER: ReadPublicKey (41) where no ed25519 key lies.
-/
import Derived.Test.Qxb6605704aFmtReaderF
namespace Go.Proofs.Qxb6605704aFmt
open Go.RowKit

set_option maxHeartbeats 1600000 in
/-- ReadPublicKey behind a ReadKey that gives an ed25519 key. -/
theorem readPub_gen (rb : Nat) (v : Value) (G : List Int) (off : Nat) (s : ByteArray) (w : World) (h : RS w rb v G off .nilIface) (xs : List Int) (hx : xs.length = 32) (Pr : Nat → Value → Prop)
    (hk : Calls Tryf.prog 50 #[.pointer (some ⟨rb, 0, none⟩)] (w.alloc (.cells (List.replicate 32 (Value.int .u8 0)).toArray 31)) fun e w' => e = .returned (.iface 31 (.agg (bv xs).toArray)) ∧ ∃ off' err', RS w' rb v G off' err' ∧ Pr off' err' ∧ (w.alloc (.cells (List.replicate 32 (Value.int .u8 0)).toArray 31)).grownBy w' (some rb)) :
    Calls Tryf.prog 41 #[.pointer (some ⟨rb, 0, none⟩), .string s] w fun e w' => e = .returned (.agg (bv xs).toArray) ∧ ∃ off' err', RS w' rb v G off' err' ∧ Pr off' err' ∧ w.grownBy w' (some rb) := by
  have hx' := hide hx
  clear hx
  go_enter Tryf.func41, Tryf.ntmps41
  go_wp2_with fail
  refine hk.mono ?_
  rintro e w1 ⟨rfl, off', err', hS, hPr, hg⟩
  have hta := assert31
  have hlt := h.lt
  have hpos := hg.size
  simp only [World.size_alloc] at hpos
  have hsz : (bv xs).toArray.size = 32 := by simp [bv_length, unhide hx']
  have hone := all_oneCell_toArray (bv_one xs)
  have ht0 : w1.there w.heap.size 0 32 := there_of_block (hg.block w.heap.size (by simp) (by simp; omega)) (there_alloc w (List.replicate 32 (.int .u8 0)) 31)
  have ht1 : (w1.alloc (.cells (List.replicate 32 (Value.int .u8 0)).toArray 31)).there w1.heap.size 0 32 := there_alloc w1 (List.replicate 32 (.int .u8 0)) 31
  have hr1 := World.rangeAt_setCells_same (w1.alloc (.cells (List.replicate 32 (Value.int .u8 0)).toArray 31)) w1.heap.size 0 (bv xs) (by rw [bv_length, unhide hx']; exact ht1)
  have ht2 : ((w1.alloc (.cells (List.replicate 32 (Value.int .u8 0)).toArray 31)).setCells w1.heap.size 0 (bv xs)).there w.heap.size 0 32 := there_of_block ((setCells_other _ _ (by omega) _ _ _).trans (Below.heap_alloc _ _ _ (by omega))) ht0
  have hi : (Tryf.prog.info? 31).map (·.size) = some (bv xs).length := by rw [bv_length, unhide hx']; exact Tryf.size31
  have hown := h.own
  have hr2 := World.rangeAt_setCells_same ((w1.alloc (.cells (List.replicate 32 (Value.int .u8 0)).toArray 31)).setCells w1.heap.size 0 (bv xs)) w.heap.size 0 (bv xs) (by rw [bv_length, unhide hx']; exact ht2)
  go_wp2_with (first
    | (refine wpList_store_mid rfl 31 (.tmp 5) (.tmp 11) rfl w1.heap.size 0 (bv xs).toArray rfl rfl ?h1 ?h2 hone ?_; rotate_right)
    | (refine wpList_load_mid rfl 31 (.tmp 5) rfl w1.heap.size 0 rfl (bv xs) _ hr1 Tryf.underlying31 rfl hi ?_)
    | (refine wpList_store_mid rfl 31 (.tmp 4) (.tmp 20) rfl w.heap.size 0 (bv xs).toArray rfl rfl ?h3 ?h4 hone ?_; rotate_right))
  case h1 => rw [hsz]; exact ht1
  case h2 => rw [hsz]; exact Tryf.size31
  case h3 => rw [hsz]; exact ht2
  case h4 => rw [hsz]; exact Tryf.size31
  refine bodyPost_ret (v := .agg (bv xs).toArray) ?_ rfl ⟨rfl, off', err', ?_, hPr, ?_⟩
  · simp only [results, Tryf.results41]
    have hld := run_loadVar_mid (P := Tryf.prog) _ w.heap.size 0 31 (bv xs) _ hr2 Tryf.underlying31 rfl hi
    simp [asAddr, Act.put]
    exact hld
  · exact ((hS.alloc _).set 0 (bv xs) (by omega) fun k hk => by have := (hown k hk).1; omega).set 0 (bv xs) (by omega) fun k hk => by have := (hown k hk).1; omega
  · refine grown_into (w0 := w1) hg ?_ 0 (bv xs)
    exact grown_into (grownBy_refl _ _) (grownBy_refl _ _) 0 (bv xs)

theorem assert_no (w : World) (k : Value) (hk : KeyNo k) : (Instr.typeAssert k 77 31 true).run Tryf.prog w = .ok (.tuple #[.agg (bv zs32).toArray, .bool false]) w := by
  rcases hk with rfl | ⟨t, x, rfl | rfl | rfl, rfl⟩
  · kernel_rfl
  · kernel_rfl
  · kernel_rfl
  · kernel_rfl

/-- Fail, whether the error is set or not. -/
theorem fail_some (rb : Nat) (v : Value) (G : List Int) (off : Nat) (err : Value) (f : ByteArray) (a : Value) (w : World) (h : RS w rb v G off err) (he : ErrK err) (hs : Sprints f a w.drew) :
    Calls Tryf.prog 36 #[.pointer (some ⟨rb, 0, none⟩), .string f, a] w fun e w' => e = .returned (.tuple #[]) ∧ ∃ u, RS w' rb v G off (.iface 84 u) ∧ w.grownBy w' (some rb) := by
  rcases he with rfl | ⟨u, rfl⟩
  · exact fail_ok rb v G off f a w h hs
  · refine (fail_bad rb u f a w h.c2).mono ?_
    rintro e w' ⟨rfl, rfl⟩
    exact ⟨rfl, u, h, grownBy_refl _ _⟩

set_option maxHeartbeats 1600000 in
/-- ReadPublicKey behind a ReadKey that gives no ed25519 key. -/
theorem readPub_no (rb : Nat) (v : Value) (G : List Int) (off : Nat) (s : ByteArray) (w : World) (h : RS w rb v G off .nilIface)
    (hk : Calls Tryf.prog 50 #[.pointer (some ⟨rb, 0, none⟩)] (w.alloc (.cells (List.replicate 32 (Value.int .u8 0)).toArray 31)) fun e w' => ∃ k, e = .returned k ∧ KeyNo k ∧ ∃ off' err', RS w' rb v G off' err' ∧ ErrK err' ∧ (w.alloc (.cells (List.replicate 32 (Value.int .u8 0)).toArray 31)).grownBy w' (some rb)) :
    Calls Tryf.prog 41 #[.pointer (some ⟨rb, 0, none⟩), .string s] w fun e w' => e = .returned (.agg (bv zs32).toArray) ∧ ∃ off' u, RS w' rb v G off' (.iface 84 u) ∧ w.grownBy w' (some rb) := by
  have hta := assert_no
  have hx' : Hid (zs32.length = 32) := rfl
  generalize zs32 = xs at *
  go_enter Tryf.func41, Tryf.ntmps41
  go_wp2_with fail
  refine hk.mono ?_
  rintro e w1 ⟨k, rfl, hkn, off', err', hS, he, hg⟩
  have hta1 := fun w => hta w k hkn
  clear hta
  have hlt := h.lt
  have hpos := hg.size
  simp only [World.size_alloc] at hpos
  have hsz : (bv xs).toArray.size = 32 := by simp [bv_length, unhide hx']
  have hone := all_oneCell_toArray (bv_one xs)
  have ht0 : w1.there w.heap.size 0 32 := there_of_block (hg.block w.heap.size (by simp) (by simp; omega)) (there_alloc w (List.replicate 32 (.int .u8 0)) 31)
  have ht1 : (w1.alloc (.cells (List.replicate 32 (Value.int .u8 0)).toArray 31)).there w1.heap.size 0 32 := there_alloc w1 (List.replicate 32 (.int .u8 0)) 31
  have hr1 := World.rangeAt_setCells_same (w1.alloc (.cells (List.replicate 32 (Value.int .u8 0)).toArray 31)) w1.heap.size 0 (bv xs) (by rw [bv_length, unhide hx']; exact ht1)
  have ht2 : ((w1.alloc (.cells (List.replicate 32 (Value.int .u8 0)).toArray 31)).setCells w1.heap.size 0 (bv xs)).there w.heap.size 0 32 := there_of_block ((setCells_other _ _ (by omega) _ _ _).trans (Below.heap_alloc _ _ _ (by omega))) ht0
  have hi : (Tryf.prog.info? 31).map (·.size) = some (bv xs).length := by rw [bv_length, unhide hx']; exact Tryf.size31
  have hown := h.own
  have hS2 := (hS.alloc (.cells (List.replicate 32 (Value.int .u8 0)).toArray 31)).set 0 (bv xs) (b := w1.heap.size) (by omega) fun k hk => by have := (hown k hk).1; omega
  have hg2 : w.grownBy ((w1.alloc (.cells (List.replicate 32 (Value.int .u8 0)).toArray 31)).setCells w1.heap.size 0 (bv xs)) (some rb) := grown_trans (grown_trans (grown_alloc w _ _) hg) (grown_into (grownBy_refl _ _) (grownBy_refl _ _) 0 (bv xs))
  have hkn' := hide hkn
  clear hkn
  go_wp2_with (refine wpList_store_mid rfl 31 (.tmp 5) (.tmp 11) rfl w1.heap.size 0 (bv xs).toArray rfl rfl ?h1 ?h2 hone ?_; rotate_right)
  case h1 => rw [hsz]; exact ht1
  case h2 => rw [hsz]; exact Tryf.size31
  refine (fail_some rb v G off' err' _ _ _ (hS2.alloc _) he (spn_key s _)).mono ?_
  rintro e w3 ⟨rfl, u, hS3, hg3⟩
  have hz2 : ((w1.alloc (.cells (List.replicate 32 (Value.int .u8 0)).toArray 31)).setCells w1.heap.size 0 (bv xs)).heap.size = w1.heap.size + 1 := by rw [setCells_size]; simp
  have hr3 : w3.rangeAt w1.heap.size 0 (bv xs) := range_of_block (hg3.block w1.heap.size (by rw [World.size_alloc]; exact Nat.lt_of_lt_of_le (Nat.lt_succ_self _) (Nat.le_succ_of_le (Nat.le_of_eq hz2.symm))) (by simp; omega)) (World.rangeAt_alloc hr1 _)
  have hbk : ∀ k, k < w1.heap.size → some k ≠ some rb → w3.heap[k]? = w1.heap[k]? := fun k hk hn =>
    (hg3.block k (by rw [World.size_alloc]; exact Nat.lt_of_lt_of_le hk (Nat.le_succ_of_le (Nat.le_trans (Nat.le_succ _) (Nat.le_of_eq hz2.symm)))) hn).trans (((Below.heap_alloc _ _ _ (Nat.lt_of_lt_of_le hk (Nat.le_trans (Nat.le_succ _) (Nat.le_of_eq hz2.symm)))).trans (setCells_other _ _ (by omega) _ _ _)).trans (Below.heap_alloc _ _ _ hk))
  have ht3 : w3.there w.heap.size 0 32 := there_of_block (hbk w.heap.size (by omega) (by simp; omega)) ht0
  have hr4 := World.rangeAt_setCells_same w3 w.heap.size 0 (bv xs) (by rw [bv_length, unhide hx']; exact ht3)
  have hs3 := hg3.size
  have hg03 : w.grownBy w3 (some rb) := grown_trans (grown_trans hg2 (grown_alloc _ _ _)) hg3
  have hw13 : w1.heap.size ≤ w3.heap.size := Nat.le_trans (Nat.le_trans (Nat.le_succ _) (Nat.le_of_eq hz2.symm)) (Nat.le_trans (by rw [World.size_alloc]; exact Nat.le_succ _) hs3)
  clear hg3 hs3 hr1 ht1 ht2 hS2 hg2 hz2 hbk
  go_wp2_with (first
    | (refine wpList_load_mid rfl 31 (.tmp 5) rfl w1.heap.size 0 rfl (bv xs) _ hr3 Tryf.underlying31 rfl hi ?_)
    | (refine wpList_store_mid rfl 31 (.tmp 4) (.tmp 20) rfl w.heap.size 0 (bv xs).toArray rfl rfl ?h3 ?h4 hone ?_; rotate_right))
  case h3 => rw [hsz]; exact ht3
  case h4 => rw [hsz]; exact Tryf.size31
  refine bodyPost_ret (v := .agg (bv xs).toArray) ?_ rfl ⟨rfl, off', u, ?_, ?_⟩
  · simp only [results, Tryf.results41]
    have hld := run_loadVar_mid (P := Tryf.prog) _ w.heap.size 0 31 (bv xs) _ hr4 Tryf.underlying31 rfl hi
    simp [asAddr, Act.put]
    exact hld
  · exact hS3.set 0 (bv xs) (by omega) fun k hk => by have := (hown k hk).1; omega
  · exact grown_in hg03 0 (bv xs)

/-- ReadPublicKey, where no ed25519 key lies whole: zeros, and the error is set. -/
theorem readPub_fails (rb : Nat) (v : Value) (G : List Int) (off : Nat) (s : ByteArray) (w : World) (h : RS w rb v G off .nilIface) (hb : Byts G) (hno : ¬ (le32at G off = 1209251014 ∧ off + 36 ≤ G.length)) :
    Calls Tryf.prog 41 #[.pointer (some ⟨rb, 0, none⟩), .string s] w fun e w' => e = .returned (.agg (bv zs32).toArray) ∧ ∃ off' u, RS w' rb v G off' (.iface 84 u) ∧ w.grownBy w' (some rb) := by
  have hA := h.alloc (.cells (List.replicate 32 (Value.int .u8 0)).toArray 31)
  by_cases h4 : off + 4 ≤ G.length
  · by_cases hc : le32at G off = 1209251014
    · refine (readPub_gen rb v G off s w h zs32 rfl (fun _ err => ∃ u, err = .iface 84 u) ?_).mono ?_
      · refine (readKey_zero rb v G off _ hA hb hc h4 (by have := fun x => hno ⟨hc, x⟩; omega)).mono ?_
        rintro e w' ⟨rfl, off', u, hS, hg⟩
        exact ⟨rfl, off', _, hS, ⟨u, rfl⟩, hg⟩
      · rintro e w' ⟨rfl, off', err', hS, ⟨u, rfl⟩, hg⟩
        exact ⟨rfl, off', u, hS, hg⟩
    · exact readPub_no rb v G off s w h (readKey_other rb v G off _ hA hb h4 _ rfl hc)
  · refine readPub_no rb v G off s w h ((readKey_nil rb v G off _ hA (by omega)).mono ?_)
    rintro e w' ⟨rfl, u, hS, hg⟩
    exact ⟨_, rfl, .inl rfl, off, _, hS, .inr ⟨u, rfl⟩, hg⟩
end Go.Proofs.Qxb6605704aFmt
