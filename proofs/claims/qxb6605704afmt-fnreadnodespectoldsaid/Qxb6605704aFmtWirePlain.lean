/-
  PLAIN FACTS ON THE WIRE FORM: what stands where.
-/
import Derived.Test.Qxb6605704aFmtLay
namespace Go.Proofs.Qxb6605704aFmt
open Go.RowKit

theorem get_mid (A B C : List Int) (k j : Nat) (hk : A.length = k) (hj : j < B.length) : (A ++ (B ++ C))[k + j]? = B[j]? := by
  subst hk
  rw [List.getElem?_append_right (by omega), List.getElem?_append_left (by omega)]
  congr 1; omega
theorem get_mid0 (A B C : List Int) (k : Nat) (hk : A.length = k) (hj : 0 < B.length) : (A ++ (B ++ C))[k]? = B[0]? := get_mid A B C k 0 hk hj
theorem le32at_mid (A C : List Int) (x : Int) (k : Nat) (hk : A.length = k) (_h0 : 0 ≤ x) (_h1 : x < 4294967296) : le32at (A ++ (le4 x ++ C)) k = x := by
  unfold le32at
  rw [get_mid0 A (le4 x) C k hk (by simp [le4]), get_mid A (le4 x) C k 1 hk (by simp [le4]), get_mid A (le4 x) C k 2 hk (by simp [le4]), get_mid A (le4 x) C k 3 hk (by simp [le4])]
  simp [le4]
  omega
theorem le4_byts (x : Int) (h0 : 0 ≤ x) (h1 : x < 4294967296) : Byts (le4 x) := by
  intro y hy
  simp [le4] at hy
  rcases hy with rfl | rfl | rfl | rfl <;> omega
theorem headB_byts (n : Nat) (h : n ≤ 16777215) : Byts (headB n) := by
  intro y hy
  unfold headB at hy
  split at hy
  · simp at hy; subst hy; omega
  · simp at hy
    rcases hy with rfl | rfl | rfl | rfl <;> omega
theorem encB_byts (ys : List Int) (h : Byts ys) (hl : ys.length ≤ 16777215) : Byts (encB ys) := by
  unfold encB
  refine ((headB_byts _ hl).append h).append fun y hy => ?_
  have := List.eq_of_mem_replicate hy
  omega
theorem u32_bd (x : Int) : 0 ≤ u32 x ∧ u32 x < 4294967296 := by unfold u32; omega
theorem encN_byts (n : Nd) (k : n.Ok) (hl : n.sig.length ≤ 16777215) : Byts (encN n) := by
  unfold encN
  exact ((le4_byts _ (by decide) (by decide)).append k.idb).append (k.ovb.append ((le4_byts _ (u32_bd _).1 (u32_bd _).2).append (encB_byts _ k.sigb hl)))
theorem encNs_byts (ns : List Nd) (k : ∀ n ∈ ns, n.Ok ∧ n.sig.length ≤ 16777215) : Byts (encNs ns) := by
  intro y hy
  unfold encNs at hy
  rw [List.mem_flatMap] at hy
  obtain ⟨n, hn, hy⟩ := hy
  exact encN_byts n (k n hn).1 (k n hn).2 y hy
theorem encTL_byts (ns : List Nd) (k : ∀ n ∈ ns, n.Ok ∧ n.sig.length ≤ 16777215) (hN : ns.length ≤ 1048576) : Byts (encTL ns) := by
  unfold encTL
  exact ((le4_byts _ (by decide) (by decide)).append (le4_byts _ (by omega) (by omega))).append (encNs_byts ns k)
theorem encTL_length (ns : List Nd) : (encTL ns).length = 8 + (encNs ns).length := by simp [encTL, le4_length]; omega

/-- The node number i, and what stands ahead of it and behind it. -/
theorem encNs_split (ns : List Nd) (i : Nat) (h : i < ns.length) : encNs ns = encNs (ns.take i) ++ (encN ns[i] ++ encNs (ns.drop (i + 1))) := by
  have : ns = ns.take i ++ (ns[i] :: ns.drop (i + 1)) := by rw [List.getElem_cons_drop, List.take_append_drop]
  have e := congrArg (List.flatMap encN) this
  rw [List.flatMap_append, List.flatMap_cons] at e
  exact e

/-- Where node number i begins. -/
def offN (xs : List Int) (ns : List Nd) (i : Nat) : Nat := xs.length + 8 + (encNs (ns.take i)).length
theorem offN_succ (xs : List Int) (ns : List Nd) (i : Nat) (h : i < ns.length) (k : ns[i].Ok) : offN xs ns (i + 1) = offN xs ns i + 72 + fieldLen ns[i].sig.length := by
  unfold offN; rw [encNs_snoc ns i h, List.length_append, encN_length _ k]; omega
theorem offN_all (xs : List Int) (ns : List Nd) : offN xs ns ns.length = (xs ++ encTL ns).length := by
  unfold offN; rw [List.take_length, List.length_append, encTL_length]; omega
theorem offN_zero (xs : List Int) (ns : List Nd) : offN xs ns 0 = xs.length + 8 := by simp [offN, encNs]
theorem offN_le (xs : List Int) (ns : List Nd) (i : Nat) : offN xs ns i ≤ (xs ++ encTL ns).length := by
  unfold offN; rw [List.length_append, encTL_length]; have := encNs_take_le ns i; omega

/-- The whole, cut at node number i. -/
theorem got_split (xs : List Int) (ns : List Nd) (i : Nat) (h : i < ns.length) : ∃ A C, xs ++ encTL ns = A ++ (encN ns[i] ++ C) ∧ A.length = offN xs ns i := by
  refine ⟨xs ++ ((le4 3834063118 ++ le4 ns.length) ++ encNs (ns.take i)), encNs (ns.drop (i + 1)), ?_, ?_⟩
  · unfold encTL; rw [encNs_split ns i h]; simp
  · unfold offN; simp [le4_length]; omega

/-- WHAT STANDS WHERE IN A NODE THAT BEGINS AT k. -/
structure Wire (G : List Int) (k : Nat) (n : Nd) : Prop where
  con : le32at G k = 1209251014
  id : ∀ j, j < 32 → G[k + 4 + j]? = n.id[j]?
  ov : ∀ j, j < 32 → G[k + 36 + j]? = n.ov[j]?
  ver : le32at G (k + 68) = u32 n.ver
  short : n.sig.length < 254 → G[k + 72]? = some (n.sig.length : Int)
  long0 : 254 ≤ n.sig.length → G[k + 72]? = some 254
  long1 : 254 ≤ n.sig.length → G[k + 72 + 1]? = some ((n.sig.length : Int) % 256)
  long2 : 254 ≤ n.sig.length → G[k + 72 + 2]? = some ((n.sig.length : Int) / 256 % 256)
  long3 : 254 ≤ n.sig.length → G[k + 72 + 3]? = some ((n.sig.length : Int) / 65536)
  sig : ∀ j, j < n.sig.length → G[k + 72 + (headB n.sig.length).length + j]? = n.sig[j]?
  pad : ∀ j, j < padB n.sig.length → G[k + 72 + (headB n.sig.length).length + n.sig.length + j]? = some 0
  len : k + 72 + fieldLen n.sig.length ≤ G.length

theorem wire_of (A C : List Int) (n : Nd) (k : Nat) (hA : A.length = k) (h : n.Ok) : Wire (A ++ (encN n ++ C)) k n := by
  have hid := h.id
  have hov := h.ov
  have a1 : A ++ (encN n ++ C) = A ++ (le4 1209251014 ++ (n.id ++ (n.ov ++ (le4 (u32 n.ver) ++ (encB n.sig ++ C))))) := by simp [encN]
  have a2 : A ++ (encN n ++ C) = (A ++ le4 1209251014) ++ (n.id ++ (n.ov ++ (le4 (u32 n.ver) ++ (encB n.sig ++ C)))) := by simp [encN]
  have a3 : A ++ (encN n ++ C) = (A ++ (le4 1209251014 ++ n.id)) ++ (n.ov ++ (le4 (u32 n.ver) ++ (encB n.sig ++ C))) := by simp [encN]
  have a4 : A ++ (encN n ++ C) = (A ++ (le4 1209251014 ++ (n.id ++ n.ov))) ++ (le4 (u32 n.ver) ++ (encB n.sig ++ C)) := by simp [encN]
  have a5 : A ++ (encN n ++ C) = (A ++ (le4 1209251014 ++ (n.id ++ (n.ov ++ le4 (u32 n.ver))))) ++ (headB n.sig.length ++ (n.sig ++ (List.replicate (padB n.sig.length) 0 ++ C))) := by simp [encN, encB]
  have a6 : A ++ (encN n ++ C) = (A ++ (le4 1209251014 ++ (n.id ++ (n.ov ++ (le4 (u32 n.ver) ++ headB n.sig.length))))) ++ (n.sig ++ (List.replicate (padB n.sig.length) 0 ++ C)) := by simp [encN, encB]
  have a7 : A ++ (encN n ++ C) = (A ++ (le4 1209251014 ++ (n.id ++ (n.ov ++ (le4 (u32 n.ver) ++ (headB n.sig.length ++ n.sig)))))) ++ (List.replicate (padB n.sig.length) 0 ++ C) := by simp [encN, encB]
  refine ⟨?_, ?_, ?_, ?_, ?_, ?_, ?_, ?_, ?_, ?_, ?_, ?_⟩
  · rw [a1]; exact le32at_mid _ _ _ _ hA (by decide) (by decide)
  · intro j hj; rw [a2]; exact get_mid _ _ _ _ _ (by simp [le4_length, hA]) (by omega)
  · intro j hj; rw [a3]; exact get_mid _ _ _ _ _ (by simp [le4_length, hA, hid]) (by omega)
  · rw [a4]; exact le32at_mid _ _ _ _ (by simp [le4_length, hA, hid, hov]) (u32_bd _).1 (u32_bd _).2
  · intro hs; rw [a5, get_mid0 _ _ _ (k + 72) (by simp [le4_length, hA, hid, hov]) (by rw [headB_length]; split <;> omega)]; unfold headB; rw [if_pos hs]; rfl
  · intro hs; rw [a5, get_mid0 _ _ _ (k + 72) (by simp [le4_length, hA, hid, hov]) (by rw [headB_length]; split <;> omega)]; unfold headB; rw [if_neg (by omega)]; rfl
  · intro hs; rw [a5, get_mid _ _ _ (k + 72) 1 (by simp [le4_length, hA, hid, hov]) (by rw [headB_length]; split <;> omega)]; unfold headB; rw [if_neg (by omega)]; rfl
  · intro hs; rw [a5, get_mid _ _ _ (k + 72) 2 (by simp [le4_length, hA, hid, hov]) (by rw [headB_length]; split <;> omega)]; unfold headB; rw [if_neg (by omega)]; rfl
  · intro hs; rw [a5, get_mid _ _ _ (k + 72) 3 (by simp [le4_length, hA, hid, hov]) (by rw [headB_length]; split <;> omega)]; unfold headB; rw [if_neg (by omega)]; rfl
  · intro j hj; rw [a6]; exact get_mid _ _ _ _ _ (by simp [le4_length, hA, hid, hov]; omega) hj
  · intro j hj; rw [a7, get_mid _ _ _ (k + 72 + (headB n.sig.length).length + n.sig.length) j (by simp [le4_length, hA, hid, hov]; omega) (by simpa using hj)]; simp [hj]
  · simp only [List.length_append, encN_length n h, hA]; omega

theorem wire_at (xs : List Int) (ns : List Nd) (i : Nat) (h : i < ns.length) (k : ns[i].Ok) : Wire (xs ++ encTL ns) (offN xs ns i) ns[i] := by
  obtain ⟨A, C, e, hA⟩ := got_split xs ns i h
  rw [e]; exact wire_of A C ns[i] _ hA k
theorem got_head (xs : List Int) (ns : List Nd) (hN : ns.length ≤ 1048576) : le32at (xs ++ encTL ns) xs.length = 3834063118 ∧ le32at (xs ++ encTL ns) (xs.length + 4) = ns.length := by
  have e1 : xs ++ encTL ns = xs ++ (le4 3834063118 ++ (le4 ns.length ++ encNs ns)) := by simp [encTL]
  have e2 : xs ++ encTL ns = (xs ++ le4 3834063118) ++ (le4 ns.length ++ encNs ns) := by simp [encTL]
  constructor
  · rw [e1]; exact le32at_mid _ _ _ _ rfl (by decide) (by decide)
  · rw [e2]; exact le32at_mid _ _ _ _ (by simp [le4_length]) (by omega) (by omega)
theorem fieldLen_eq (n : Nat) : fieldLen n = (headB n).length + n + padB n := by
  unfold fieldLen padB; rw [headB_length]; split <;> omega
/-- The sum of the first i fields' lengths, as the law reckons it. -/
def tot (ns : List Nd) (i : Nat) : Nat := (encNs (ns.take i)).length
theorem tot_succ (ns : List Nd) (i : Nat) (h : i < ns.length) (k : ns[i].Ok) : tot ns (i + 1) = tot ns i + (72 + fieldLen ns[i].sig.length) := by
  unfold tot; rw [encNs_snoc ns i h, List.length_append, encN_length _ k]
theorem fieldLen_le (n : Nat) : fieldLen n ≤ n + 8 := by unfold fieldLen; split <;> omega
theorem encNs_le (ns : List Nd) (k : ∀ n ∈ ns, n.Ok) : (encNs ns).length ≤ 80 * ns.length + sigs ns := by
  induction ns with
  | nil => simp [encNs, sigs]
  | cons n ns ih =>
    have h1 := ih fun m hm => k m (List.mem_cons_of_mem _ hm)
    have h2 := encN_length n (k n List.mem_cons_self)
    have h3 := fieldLen_le n.sig.length
    simp only [encNs, List.flatMap_cons, List.length_append, sigs, List.map_cons, List.sum_cons, List.length_cons] at h1 ⊢
    omega
theorem sig_le_sigs (ns : List Nd) (n : Nd) (h : n ∈ ns) : n.sig.length ≤ sigs ns := by
  induction ns with
  | nil => cases h
  | cons m ns ih =>
    simp only [sigs, List.map_cons, List.sum_cons] at ih ⊢
    rcases List.mem_cons.1 h with rfl | h
    · omega
    · have := ih h; omega

theorem RdN.app {B : Nat} {w w1 : World} {v v1 u : Value} {xs ys : List Int} {ns : List Nd} (h : RdN w v.ownBlock u ns) (hA : App B w v xs w1 v1 ys) (k : ∀ n ∈ ns, n.Ok) : RdN w1 v1.ownBlock u ns := by
  obtain ⟨a, c, e, h⟩ := h
  exact ⟨a, c, e, fun hn => let ⟨b, o, e', hr⟩ := h hn; ⟨b, o, e', hA.nds k hr⟩⟩
theorem own_pos {w : World} {B : Nat} {v : Value} {xs : List Int} (h : Own w B v xs) (hn : 0 < xs.length) : ∃ g cap, v = .slice (some ⟨g, 0, none⟩) xs.length cap ∧ xs.length ≤ cap ∧ w.rangeAt g 0 (bv xs) := by
  rcases h with ⟨rfl, rfl⟩ | ⟨g, cap, rfl, _, _, h3, hr, _⟩
  · simp at hn
  · exact ⟨g, cap, rfl, h3, hr⟩

theorem Rd.drewN {w : World} {v : Value} {xs : List Int} (h : Rd w v xs) (q : Nat) : Rd (w.drewN q) v xs := h.kept fun _ _ => rfl

/-- A cell of the result. -/
theorem got_cell {w : World} {g : Nat} {G : List Int} (h : w.rangeAt g 0 (bv G)) {k : Nat} {x : Int} (hk : G[k]? = some x) : w.cell? ⟨g, k, none⟩ = some (.int .u8 x) := by
  have hl := (List.getElem?_eq_some_iff.1 hk).1
  have := range_at h k hl
  rw [hk] at this
  simpa using this
theorem got_cell' {w : World} {g : Nat} {G ys : List Int} (h : w.rangeAt g 0 (bv G)) {k j : Nat} (hj : j < ys.length) (hk : G[k]? = ys[j]?) : w.cell? ⟨g, k, none⟩ = some (.int .u8 (ys[j]?.getD 0)) := by
  rw [List.getElem?_eq_getElem hj] at hk ⊢
  exact got_cell h hk
theorem nd_id {w : World} {p : Nat} {n : Nd} (h : w.rangeAt p 0 n.cells) (k : n.Ok) {j : Nat} (hj : j < 32) : w.cell? ⟨p, j, none⟩ = some (.int .u8 (n.id[j]?.getD 0)) := by
  have := range_at (range_take h) j (by rw [k.id]; exact hj)
  simpa using this
theorem nd_ov {w : World} {p : Nat} {n : Nd} (h : w.rangeAt p 0 n.cells) (k : n.Ok) {j : Nat} (hj : j < 32) : w.cell? ⟨p, 32 + j, none⟩ = some (.int .u8 (n.ov[j]?.getD 0)) := by
  have := range_at (range_take (range_drop h)) j (by rw [k.ov]; exact hj)
  rwa [bv_length, k.id, Nat.zero_add] at this
theorem nd_ver {w : World} {p : Nat} {n : Nd} (h : w.rangeAt p 0 n.cells) (k : n.Ok) : w.cell? ⟨p, 64, none⟩ = some (.int .i32 n.ver) := by
  have := range_drop (range_drop h) 0 (.int .i32 n.ver) rfl
  rwa [bv_length, bv_length, k.id, k.ov] at this
theorem nd_sv {w : World} {p : Nat} {n : Nd} (h : w.rangeAt p 0 n.cells) (k : n.Ok) : w.cell? ⟨p, 65, none⟩ = some n.sv := by
  have := range_drop (range_drop h) 1 n.sv rfl
  rwa [bv_length, bv_length, k.id, k.ov] at this
end Go.Proofs.Qxb6605704aFmt
