/-
  THE PLAIN LAW: what lies at a node's place in its own encoding.
-/
import Derived.Test.Qxb6605704aFmtSame
namespace Go.Proofs.Qxb6605704aFmt
open Go.RowKit

theorem at_app (P X : List Int) (j : Nat) : (P ++ X)[P.length + j]? = X[j]? := by
  rw [List.getElem?_append_right (by omega), Nat.add_sub_cancel_left]
theorem at_head (X R : List Int) (j : Nat) (h : j < X.length) : (X ++ R)[j]? = X[j]? := List.getElem?_append_left h
theorem le32at_app (P X : List Int) (k : Nat) : le32at (P ++ X) (P.length + k) = le32at X k := by
  unfold le32at
  simp only [Nat.add_assoc, at_app]
theorem le24at_app (P X : List Int) (k : Nat) : le24at (P ++ X) (P.length + k) = le24at X k := by
  unfold le24at
  simp only [Nat.add_assoc, at_app]
theorem le32at_le4 (x : Int) (R : List Int) (_h0 : 0 ≤ x) (_h1 : x < 4294967296) : le32at (le4 x ++ R) 0 = x := by
  simp [le32at, le4]
  omega
theorem slice_app (P Y R : List Int) (p y : Nat) (hp : P.length = p) (hy : Y.length = y) : ((P ++ (Y ++ R)).drop p).take y = Y := by
  subst hp
  subst hy
  rw [List.drop_left', List.take_left'] <;> rfl

/-- The field lies there. -/
theorem field_enc (P R sig : List Int) (off : Nat) (hs : sig.length ≤ 16777215) (ho : P.length = off) :
    FieldAt (P ++ (encB sig ++ R)) off (headB sig.length).length sig.length ∧ ((P ++ (encB sig ++ R)).drop (off + (headB sig.length).length)).take sig.length = sig ∧ off + (headB sig.length).length + sig.length + padN (headB sig.length).length sig.length = (P ++ encB sig).length := by
  subst ho
  have hpad : padN (headB sig.length).length sig.length = padB sig.length := rfl
  have hlen : (encB sig).length = (headB sig.length).length + sig.length + padB sig.length := by simp [encB, Nat.add_assoc]
  refine ⟨⟨?_, ?_⟩, ?_, ?_⟩
  · by_cases h : sig.length < 254
    · refine .inl ⟨by rw [headB_length, if_pos h], h, ?_⟩
      have := at_app P (encB sig ++ R) 0
      rw [Nat.add_zero] at this
      rw [this, encB_short sig h]
      rfl
    · refine .inr ⟨by rw [headB_length, if_neg h], ?_, ?_⟩
      · have := at_app P (encB sig ++ R) 0
        rw [Nat.add_zero] at this
        rw [this, encB_long sig (by omega)]
        rfl
      · rw [le24at_app, encB_long sig (by omega)]
        simp [le24at]
        omega
  · rw [hpad, List.length_append, List.length_append, hlen]; omega
  · have e : P ++ (encB sig ++ R) = (P ++ headB sig.length) ++ (sig ++ (List.replicate (padB sig.length) 0 ++ R)) := by simp [encB]
    rw [e]
    exact slice_app _ _ _ _ _ (by simp) rfl
  · rw [hpad, List.length_append, hlen]; omega

/-- THE NODE LIES AT ITS PLACE. -/
theorem node_enc (P R : List Int) (n : Nd) (off : Nat) (k : n.Ok) (hs : n.sig.length ≤ 16777215) (ho : P.length = off) :
    NodeAt (P ++ (encN n ++ R)) off (headB n.sig.length).length n.sig.length ∧ (∀ u, ndAt (P ++ (encN n ++ R)) off (headB n.sig.length).length n.sig.length u = n.with u) ∧ off + 72 + (headB n.sig.length).length + n.sig.length + padN (headB n.sig.length).length n.sig.length = (P ++ encN n).length := by
  subst ho
  have e1 : P ++ (encN n ++ R) = P ++ (le4 1209251014 ++ (n.id ++ (n.ov ++ (le4 (u32 n.ver) ++ (encB n.sig ++ R))))) := by simp [encN]
  have e2 : P ++ (encN n ++ R) = (P ++ le4 1209251014) ++ (n.id ++ (n.ov ++ (le4 (u32 n.ver) ++ (encB n.sig ++ R)))) := by simp [encN]
  have e3 : P ++ (encN n ++ R) = (P ++ le4 1209251014 ++ n.id) ++ (n.ov ++ (le4 (u32 n.ver) ++ (encB n.sig ++ R))) := by simp [encN]
  have e4 : P ++ (encN n ++ R) = (P ++ le4 1209251014 ++ n.id ++ n.ov) ++ (le4 (u32 n.ver) ++ (encB n.sig ++ R)) := by simp [encN]
  have e5 : P ++ (encN n ++ R) = (P ++ le4 1209251014 ++ n.id ++ n.ov ++ le4 (u32 n.ver)) ++ (encB n.sig ++ R) := by simp [encN]
  have l2 : (P ++ le4 1209251014).length = P.length + 4 := by simp [le4_length]
  have l3 : (P ++ le4 1209251014 ++ n.id).length = P.length + 36 := by simp [le4_length, k.id]
  have l4 : (P ++ le4 1209251014 ++ n.id ++ n.ov).length = P.length + 68 := by simp [le4_length, k.id, k.ov]
  have l5 : (P ++ le4 1209251014 ++ n.id ++ n.ov ++ le4 (u32 n.ver)).length = P.length + 72 := by simp [le4_length, k.id, k.ov]
  obtain ⟨f1, f2, f3⟩ := field_enc (P ++ le4 1209251014 ++ n.id ++ n.ov ++ le4 (u32 n.ver)) R n.sig (P.length + 72) hs l5
  rw [← e5] at f1 f2
  refine ⟨⟨?_, f1⟩, fun u => ?_, ?_⟩
  · rw [e1]
    have := le32at_app P (le4 1209251014 ++ (n.id ++ (n.ov ++ (le4 (u32 n.ver) ++ (encB n.sig ++ R))))) 0
    rw [Nat.add_zero] at this
    rw [this]
    exact le32at_le4 _ _ (by decide) (by decide)
  · have g1 : ((P ++ (encN n ++ R)).drop (P.length + 4)).take 32 = n.id := by rw [e2]; exact slice_app _ _ _ _ _ l2 k.id
    have g2 : ((P ++ (encN n ++ R)).drop (P.length + 36)).take 32 = n.ov := by rw [e3]; exact slice_app _ _ _ _ _ l3 k.ov
    have g3 : wrap32 (le32at (P ++ (encN n ++ R)) (P.length + 68)) = n.ver := by
      rw [e4, ← l4]
      have := le32at_app (P ++ le4 1209251014 ++ n.id ++ n.ov) (le4 (u32 n.ver) ++ (encB n.sig ++ R)) 0
      rw [Nat.add_zero] at this
      rw [this, le32at_le4 _ _ (by unfold u32; omega) (by unfold u32; omega)]
      have := k.ver0
      have := k.ver1
      unfold u32 wrap32
      omega
    simp only [ndAt, Nd.with, g1, g2, g3, f2]
  · rw [f3]; simp [encN]
end Go.Proofs.Qxb6605704aFmt
