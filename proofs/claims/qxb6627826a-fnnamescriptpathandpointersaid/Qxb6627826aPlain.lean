/- SEAT b6627826a: the plain law of the cut. -/
import Derived.Test.Qxb6627826aWalks5
namespace Go.Proofs.Qxb6627826a
open Go.ChangeShapes Go.WideShapes Go.ChangeAt Go.RowKit

def joinP (p r : List UInt8) : List UInt8 := if p = [] then r else if r = [] then p else p ++ [46] ++ r
theorem stepP_join (p s : List UInt8) : stepP p s = joinP p s := by
  unfold stepP joinP
  by_cases hp : p = []
  · subst hp; by_cases hs : s = [] <;> simp [hs]
  · by_cases hs : s = [] <;> simp [hp, hs]
theorem joinP_assoc (p s r : List UInt8) : joinP (joinP p s) r = joinP p (joinP s r) := by
  unfold joinP
  by_cases hp : p = []
  · simp [hp]
  · by_cases hs : s = []
    · simp [hp, hs]
    · by_cases hr : r = []
      · simp [hp, hs, hr]
      · simp [hp, hs, hr]
theorem foldP (L : List (List UInt8)) : ∀ p, L.foldl stepP p = joinP p (L.foldl stepP []) := by
  induction L with
  | nil => intro p; by_cases hp : p = [] <;> simp [joinP, hp]
  | cons s L ih =>
    intro p
    rw [List.foldl_cons, List.foldl_cons, ih, ih (stepP [] s), stepP_join, stepP_join, joinP_assoc]
    rfl
theorem foldQ (L : List (List UInt8)) : ∀ q, L.foldl stepQ q = q ++ L.foldl stepQ [] := by
  induction L with
  | nil => intro q; simp
  | cons s L ih =>
    intro q
    rw [List.foldl_cons, List.foldl_cons, ih, ih (stepQ [] s), ← List.append_assoc]
    congr 1
    unfold stepQ
    by_cases hs : s = [] <;> simp [hs]

theorem cut_list (S : List ByteArray) (k : Nat) : ((txt S).drop 0).take S.length = ((txt S).drop 0).take k ++ ((txt S).drop k).take (S.length - k) := by
  rw [List.drop_zero, ← txt_len, List.take_length, ← List.length_drop, List.take_length, List.take_append_drop]
theorem pU_cut (S : List ByteArray) (k : Nat) : pU S 0 S.length = joinP (pU S 0 k) (pU S k (S.length - k)) := by
  unfold pU
  rw [cut_list S k, List.foldl_append, foldP]
theorem qU_cut (S : List ByteArray) (k : Nat) : qU S 0 S.length = qU S 0 k ++ qU S k (S.length - k) := by
  unfold qU
  rw [cut_list S k, List.foldl_append, foldQ]

/-- What the counting loop has reckoned: c names that are not empty, their lengths' sum pl. -/
def Counted (p : List UInt8) (c pl : Int) : Prop := (p = [] ∧ c = 0 ∧ pl = 0) ∨ (p ≠ [] ∧ 0 < c ∧ 0 ≤ pl ∧ (p.length : Int) + 1 = pl + c)
theorem Counted.step {p s : List UInt8} {c pl : Int} (h : Counted p c pl) (hs : s ≠ []) : Counted (stepP p s) (c + 1) (pl + s.length) := by
  right
  unfold stepP
  rw [if_neg hs]
  have hsl := List.length_pos_iff.2 hs
  rcases h with ⟨rfl, rfl, rfl⟩ | ⟨hp, hc, hpl, he⟩
  · simp only [if_true]
    exact ⟨hs, by omega, by omega, by omega⟩
  · rw [if_neg hp]
    refine ⟨by simp, by omega, by omega, ?_⟩
    simp only [List.length_append, List.length_cons, List.length_nil]
    omega

end Go.Proofs.Qxb6627826a
