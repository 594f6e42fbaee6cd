/- Plain lists: a backslash ahead of every quote and backslash. -/
import Derived.WalkKit
namespace Go.Proofs.Qxb6602058aMods
set_option linter.unusedSimpArgs false
set_option linter.unusedVariables false

def isq (c : Int) : Bool := c == 34 || c == 92
def esc : List Int → List Int
  | [] => []
  | c :: t => if isq c then 92 :: c :: esc t else c :: esc t
def needs (s : List Int) : Bool := s.any isq

theorem esc_append (a b : List Int) : esc (a ++ b) = esc a ++ esc b := by
  induction a with
  | nil => rfl
  | cons c t ih => simp only [List.cons_append, esc]; split <;> simp [ih]
theorem esc_len (a : List Int) : a.length ≤ (esc a).length ∧ (esc a).length ≤ 2 * a.length := by
  induction a with
  | nil => simp [esc]
  | cons c t ih => simp only [esc]; split <;> simp <;> omega
theorem esc_snoc_q {c : Int} (a : List Int) (h : isq c = true) : esc (a ++ [c]) = esc a ++ [92, c] := by
  rw [esc_append]; simp [esc, h]
theorem esc_snoc_p {c : Int} (a : List Int) (h : isq c = false) : esc (a ++ [c]) = esc a ++ [c] := by
  rw [esc_append]; simp [esc, h]
theorem needs_snoc (a : List Int) (c : Int) : needs (a ++ [c]) = (needs a || isq c) := by simp [needs]

/-- What stands at place j behind 'at' of a text of which we know the rest. -/
theorem getD_drop {body rest : List Int} {p : Nat} (h : body.drop p = rest) (j : Nat) : body.getD (p + j) 0 = rest.getD j 0 := by
  subst h; simp [List.getD]
theorem lt_drop {body rest : List Int} {p : Nat} (h : body.drop p = rest) {j : Nat} (hj : j < rest.length) : p + j < body.length := by
  subst h; simp at hj; omega
theorem drop_more {body rest : List Int} {p : Nat} (a : List Int) (h : body.drop p = a ++ rest) : body.drop (p + a.length) = rest := by
  rw [← List.drop_drop, h]; simp
theorem getD_app {a b : List Int} {j : Nat} (h : j < a.length) : (a ++ b).getD j 0 = a.getD j 0 := by
  simp [List.getD, List.getElem?_append_left h]
end Go.Proofs.Qxb6602058aMods
