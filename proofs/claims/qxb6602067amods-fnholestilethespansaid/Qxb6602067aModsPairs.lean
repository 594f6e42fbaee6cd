/- Plain lists of pairs: how many indexes two lists of ranges share. -/
import Derived.WalkKit
namespace Go.Proofs.Qxb6602067aMods
set_option linter.unusedSimpArgs false
set_option linter.unusedVariables false

/-- How many indexes two ranges share. -/
def ovl (p q : Int × Int) : Int := if max p.1 q.1 ≤ min p.2 q.2 then min p.2 q.2 - max p.1 q.1 + 1 else 0

def row (p : Int × Int) : List (Int × Int) → Int
  | [] => 0
  | q :: t => ovl p q + row p t
def pairs : List (Int × Int) → List (Int × Int) → Int
  | [], _ => 0
  | p :: t, Y => row p Y + pairs t Y

/-- Every range starts behind 'x'. -/
def After (x : Int) (Y : List (Int × Int)) : Prop := ∀ q ∈ Y, x < q.1

def Disj : List (Int × Int) → Prop
  | [] => True
  | p :: t => p.1 ≤ p.2 ∧ After p.2 t ∧ Disj t

theorem ovl_zero_r {p q : Int × Int} (h : p.2 < q.1) : ovl p q = 0 := by unfold ovl; rw [if_neg]; omega
theorem ovl_zero_l {p q : Int × Int} (h : q.2 < p.1) : ovl p q = 0 := by unfold ovl; rw [if_neg]; omega

theorem row_after {p : Int × Int} {Y : List (Int × Int)} (h : After p.2 Y) : row p Y = 0 := by
  induction Y with
  | nil => rfl
  | cons q t ih =>
    rw [row, ovl_zero_r (h q (by simp)), ih (fun r hr => h r (by simp [hr]))]; rfl

theorem pairs_nil (X : List (Int × Int)) : pairs X [] = 0 := by
  induction X with
  | nil => rfl
  | cons p t ih => rw [pairs, row, ih]; rfl

theorem pairs_drop_col {X Y : List (Int × Int)} {q : Int × Int} (h : After q.2 X) : pairs X (q :: Y) = pairs X Y := by
  induction X with
  | nil => rfl
  | cons p t ih =>
    rw [pairs, pairs, row, ovl_zero_l (h p (by simp)), ih (fun r hr => h r (by simp [hr])), Int.zero_add]

theorem After.le {x y : Int} {Y : List (Int × Int)} (h : After x Y) (hxy : y ≤ x) : After y Y := fun q hq => by have := h q hq; omega

/-- One step of the sweep. -/
theorem pairs_step {p q : Int × Int} {X Y : List (Int × Int)} (hp : Disj (p :: X)) (hq : Disj (q :: Y)) :
    pairs (p :: X) (q :: Y) = ovl p q + (if p.2 < q.2 then pairs X (q :: Y) else pairs (p :: X) Y) := by
  by_cases h : p.2 < q.2
  · rw [if_pos h]
    show row p (q :: Y) + pairs X (q :: Y) = _
    rw [row, row_after (hq.2.1.le (by omega)), Int.add_zero]
  · rw [if_neg h]
    show row p (q :: Y) + pairs X (q :: Y) = ovl p q + (row p Y + pairs X Y)
    rw [row, pairs_drop_col (hp.2.1.le (by omega))]
    omega

theorem row_append (p : Int × Int) (A B : List (Int × Int)) : row p (A ++ B) = row p A + row p B := by
  induction A with
  | nil => simp [row]
  | cons q t ih => simp only [List.cons_append, row, ih]; omega
theorem pairs_append (A B Y : List (Int × Int)) : pairs (A ++ B) Y = pairs A Y + pairs B Y := by
  induction A with
  | nil => simp [pairs]
  | cons p t ih => simp only [List.cons_append, pairs, ih]; omega

theorem take_snoc {X : List (Int × Int)} {k : Nat} (h : k < X.length) : X.take (k + 1) = X.take k ++ [X.getD k (0, 0)] := by
  rw [List.take_succ_eq_append_getElem h]; simp [List.getD, h]
theorem drop_cons {X : List (Int × Int)} {k : Nat} (h : k < X.length) : X.drop k = X.getD k (0, 0) :: X.drop (k + 1) := by
  rw [List.drop_eq_getElem_cons h]; simp [List.getD, h]

theorem row_take {p : Int × Int} {Y : List (Int × Int)} {j : Nat} (h : j < Y.length) : row p (Y.take (j + 1)) = row p (Y.take j) + ovl p (Y.getD j (0, 0)) := by
  rw [take_snoc h, row_append]; simp [row]
theorem pairs_take {X Y : List (Int × Int)} {i : Nat} (h : i < X.length) : pairs (X.take (i + 1)) Y = pairs (X.take i) Y + row (X.getD i (0, 0)) Y := by
  rw [take_snoc h, pairs_append]; simp [pairs]

theorem Disj.drop {X : List (Int × Int)} (h : Disj X) (k : Nat) : Disj (X.drop k) := by
  induction k generalizing X with
  | zero => exact h
  | succ k ih =>
    cases X with
    | nil => simpa using h
    | cons p t => exact ih h.2.2

/-- The first k pairs: none is empty, each starts behind the one before. -/
def Upto (X : List (Int × Int)) (k : Nat) : Prop :=
  ∀ i, i < k → (X.getD i (0, 0)).1 ≤ (X.getD i (0, 0)).2 ∧ (0 < i → (X.getD (i - 1) (0, 0)).2 < (X.getD i (0, 0)).1)

theorem Upto.step {X : List (Int × Int)} {k : Nat} (h : Upto X k) (h1 : (X.getD k (0, 0)).1 ≤ (X.getD k (0, 0)).2) (h2 : 0 < k → (X.getD (k - 1) (0, 0)).2 < (X.getD k (0, 0)).1) : Upto X (k + 1) := by
  intro i hi
  by_cases e : i = k
  · subst e; exact ⟨h1, h2⟩
  · exact h i (by omega)

theorem Upto.later {X : List (Int × Int)} (h : Upto X X.length) : ∀ d i, i + d + 1 < X.length → (X.getD i (0, 0)).2 < (X.getD (i + d + 1) (0, 0)).1 := by
  intro d
  induction d with
  | zero => intro i hi; have := (h (i + 1) (by omega)).2 (by omega); simpa using this
  | succ d ih =>
    intro i hi
    have h1 := ih i (by omega)
    have h2 := h (i + d + 1) (by omega)
    have h3 := (h (i + (d + 1) + 1) hi).2 (by omega)
    rw [show i + (d + 1) + 1 - 1 = i + d + 1 by omega] at h3
    omega

theorem Upto.disj {X : List (Int × Int)} (h : Upto X X.length) : Disj X := by
  induction X with
  | nil => trivial
  | cons p t ih =>
    have h0 := h 0 (by simp)
    refine ⟨by simpa using h0.1, fun q hq => ?_, ih fun i hi => ?_⟩
    · obtain ⟨j, hj, rfl⟩ := List.mem_iff_getElem.1 hq
      have := h.later j 0 (by simp; omega)
      simpa [List.getD, hj] using this
    · have hi' := h (i + 1) (by simp; omega)
      have e : ∀ j, (p :: t).getD (j + 1) (0, 0) = t.getD j (0, 0) := fun j => by simp [List.getD]
      rw [e] at hi'
      refine ⟨hi'.1, fun h0 => ?_⟩
      have := hi'.2 (by omega)
      rw [show i + 1 - 1 = (i - 1) + 1 by omega, e] at this
      exact this

/-- uint64's modulus. -/
theorem mod_add (a b : Int) : (a % 18446744073709551616 + b % 18446744073709551616) % 18446744073709551616 = (a + b) % 18446744073709551616 := by omega

end Go.Proofs.Qxb6602067aMods
