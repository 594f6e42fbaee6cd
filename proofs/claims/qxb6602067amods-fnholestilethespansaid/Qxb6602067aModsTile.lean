/- Plain lists of segments and holes: no Go in sight. A segment is a pair (first, last); it is empty where last < first. -/
import Derived.WalkKit
namespace Go.Proofs.Qxb6602067aMods
set_option linter.unusedSimpArgs false
set_option linter.unusedVariables false

/-- The non-empty segments come in order, each from 'lo' on. -/
def asc : Int → List (Int × Int) → Prop
  | _, [] => True
  | lo, p :: t => if p.2 < p.1 then asc lo t else lo ≤ p.1 ∧ asc (p.2 + 1) t

/-- The holes, 'nx' the index behind the last one held (0: none yet), in uint64. -/
def hol : Int → List (Int × Int) → List (Int × Int)
  | _, [] => []
  | nx, p :: t => if p.2 < p.1 then hol nx t else (if 0 < nx ∧ nx < p.1 then [(nx, p.1 - 1)] else []) ++ hol ((p.2 + 1) % 18446744073709551616) t

/-- The first index of the first non-empty segment. -/
def hd : List (Int × Int) → Option Int
  | [] => none
  | p :: t => if p.2 < p.1 then hd t else some p.1

/-- Every number is a uint64. -/
def In64 (X : List (Int × Int)) : Prop := ∀ p ∈ X, 0 ≤ p.1 ∧ p.1 ≤ 18446744073709551615 ∧ 0 ≤ p.2 ∧ p.2 ≤ 18446744073709551615

theorem In64.tail {p : Int × Int} {t : List (Int × Int)} (h : In64 (p :: t)) : In64 t := fun q hq => h q (by simp [hq])

/-- Where the check stands: what is left of the segments and of the holes. -/
structure Mid (S Hs : List (Int × Int)) (expect : Int) (prev full : Bool) : Prop where
  rest : ∃ lo : Int, 0 ≤ lo ∧ lo ≤ 18446744073709551616 ∧ asc lo S ∧ Hs = hol (lo % 18446744073709551616) S ∧ (full = true ↔ lo = 18446744073709551616) ∧
    ((0 < lo ∧ expect = lo % 18446744073709551616) ∨ (lo = 0 ∧ hd S = some expect)) ∧ (prev = true → hd S = some lo)

theorem Mid.skip {p : Int × Int} {S Hs : List (Int × Int)} {e : Int} {a b : Bool} (h : Mid (p :: S) Hs e a b) (hp : p.2 < p.1) : Mid S Hs e a b := by
  obtain ⟨lo, h1, h2, h3, h4, h5, h6, h7⟩ := h.rest
  simp only [asc, hol, hd, if_pos hp] at h3 h4 h6 h7
  exact ⟨lo, h1, h2, h3, h4, h5, h6, h7⟩

theorem Mid.done {Hs : List (Int × Int)} {e : Int} {a b : Bool} (h : Mid [] Hs e a b) : Hs = [] ∧ a = false := by
  obtain ⟨lo, h1, h2, h3, h4, h5, h6, h7⟩ := h.rest
  refine ⟨h4, ?_⟩
  cases a
  · rfl
  · have := h7 rfl; simp [hd] at this

/-- At a segment that holds entries: full is false; and either it starts where it is expected, or a hole stands ahead of it. -/
theorem Mid.seg {p : Int × Int} {S Hs : List (Int × Int)} {e : Int} {a b : Bool} (h : Mid (p :: S) Hs e a b) (hu : In64 (p :: S)) (hp : ¬ p.2 < p.1) :
    b = false ∧ ((p.1 = e ∧ Mid S Hs ((p.2 + 1) % 18446744073709551616) false (decide (p.2 = 18446744073709551615))) ∨
      (p.1 ≠ e ∧ a = false ∧ e ≤ p.1 - 1 ∧ 0 < p.1 ∧ ∃ Hs', Hs = (e, p.1 - 1) :: Hs' ∧ Mid (p :: S) Hs' p.1 true false)) := by
  obtain ⟨lo, h1, h2, h3, h4, h5, h6, h7⟩ := h.rest
  have hu0 := hu p (by simp)
  simp only [asc, hol, hd, if_neg hp] at h3 h4 h6 h7
  obtain ⟨h3a, h3b⟩ := h3
  have hlo : lo % 18446744073709551616 = lo := by omega
  rw [hlo] at h4 h6
  have hb : b = false := by
    cases b
    · rfl
    · have := h5.1 rfl; omega
  refine ⟨hb, ?_⟩
  have next : ∀ Hs', Hs' = hol ((p.2 + 1) % 18446744073709551616) S → Mid S Hs' ((p.2 + 1) % 18446744073709551616) false (decide (p.2 = 18446744073709551615)) := fun Hs' e =>
    ⟨p.2 + 1, by omega, by omega, h3b, e, by simp; omega, .inl ⟨by omega, rfl⟩, (fun h => by cases h)⟩
  by_cases he : p.1 = e
  · refine .inl ⟨he, next Hs ?_⟩
    rw [h4, if_neg]
    · rfl
    · rcases h6 with ⟨h6a, h6b⟩ | ⟨h6a, h6b⟩
      · omega
      · omega
  · refine .inr ⟨he, ?_⟩
    have hlt : 0 < lo ∧ e = lo := by
      rcases h6 with h6 | ⟨_, h6b⟩
      · exact h6
      · simp at h6b; exact absurd h6b he
    obtain ⟨hl0, rfl⟩ := hlt
    have hf : e < p.1 := by omega
    refine ⟨?_, by omega, by omega, hol ((p.2 + 1) % 18446744073709551616) S, ?_, ?_⟩
    · cases a
      · rfl
      · have := h7 rfl; simp at this; omega
    · rw [h4, if_pos ⟨hl0, hf⟩]; rfl
    · refine ⟨p.1, by omega, by omega, ?_, ?_, by simp; omega, .inl ⟨by omega, by omega⟩, fun _ => ?_⟩
      · simp only [asc, if_neg hp]; exact ⟨Int.le_refl _, h3b⟩
      · simp only [hol, if_neg hp]
        rw [if_neg (by omega)]; rfl
      · simp only [hd, if_neg hp]

theorem hol_none {S : List (Int × Int)} (nx : Int) (h : hd S = none) : hol nx S = [] := by
  induction S with
  | nil => rfl
  | cons p t ih =>
    simp only [hd] at h
    split at h
    · rename_i hp; simp only [hol, if_pos hp]; exact ih h
    · cases h

theorem Mid.start {S : List (Int × Int)} {pb f : Int} (h0 : 0 ≤ pb) (h1 : pb ≤ 18446744073709551615) (ha : asc (if 1 < pb then pb else 0) S) (hh : hd S = some f) :
    Mid S (hol (if 1 < pb then pb else 0) S) (if 1 < pb then pb else f) false false := by
  by_cases hp : 1 < pb
  · rw [if_pos hp] at ha
    rw [if_pos hp, if_pos hp]
    exact ⟨pb, by omega, by omega, ha, by rw [show pb % 18446744073709551616 = pb by omega], by simp; omega, .inl ⟨by omega, by omega⟩, (fun h => by cases h)⟩
  · rw [if_neg hp] at ha
    rw [if_neg hp, if_neg hp]
    exact ⟨0, by omega, by omega, ha, rfl, by simp, .inr ⟨rfl, hh⟩, (fun h => by cases h)⟩

/-! ### what the loops gather -/

theorem drop_cons' {X : List (Int × Int)} {k : Nat} (h : k < X.length) : X.drop k = X.getD k (0, 0) :: X.drop (k + 1) := by
  rw [List.drop_eq_getElem_cons h]; simp [List.getD, h]

theorem asc_empty {lo : Int} {p : Int × Int} {t : List (Int × Int)} (hp : p.2 < p.1) : asc lo (p :: t) = asc lo t := by simp only [asc, if_pos hp]
theorem asc_seg {lo : Int} {p : Int × Int} {t : List (Int × Int)} (hp : ¬ p.2 < p.1) : asc lo (p :: t) = (lo ≤ p.1 ∧ asc (p.2 + 1) t) := by simp only [asc, if_neg hp]
theorem hol_empty {lo : Int} {p : Int × Int} {t : List (Int × Int)} (hp : p.2 < p.1) : hol lo (p :: t) = hol lo t := by simp only [hol, if_pos hp]
theorem hol_yes {lo : Int} {p : Int × Int} {t : List (Int × Int)} (hp : ¬ p.2 < p.1) (h : 0 < lo ∧ lo < p.1) : hol lo (p :: t) = (lo, p.1 - 1) :: hol ((p.2 + 1) % 18446744073709551616) t := by simp only [hol, if_neg hp, if_pos h]; rfl
theorem hol_no {lo : Int} {p : Int × Int} {t : List (Int × Int)} (hp : ¬ p.2 < p.1) (h : ¬ (0 < lo ∧ lo < p.1)) : hol lo (p :: t) = hol ((p.2 + 1) % 18446744073709551616) t := by simp only [hol, if_neg hp, if_neg h]; rfl
theorem hd_empty {p : Int × Int} {t : List (Int × Int)} (hp : p.2 < p.1) : hd (p :: t) = hd t := by simp only [hd, if_pos hp]
theorem hd_seg {p : Int × Int} {t : List (Int × Int)} (hp : ¬ p.2 < p.1) : hd (p :: t) = some p.1 := by simp only [hd, if_neg hp]

theorem hol_in {S : List (Int × Int)} : ∀ {nx : Int}, In64 S → 0 ≤ nx → nx ≤ 18446744073709551615 → In64 (hol nx S) := by
  induction S with
  | nil => intro nx _ _ _ p hp; cases hp
  | cons q t ih =>
    intro nx hu h0 h1
    have hq := hu q (by simp)
    by_cases hp : q.2 < q.1
    · rw [hol_empty hp]; exact ih hu.tail h0 h1
    · have hr := ih (nx := (q.2 + 1) % 18446744073709551616) hu.tail (by omega) (by omega)
      by_cases hh : 0 < nx ∧ nx < q.1
      · rw [hol_yes hp hh]
        intro p hpm
        rcases List.mem_cons.1 hpm with rfl | hpm
        · exact ⟨by omega, by omega, by show 0 ≤ q.1 - 1; omega, by show q.1 - 1 ≤ _; omega⟩
        · exact hr p hpm
      · rw [hol_no hp hh]; exact hr

theorem hol_len {S : List (Int × Int)} : ∀ {nx : Int}, (hol nx S).length ≤ S.length := by
  induction S with
  | nil => intro nx; simp [hol]
  | cons q t ih =>
    intro nx
    by_cases hp : q.2 < q.1
    · rw [hol_empty hp]; have := ih (nx := nx); simp; omega
    · by_cases hh : 0 < nx ∧ nx < q.1
      · rw [hol_yes hp hh]; have := ih (nx := (q.2 + 1) % 18446744073709551616); simp; omega
      · rw [hol_no hp hh]; have := ih (nx := (q.2 + 1) % 18446744073709551616); simp; omega

end Go.Proofs.Qxb6602067aMods
