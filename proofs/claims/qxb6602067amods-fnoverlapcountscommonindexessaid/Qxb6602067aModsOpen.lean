import Derived.Test.Qxb6602067aModsOver
import Derived.ProofKit
import Derived.Deep.Slices
namespace Go.Proofs.Qxb6602067aMods
open Go.RowKit Go.Deep Go.ChangeShapes Go.WideShapes
set_option linter.unusedSimpArgs false
set_option linter.unusedVariables false

theorem Trym.cells32 : Trym.prog.cellsOf 32 = 2 := by kernel_rfl
theorem Trym.cells22 : Trym.prog.cellsOf 22 = 1 := by kernel_rfl

theorem u64_bounds {n : Int} (h : (Lit.int .u64 n).wf = true) : 0 ≤ n ∧ n ≤ 18446744073709551615 := bounds_u64 h

/-- What the walk is told of a [][2]uint64 that came in. -/
structure IsPrs (w : World) (a : Option Addr) (len cap : Nat) (X : List (Int × Int)) : Prop where
  size : X.length = len
  most : len ≤ maxLen
  isnil : a = Option.none → len = 0 ∧ cap = 0
  cells : Prs w w.heap.size a X
  nums : U64s X

theorem cell_lt {w : World} {b o : Nat} {v : Value} (h : w.cell? ⟨b, o, none⟩ = some v) : b < w.heap.size := by
  refine Nat.lt_of_not_le fun hle => ?_
  have : w.heap[b]? = none := Array.getElem?_eq_none hle
  simp [World.cell?, this] at h

theorem open_prs {H : Type} {enc : TypeId × Value → H} {w : World} {base : Nat} {spare : Nat → Bool} {held : Bool} {fuel : Nat} {a : Option Addr} {len cap : Nat} {x : DataW H × List MemPlace}
    (h : DataW.trod enc Trym.prog w base spare held fuel 38 [.slice a len cap] = some x) : ∃ X, IsPrs w a len cap X := by
  rcases open_slice Trym.underlying38 h with ⟨hcs, _⟩ | ⟨ad, l, c, m, n, D, Pl, hcs, hb, hl, hm, hmm, _, hx⟩
  · simp only [List.cons.injEq, Value.slice.injEq, and_true] at hcs
    obtain ⟨rfl, rfl, rfl⟩ := hcs
    exact ⟨[], rfl, Nat.zero_le _, fun _ => ⟨rfl, rfl⟩, .inl rfl, fun p hp => by cases hp⟩
  · simp only [List.cons.injEq, Value.slice.injEq, and_true] at hcs
    obtain ⟨rfl, rfl, rfl⟩ := hcs
    have hlm : len ≤ m := by rw [hmm]; split <;> omega
    have each : ∀ i, i < len → ∃ p : Int × Int, w.cell? (ad.add (i * 2)) = some (.int .u64 p.1) ∧ w.cell? (ad.add (i * 2 + 1)) = some (.int .u64 p.2) ∧ 0 ≤ p.1 ∧ p.1 ≤ 18446744073709551615 ∧ 0 ≤ p.2 ∧ p.2 ≤ 18446744073709551615 := by
      intro i hi
      obtain ⟨cs', h1, h2⟩ := hx i (by omega)
      rw [Trym.cells32] at h1
      obtain ⟨_, hlen, hcell⟩ := World.cells?_some h1
      obtain ⟨xs, k, hk, _, _, hxl, hf⟩ := DataW.trod_array Trym.underlying32 h2
      rw [Trym.cells22] at hf
      match xs, hxl, cs', hlen with
      | [y0, y1], _, [v0, v1], _ =>
        have g0 := hf 0 (by omega)
        have g1 := hf 1 (by omega)
        simp at g0 g1
        have e0 := hcell 0 (by omega)
        have e1 := hcell 1 (by omega)
        rw [add_add] at e0 e1
        obtain ⟨n0, c0, _, u0⟩ := DataW.trod_int Trym.underlying22 g0
        obtain ⟨n1, c1, _, u1⟩ := DataW.trod_int Trym.underlying22 g1
        simp at c0 c1
        subst c0 c1
        have b0 := u64_bounds u0
        have b1 := u64_bounds u1
        exact ⟨(n0, n1), by simpa using e0, by simpa using e1, b0.1, b0.2, b1.1, b1.2⟩
    obtain ⟨f, hf⟩ := choose_lt each
    have hg : ∀ i, i < len → ((List.range len).map f).getD i (0, 0) = f i := fun i hi => by simp [List.getD, hi]
    refine ⟨(List.range len).map f, by simp, by omega, (fun h => by cases h), ?_, ?_⟩
    · by_cases h0 : len = 0
      · subst h0; exact .inl rfl
      · obtain ⟨b, off, spot⟩ := ad
        have hs : spot = Option.none := by simpa [Addr.add] using World.cell?_spot (hf 0 (by omega)).1
        subst hs
        have e : ∀ j, (⟨b, off, Option.none⟩ : Addr).add j = ⟨b, off + j, Option.none⟩ := fun j => by rw [Addr.add_lit]
        have hc : ∀ i, i < len → w.cell? ⟨b, off + i * 2, Option.none⟩ = some (.int .u64 (f i).1) ∧ w.cell? ⟨b, off + i * 2 + 1, Option.none⟩ = some (.int .u64 (f i).2) := fun i hi => by
          have := hf i hi
          rw [e, e] at this
          exact ⟨this.1, by rw [Nat.add_assoc]; exact this.2.1⟩
        refine .inr ⟨b, off, rfl, cell_lt (hc 0 (by omega)).1, fun i hi => ?_⟩
        have hi' : i < len := by simpa using hi
        rw [hg i hi']
        exact hc i hi'
    · intro p hp
      obtain ⟨i, hi, rfl⟩ := List.mem_map.1 hp
      have := hf i (List.mem_range.1 hi)
      exact ⟨this.2.2.1, this.2.2.2.1, this.2.2.2.2.1, this.2.2.2.2.2⟩

end Go.Proofs.Qxb6602067aMods
