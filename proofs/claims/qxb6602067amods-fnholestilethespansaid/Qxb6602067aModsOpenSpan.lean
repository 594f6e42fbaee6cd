import Derived.Test.Qxb6602067aModsSpanEq
import Derived.ProofKit
import Derived.SliceStrings
namespace Go.Proofs.Qxb6602067aMods
open Go.RowKit Go.ChangeShapes Go.WideShapes
set_option linter.unusedSimpArgs false
set_option linter.unusedVariables false

theorem cell_low {w : World} {b o : Nat} {v : Value} (h : w.cell? ⟨b, o, none⟩ = some v) : b < w.heap.size := by
  refine Nat.lt_of_not_le fun hle => ?_
  have : w.heap[b]? = none := Array.getElem?_eq_none hle
  simp [World.cell?, this] at h

/-- What the walk is told of a []uint64 that came in. -/
structure IsInts (w : World) (a : Option Addr) (len cap : Nat) (f : Nat → Int) : Prop where
  most : len ≤ maxLen
  isnil : a = Option.none → len = 0 ∧ cap = 0
  nums : ∀ i, i < len → 0 ≤ f i ∧ f i ≤ 18446744073709551615
  cells : len = 0 ∨ ∃ b off, a = some ⟨b, off, Option.none⟩ ∧ b < w.heap.size ∧ ∀ i, i < len → w.cell? ⟨b, off + i, Option.none⟩ = some (.int .u64 (f i))

theorem isints_of {w : World} {x : Addr} {len cap : Nat} {zs : List Int} (hl : len ≤ cap) (hm : cap ≤ maxLen) (hz : zs.length = cap) (hc : ∀ i, i < zs.length → w.cell? (x.add i) = some (.int .u64 (zs.getD i 0))) (hw : ∀ n ∈ zs, (Lit.int .u64 n).wf = true) :
    IsInts w (some x) len cap (fun i => zs.getD i 0) := by
  refine ⟨by omega, (fun h => by cases h), fun i hi => ?_, ?_⟩
  · have hi' : i < zs.length := by omega
    have := bounds_u64 (hw zs[i] (List.getElem_mem hi'))
    simpa [List.getD, hi'] using this
  · by_cases h0 : len = 0
    · exact .inl h0
    · obtain ⟨b, off, rfl, hc'⟩ := ints_at hc (by omega)
      exact .inr ⟨b, off, rfl, cell_low (hc' 0 (by omega)), fun i hi => hc' i (by omega)⟩

theorem strs_of {w : World} {x : Addr} {len cap : Nat} {ss : List ByteArray} (hl : len ≤ cap) (hz : ss.length = cap) (hc : ∀ i, i < ss.length → w.cell? (x.add i) = some (.string (ss.getD i ByteArray.empty))) (hw : ∀ s ∈ ss, s.size ≤ maxLen) :
    Strs w w.heap.size (some x) len := by
  by_cases h0 : len = 0
  · exact .inl h0
  · obtain ⟨b, off, spot⟩ := x
    have hs : spot = none := by simpa [Addr.add] using World.cell?_spot (hc 0 (by omega))
    subst hs
    have hc' : ∀ i, i < ss.length → w.cell? ⟨b, off + i, none⟩ = some (.string (ss.getD i ByteArray.empty)) := fun i hi => by
      have := hc i hi
      rwa [Addr.add_lit] at this
    refine .inr ⟨b, off, fun i => ss.getD i ByteArray.empty, rfl, cell_low (hc' 0 (by omega)), fun i hi => ⟨hc' i (by omega), ?_⟩⟩
    have hi' : i < ss.length := by omega
    have := hw ss[i] (List.getElem_mem hi')
    simpa [List.getD, hi'] using this

theorem pair_up {w : World} {a1 a2 : Option Addr} {n c1 c2 : Nat} {f g : Nat → Int} (h1 : IsInts w a1 n c1 f) (h2 : IsInts w a2 n c2 g) :
    ∃ X : List (Int × Int), X.length = n ∧ In64 X ∧ Col Prod.fst w w.heap.size a1 X ∧ Col Prod.snd w w.heap.size a2 X := by
  have hg : ∀ i, i < n → ((List.range n).map fun i => (f i, g i)).getD i (0, 0) = (f i, g i) := fun i hi => by simp [List.getD, hi]
  refine ⟨(List.range n).map fun i => (f i, g i), by simp, ?_, ?_, ?_⟩
  · intro p hp
    obtain ⟨i, hi, rfl⟩ := List.mem_map.1 hp
    have hi' := List.mem_range.1 hi
    exact ⟨(h1.nums i hi').1, (h1.nums i hi').2, (h2.nums i hi').1, (h2.nums i hi').2⟩
  · rcases h1.cells with rfl | ⟨b, off, rfl, hb, hc⟩
    · exact .inl rfl
    · refine .inr ⟨b, off, rfl, hb, fun i hi => ?_⟩
      have hi' : i < n := by simpa using hi
      rw [hg i hi']; exact hc i hi'
  · rcases h2.cells with rfl | ⟨b, off, rfl, hb, hc⟩
    · exact .inl rfl
    · refine .inr ⟨b, off, rfl, hb, fun i hi => ?_⟩
      have hi' : i < n := by simpa using hi
      rw [hg i hi']; exact hc i hi'

end Go.Proofs.Qxb6602067aMods
