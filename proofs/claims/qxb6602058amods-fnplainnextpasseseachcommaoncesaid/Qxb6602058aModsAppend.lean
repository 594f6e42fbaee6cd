import Derived.Test.Qxb6602058aModsBase
namespace Go.Proofs.Qxb6602058aMods
open Go.RowKit
set_option linter.unusedSimpArgs false
set_option linter.unusedVariables false

theorem Trym.byte5 : (Trym.prog.info? 5).map (fun i => (i.zero, i.size, i.bytes)) = some (some (.int .u8 0), 1, 1) := by kernel_rfl

/-- The cells that a Row holds, as an append asks for them. -/
theorem Row.fresh {w : World} {B : Nat} {a : Option Addr} {xs : List Int} (h : Row w B a xs) :
    ∀ ad, a = some ad → ∀ j u, (xs.map (Value.int .u8))[j]? = some u → w.cell? (ad.add j) = some u := by
  rintro ad rfl j u hu
  rcases h with rfl | ⟨b, off, h, _, hc⟩
  · simp at hu
  · obtain rfl := Option.some.inj h
    have hj : j < xs.length := by simpa using (List.getElem?_eq_some_iff.1 hu).1
    rw [Addr.add_lit, hc j hj]
    rw [← hu]
    simp [List.getD, hj]

end Go.Proofs.Qxb6602058aMods
