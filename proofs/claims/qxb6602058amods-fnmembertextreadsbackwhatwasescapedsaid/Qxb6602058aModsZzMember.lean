import Derived.Test.Qxb6602058aModsMember
namespace Go.Proofs.Qxb6602058aMods
open Go.RowKit
set_option linter.unusedSimpArgs false
set_option linter.unusedVariables false

set_option maxHeartbeats 1000000 in
theorem zzmember_any (b off n cap i : Nat) (body s suf : List Int) (w : World) (hn : n ≤ maxLen) (hcap : n ≤ cap) (hb : b < w.heap.size) (hbody : body.length = n)
    (hrow : ∀ j, j < n → w.cell? ⟨b, off + j, none⟩ = some (.int .u8 (body.getD j 0)))
    (hd : body.drop (i + 1) = esc s ++ 34 :: suf) :
    Calls Trym.prog 18 #[.slice (some ⟨b, off, none⟩) n cap, .int .i64 i] w fun e w' =>
      e = .returned (.tuple #[.slice (some ⟨b, off + i, none⟩) ((esc s).length + 2) (cap - i), .bool (needs s), .int .i64 ((i + ((esc s).length + 2) : Nat) : Int)]) ∧ Below w.heap.size w w' := by
  have HD : Hid (body.drop (i + 1) = esc s ++ 34 :: suf) := hd
  have HB : Hid (body.length = n) := hbody
  clear hd hbody
  go_enter Trym.func18, Trym.ntmps18
  go_wp2_with fail
  refine (mtext_any w.heap.size b off n cap i body s suf _ hn hcap hb HB.out ?_ HD.out ?_).mono ?_
  · exact fun j hj => cell_alloc (hrow j hj) _
  · exact Scan.new3 _ _ _ _ _
  · rintro e w' ⟨rfl, hsc, hbel⟩
    obtain ⟨c0, c1, f1⟩ := id hsc
    go_wp2
    go_quiet (fail)
    go_wp2
    go_ret3
    refine ⟨?_, drewN_below (((Below.refl _ w).alloc (Nat.le_refl _) _).trans hbel) _⟩
    show Ending.returned (.tuple #[.slice _ ((esc s).length + 2) (cap - i), .bool (needs s), .int .i64 ((i : Int) + (((esc s).length : Int) + 2))]) = _
    congr

end Go.Proofs.Qxb6602058aMods
