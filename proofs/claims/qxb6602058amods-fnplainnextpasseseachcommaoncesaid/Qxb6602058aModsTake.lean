import Derived.Test.Qxb6602058aModsBase
namespace Go.Proofs.Qxb6602058aMods
open Go.RowKit
set_option linter.unusedSimpArgs false
set_option linter.unusedVariables false

/-- r is the least place from 'f' on at which p holds, or the end. -/
structure IsFirst (p : Int → Bool) (xs : List Int) (f r : Nat) : Prop where
  lo : f ≤ r
  hi : r ≤ xs.length
  no : ∀ j, f ≤ j → j < r → p (xs.getD j 0) = false
  yes : r < xs.length → p (xs.getD r 0) = true

set_option maxHeartbeats 400000 in
theorem take_yes (R b off n cap i : Nat) (c : Int) (w : World) (hn : n ≤ maxLen) (hi : i < n)
    (hcell : w.cell? ⟨b, off + i, none⟩ = some (.int .u8 c))
    (hsc : Scan w R (.slice (some ⟨b, off, none⟩) n cap) i) :
    Calls Trym.prog 29 #[.pointer (some ⟨R, 0, none⟩), .int .u8 c] w fun e w' =>
      e = .returned (.bool true) ∧ Scan w' R (.slice (some ⟨b, off, none⟩) n cap) ((i + 1 : Nat) : Int) ∧ Below R w w' := by
  unfold maxLen at hn
  obtain ⟨c0, c1, f1⟩ := id hsc
  go_enter Trym.func29, Trym.ntmps29
  go_wp2
  go_quiet (fail)
  go_wp2
  go_ret
  exact ⟨rfl, ((hsc.drewN _).set _).as (by omega), (drewN_below (Below.refl R w) _).setCell (p := ⟨R, 1, none⟩) (Nat.le_refl _) _⟩

set_option maxHeartbeats 400000 in
theorem take_end (R n cap i : Nat) (a : Option Addr) (c : Int) (w : World) (hi : ¬ i < n) 
    (hsc : Scan w R (.slice a n cap) i) :
    Calls Trym.prog 29 #[.pointer (some ⟨R, 0, none⟩), .int .u8 c] w fun e w' =>
      e = .returned (.bool false) ∧ Scan w' R (.slice a n cap) i ∧ Below R w w' := by
  obtain ⟨c0, c1, f1⟩ := id hsc
  have hd : decide ((i : Int) < (n : Int)) = false := by simpa using hi
  go_enter Trym.func29, Trym.ntmps29
  go_wp2
  go_quiet (fail)
  go_wp2
  go_ret
  exact ⟨rfl, hsc.drewN _, drewN_below (Below.refl R w) _⟩

set_option maxHeartbeats 400000 in
theorem take_other (R b off n cap i : Nat) (c d : Int) (w : World) (hi : i < n) (hcd : (d == c) = false)
    (hcell : w.cell? ⟨b, off + i, none⟩ = some (.int .u8 d))
    (hsc : Scan w R (.slice (some ⟨b, off, none⟩) n cap) i) :
    Calls Trym.prog 29 #[.pointer (some ⟨R, 0, none⟩), .int .u8 c] w fun e w' =>
      e = .returned (.bool false) ∧ Scan w' R (.slice (some ⟨b, off, none⟩) n cap) i ∧ Below R w w' := by
  obtain ⟨c0, c1, f1⟩ := id hsc
  go_enter Trym.func29, Trym.ntmps29
  go_wp2
  go_quiet (fail)
  go_wp2
  go_ret
  exact ⟨rfl, hsc.drewN _, drewN_below (Below.refl R w) _⟩

/-- take, where it passes nothing. -/
theorem take_no (R n cap i : Nat) (a : Option Addr) (xs : List Int) (c : Int) (w : World) (B : Nat) (hx : xs.length = n) (hr : Row w B a xs)
    (hno : i < n → (xs.getD i 0 == c) = false) (hsc : Scan w R (.slice a n cap) i) :
    Calls Trym.prog 29 #[.pointer (some ⟨R, 0, none⟩), .int .u8 c] w fun e w' =>
      e = .returned (.bool false) ∧ Scan w' R (.slice a n cap) i ∧ Below R w w' := by
  by_cases hi : i < n
  · rcases hr with rfl | ⟨b, off, rfl, _, hc⟩
    · simp at hx; omega
    · exact take_other R b off n cap i c _ w hi (hno hi) (hc i (by omega)) hsc
  · exact take_end R n cap i a c w hi hsc

end Go.Proofs.Qxb6602058aMods
