import Derived.Test.Qxb6602067aModsHoles
import Derived.Test.Qxb6602067aModsOrd
namespace Go.Proofs.Qxb6602067aMods
open Go.RowKit
set_option linter.unusedSimpArgs false
set_option linter.unusedVariables false

theorem zz11_any (pb : Int) (a1 a2 a3 : Option Addr) (n1 n2 n3 c1 c2 c3 B : Nat) (w : World) (m1 : n1 ≤ maxLen) (m2 : n2 ≤ maxLen) (m3 : n3 ≤ maxLen) (r3 : Strs w B a3 n3) :
    Calls Trym.prog 11 #[.int .u64 pb, .slice a1 n1 c1, .slice a2 n2 c2, .slice a3 n3 c3] w fun e w' => (∃ r, e = .returned (.bool r)) ∧ w = w' := by
  by_cases h : n1 + n2 + n3 ≤ 1048576
  · exact zz11_in pb a1 a2 a3 n1 n2 n3 c1 c2 c3 B w r3 h
  · exact zz11_no pb a1 a2 a3 n1 n2 n3 c1 c2 c3 w m1 m2 m3 h

set_option maxRecDepth 100000 in
set_option maxHeartbeats 1000000 in
theorem walk3_long (pb : Int) (a1 a2 a3 : Option Addr) (n1 n2 n3 c1 c2 c3 : Nat) (w : World) (m1 : n1 ≤ maxLen) (m2 : n2 ≤ maxLen) (m3 : n3 ≤ maxLen) (r3 : Strs w w.heap.size a3 n3)
    (h : ¬ (n1 ≤ 65536 ∧ n2 ≤ 65536 ∧ n3 ≤ 65536)) :
    Calls Trym.prog 3 #[.int .u64 pb, .slice a1 n1 c1, .slice a2 n2 c2, .slice a3 n3 c3] w fun e w' => e = .returned (.bool true) ∧ Below w.heap.size w w' := by
  go_enter Trym.func3, Trym.ntmps3
  go_wp2_with fail
  refine (zz11_any pb a1 a2 a3 n1 n2 n3 c1 c2 c3 _ w m1 m2 m3 r3).mono ?_
  rintro e w' ⟨⟨r, rfl⟩, rfl⟩
  clear r3
  cases r
  · go_wp2
    go_ret
    exact ⟨rfl, Below.refl _ _⟩
  · by_cases h1 : n1 ≤ 65536
    · by_cases h2 : n2 ≤ 65536
      · have h3 : ¬ n3 ≤ 65536 := fun h3 => h ⟨h1, h2, h3⟩
        clear h
        go_wp2
        go_ret
        exact ⟨rfl, Below.refl _ _⟩
      · clear h
        go_wp2
        go_ret
        exact ⟨rfl, Below.refl _ _⟩
    · clear h
      go_wp2
      go_ret
      exact ⟨rfl, Below.refl _ _⟩

set_option maxRecDepth 100000 in
set_option maxHeartbeats 1000000 in
theorem walk3_uneq (pb : Int) (a1 a2 a3 : Option Addr) (n1 n2 n3 c1 c2 c3 : Nat) (w : World) (h1 : n1 ≤ 65536) (h2 : n2 ≤ 65536) (h3 : n3 ≤ 65536) (r3 : Strs w w.heap.size a3 n3)
    (h : ¬ (n2 = n1 ∧ n3 = n1)) :
    Calls Trym.prog 3 #[.int .u64 pb, .slice a1 n1 c1, .slice a2 n2 c2, .slice a3 n3 c3] w fun e w' => e = .returned (.bool true) ∧ Below w.heap.size w w' := by
  have m1 : n1 ≤ maxLen := by unfold maxLen; omega
  have m2 : n2 ≤ maxLen := by unfold maxLen; omega
  have m3 : n3 ≤ maxLen := by unfold maxLen; omega
  go_enter Trym.func3, Trym.ntmps3
  go_wp2_with fail
  refine (zz11_any pb a1 a2 a3 n1 n2 n3 c1 c2 c3 _ w m1 m2 m3 r3).mono ?_
  rintro e w' ⟨⟨r, rfl⟩, rfl⟩
  cases r
  · go_wp2
    go_ret
    exact ⟨rfl, Below.refl _ _⟩
  · go_wp2_with fail
    refine (strbytes_any a3 n3 c3 _ w r3 h3).mono ?_
    rintro e w' ⟨⟨sb, rfl, hsb⟩, rfl⟩
    clear r3 m1 m2 m3
    by_cases hb : 8 * n1 + 8 * n2 + sb ≤ 1048576
    · by_cases h21 : n2 = n1
      · have h31 : ((n3 : Int) == (n1 : Int)) = false := by simp; omega
        have h31' : ((n3 : Int) != (n1 : Int)) = true := by simp [bne, h31]
        clear h
        subst h21
        go_wp2
        go_ret
        exact ⟨rfl, Below.refl _ _⟩
      · have h21a : ((n2 : Int) == (n1 : Int)) = false := by simp; omega
        have h21' : ((n2 : Int) != (n1 : Int)) = true := by simp [bne, h21a]
        clear h
        go_wp2
        go_ret
        exact ⟨rfl, Below.refl _ _⟩
    · clear h
      go_wp2
      go_ret
      exact ⟨rfl, Below.refl _ _⟩

end Go.Proofs.Qxb6602067aMods
