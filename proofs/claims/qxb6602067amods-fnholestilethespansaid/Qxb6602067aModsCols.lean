import Derived.Test.Qxb6602067aModsBase
import Derived.Test.Qxb6602067aModsTile
namespace Go.Proofs.Qxb6602067aMods
open Go.RowKit
set_option linter.unusedSimpArgs false
set_option linter.unusedVariables false

/-- A []uint64 that holds one side of the pairs X. -/
def Col (g : Int × Int → Int) (w : World) (B : Nat) (a : Option Addr) (X : List (Int × Int)) : Prop :=
  X = [] ∨ ∃ b off, a = some ⟨b, off, none⟩ ∧ b < B ∧ ∀ i, i < X.length → w.cell? ⟨b, off + i, none⟩ = some (.int .u64 (g (X.getD i (0, 0))))

/-- A []string of n strings. -/
def Strs (w : World) (B : Nat) (a : Option Addr) (n : Nat) : Prop :=
  n = 0 ∨ ∃ (b off : Nat) (f : Nat → ByteArray), a = some ⟨b, off, none⟩ ∧ b < B ∧ ∀ i, i < n → w.cell? ⟨b, off + i, none⟩ = some (.string (f i)) ∧ (f i).size ≤ maxLen

theorem Col.below {g : Int × Int → Int} {w w' : World} {B : Nat} {a : Option Addr} {X : List (Int × Int)} (h : Col g w B a X) (hb : Below B w w') : Col g w' B a X := by
  rcases h with h | ⟨b, off, rfl, hB, hc⟩
  · exact .inl h
  · exact .inr ⟨b, off, rfl, hB, fun i hi => (hb.cell (p := ⟨b, off + i, none⟩) hB).trans (hc i hi)⟩
theorem Strs.below {w w' : World} {B : Nat} {a : Option Addr} {n : Nat} (h : Strs w B a n) (hb : Below B w w') : Strs w' B a n := by
  rcases h with h | ⟨b, off, f, rfl, hB, hc⟩
  · exact .inl h
  · exact .inr ⟨b, off, f, rfl, hB, fun i hi => ⟨(hb.cell (p := ⟨b, off + i, none⟩) hB).trans (hc i hi).1, (hc i hi).2⟩⟩

theorem Col.get {g : Int × Int → Int} {w : World} {B n k : Nat} {a : Option Addr} {X : List (Int × Int)} (h : Col g w B a X) (hl : X.length = n) (hk : k < n) :
    ∃ b o, a = some ⟨b, o, none⟩ ∧ w.cell? ⟨b, o + k, none⟩ = some (.int .u64 (g (X.getD k (0, 0)))) := by
  rcases h with rfl | ⟨b, o, rfl, hb, hc⟩
  · simp at hl; omega
  · exact ⟨b, o, rfl, hc k (by omega)⟩
theorem Strs.get {w : World} {B n k : Nat} {a : Option Addr} (h : Strs w B a n) (hk : k < n) :
    ∃ b o s, a = some ⟨b, o, none⟩ ∧ w.cell? ⟨b, o + k, none⟩ = some (.string s) ∧ s.size ≤ maxLen := by
  rcases h with rfl | ⟨b, o, f, rfl, hb, hc⟩
  · omega
  · exact ⟨b, o, f k, rfl, (hc k hk).1, (hc k hk).2⟩

set_option maxHeartbeats 1000000 in
theorem zz11_in (pb : Int) (a1 a2 a3 : Option Addr) (n1 n2 n3 c1 c2 c3 B : Nat) (w : World) (r3 : Strs w B a3 n3) (h : n1 + n2 + n3 ≤ 1048576) :
    Calls Trym.prog 11 #[.int .u64 pb, .slice a1 n1 c1, .slice a2 n2 c2, .slice a3 n3 c3] w fun e w' => (∃ r, e = .returned (.bool r)) ∧ w = w' := by
  go_enter Trym.func11, Trym.ntmps11
  go_wp2
  go_loopg [9, 10] n3 (fun gn sz si wr => ∃ k m : Nat, gn = n3 - k ∧ k ≤ n3 ∧ m ≤ 1048576 ∧ si = .int .i64 k ∧ sz = .int .i64 m ∧ wr = w)
  case atStart => exact ⟨0, n1 + n2 + n3, rfl, Nat.zero_le _, h, rfl, by go_num, rfl⟩
  case round =>
    obtain ⟨k, m, hg, hk, hm, rfl, rfl, hw⟩ := hrel
    subst hw
    have HG : Hid (gk = n3 - k) := hg
    clear hg
    by_cases hlt : k < n3
    · obtain ⟨b, o, s, hae, hc, hs⟩ := r3.get hlt
      subst hae
      unfold maxLen at hs
      clear r3
      by_cases h1 : s.size ≤ 1048576
      · by_cases h2 : m + s.size ≤ 1048576
        · go_wp2
          go_roundg (n3 - (k + 1))
          case measure => rw [HG.out]; omega
          case rel => exact ⟨k + 1, m + s.size, rfl, by omega, h2, by go_num, by go_num, rfl⟩
        · go_wp2
          go_ret
          exact ⟨⟨_, rfl⟩, rfl⟩
      · go_wp2
        go_ret
        exact ⟨⟨_, rfl⟩, rfl⟩
    · have hke : k = n3 := by omega
      subst hke
      clear r3
      go_wp2
      go_ret
      exact ⟨⟨_, rfl⟩, rfl⟩

set_option maxHeartbeats 400000 in
theorem zz11_no (pb : Int) (a1 a2 a3 : Option Addr) (n1 n2 n3 c1 c2 c3 : Nat) (w : World) (m1 : n1 ≤ maxLen) (m2 : n2 ≤ maxLen) (m3 : n3 ≤ maxLen) (h : ¬ n1 + n2 + n3 ≤ 1048576) :
    Calls Trym.prog 11 #[.int .u64 pb, .slice a1 n1 c1, .slice a2 n2 c2, .slice a3 n3 c3] w fun e w' => (∃ r, e = .returned (.bool r)) ∧ w = w' := by
  unfold maxLen at m1 m2 m3
  go_enter Trym.func11, Trym.ntmps11
  by_cases h1 : n1 ≤ 1048576
  · by_cases h2 : n2 ≤ 1048576
    · by_cases h3 : n1 + n2 ≤ 1048576
      · by_cases h4 : n3 ≤ 1048576
        · go_wp2
          go_ret
          exact ⟨⟨_, rfl⟩, rfl⟩
        · go_wp2
          go_ret
          exact ⟨⟨_, rfl⟩, rfl⟩
      · go_wp2
        go_ret
        exact ⟨⟨_, rfl⟩, rfl⟩
    · go_wp2
      go_ret
      exact ⟨⟨_, rfl⟩, rfl⟩
  · go_wp2
    go_ret
    exact ⟨⟨_, rfl⟩, rfl⟩

set_option maxHeartbeats 1000000 in
theorem strbytes_any (a3 : Option Addr) (n3 c3 B : Nat) (w : World) (r3 : Strs w B a3 n3) (h : n3 ≤ 65536) :
    Calls Trym.prog 12 #[.slice a3 n3 c3] w fun e w' => (∃ r : Nat, e = .returned (.int .i64 (r : Int)) ∧ r ≤ 10000000) ∧ w = w' := by
  go_enter Trym.func12, Trym.ntmps12
  go_wp2
  go_loopg [3, 4] n3 (fun gn sz si wr => ∃ k m : Nat, gn = n3 - k ∧ k ≤ n3 ∧ m ≤ 1048576 ∧ si = .int .i64 k ∧ sz = .int .i64 m ∧ wr = w)
  case atStart => exact ⟨0, 0, rfl, Nat.zero_le _, by omega, rfl, rfl, rfl⟩
  case round =>
    obtain ⟨k, m, hg, hk, hm, rfl, rfl, hw⟩ := hrel
    subst hw
    have HG : Hid (gk = n3 - k) := hg
    clear hg
    by_cases hlt : k < n3
    · obtain ⟨b, o, s, hae, hc, hs⟩ := r3.get hlt
      subst hae
      unfold maxLen at hs
      clear r3
      by_cases h1 : s.size ≤ 1048576
      · by_cases h2 : m + (16 + s.size) ≤ 1048576
        · go_wp2
          go_roundg (n3 - (k + 1))
          case measure => rw [HG.out]; omega
          case rel => exact ⟨k + 1, m + (16 + s.size), rfl, by omega, h2, by go_num, by go_num, rfl⟩
        · go_wp2
          go_ret
          exact ⟨⟨m + (16 + s.size), rfl, by omega⟩, rfl⟩
      · go_wp2
        go_ret
        exact ⟨⟨1048577, rfl, by omega⟩, rfl⟩
    · have hke : k = n3 := by omega
      subst hke
      clear r3
      go_wp2
      go_ret
      exact ⟨⟨m, rfl, by omega⟩, rfl⟩

end Go.Proofs.Qxb6602067aMods
