import Derived.Test.Qxb6602067aModsRows
import Derived.WalkKit
import Derived.WalkSpells
import Derived.WalkLawsBesides
import Derived.Deep.QuietTactic
import Derived.Deep.LoopGhost
import Derived.BigQuiet
import Derived.OpenShut
import Derived.Test.Qxb6602067aModsPairs
namespace Go.Proofs.Qxb6602067aMods
open Go.RowKit
set_option linter.unusedSimpArgs false
set_option linter.unusedVariables false

/-- A slice value at 'a' that holds the pairs X, below block B. -/
def Prs (w : World) (B : Nat) (a : Option Addr) (X : List (Int × Int)) : Prop :=
  X = [] ∨ ∃ b off, a = some ⟨b, off, none⟩ ∧ b < B ∧ ∀ i, i < X.length → w.cell? ⟨b, off + i * 2, none⟩ = some (.int .u64 (X.getD i (0, 0)).1) ∧ w.cell? ⟨b, off + i * 2 + 1, none⟩ = some (.int .u64 (X.getD i (0, 0)).2)

theorem drewN_below {B : Nat} {a w : World} (h : Below B a w) (n : Nat) : Below B a (w.drewN n) := h.trans ⟨rfl, rfl, rfl, Nat.le_refl _, fun _ _ => rfl⟩

theorem Prs.below {w w' : World} {B : Nat} {a : Option Addr} {X : List (Int × Int)} (h : Prs w B a X) (hb : Below B w w') : Prs w' B a X := by
  rcases h with h | ⟨b, off, rfl, hB, hc⟩
  · exact .inl h
  · exact .inr ⟨b, off, rfl, hB, fun i hi => ⟨(hb.cell (p := ⟨b, off + i * 2, none⟩) hB).trans (hc i hi).1, (hb.cell (p := ⟨b, off + i * 2 + 1, none⟩) hB).trans (hc i hi).2⟩⟩

theorem Prs.mono {w : World} {B B' : Nat} {a : Option Addr} {X : List (Int × Int)} (h : Prs w B a X) (hb : B ≤ B') : Prs w B' a X := by
  rcases h with h | ⟨b, off, rfl, hB, hc⟩
  · exact .inl h
  · exact .inr ⟨b, off, rfl, by omega, hc⟩

set_option maxHeartbeats 400000 in
theorem disj_cells (b off n cap : Nat) (X : List (Int × Int)) (w : World) (hn : n ≤ 1048576)
    (hc : ∀ i, i < n → w.cell? ⟨b, off + i * 2, none⟩ = some (.int .u64 (X.getD i (0, 0)).1) ∧ w.cell? ⟨b, off + i * 2 + 1, none⟩ = some (.int .u64 (X.getD i (0, 0)).2)) :
    Calls Trym.prog 21 #[.slice (some ⟨b, off, none⟩) n cap] w fun e w' => ∃ r m, e = .returned (.bool r) ∧ w' = w.drewN m ∧ (r = true → Upto X n) := by
  have HC : Hid (∀ i, i < n → w.cell? ⟨b, off + i * 2, none⟩ = some (.int .u64 (X.getD i (0, 0)).1) ∧ w.cell? ⟨b, off + i * 2 + 1, none⟩ = some (.int .u64 (X.getD i (0, 0)).2)) := hc
  clear hc
  go_enter Trym.func21, Trym.ntmps21
  go_wp2
  go_loopg [3] n (fun gn kk wr => ∃ k m : Nat, gn = n - k ∧ k ≤ n ∧ kk = .int .i64 k ∧ wr = w.drewN m ∧ Upto X k)
  case atStart => exact ⟨0, 0, rfl, Nat.zero_le _, rfl, rfl, fun i hi => by omega⟩
  case round =>
    obtain ⟨k, m, hgk, hk, rfl, rfl, hall⟩ := hrel
    have HG : Hid (gk = n - k) := hgk
    clear hgk
    by_cases hlt : k < n
    · obtain ⟨p0, p1, hp⟩ : ∃ p0 p1, X.getD k (0, 0) = (p0, p1) := ⟨_, _, rfl⟩
      have hcl := HC.out k hlt
      rw [hp] at hcl
      obtain ⟨e0, e1⟩ := hcl
      simp only [] at e0 e1
      have HPk : Hid (X.getD k (0, 0) = (p0, p1)) := hp
      clear hp
      by_cases hle : p0 ≤ p1
      · by_cases hk0 : 0 < k
        · obtain ⟨q0, q1, hq⟩ : ∃ q0 q1, X.getD (k - 1) (0, 0) = (q0, q1) := ⟨_, _, rfl⟩
          have hcq := (HC.out (k - 1) (by omega)).2
          rw [hq] at hcq
          simp only [] at hcq
          have HQ : Hid (X.getD (k - 1) (0, 0) = (q0, q1)) := hq
          clear hq
          by_cases hpq : p0 ≤ q1
          · go_wp2
            go_quiet (fail)
            go_wp2
            go_quiet (fail)
            go_wp2
            go_ret
            exact ⟨false, _, rfl, (by rw [World.drewN_drewN, World.drewN_drewN]), fun h => by cases h⟩
          · go_wp2
            go_quiet (fail)
            go_wp2
            go_quiet (fail)
            go_wp2
            go_roundg (n - (k + 1))
            case measure => rw [HG.out]; omega
            case rel => exact ⟨k + 1, _, rfl, by omega, by go_num, rfl, hall.step (by rw [HPk.out]; exact hle) (fun _ => by rw [HPk.out, HQ.out]; show q1 < p0; omega)⟩
        · have hk00 : k = 0 := by omega
          subst hk00
          simp only [Nat.zero_mul, Nat.add_zero] at e0 e1
          go_wp2
          go_quiet (fail)
          go_wp2
          go_quiet (fail)
          go_wp2
          go_roundg (n - (0 + 1))
          case measure => rw [HG.out]; omega
          case rel => exact ⟨0 + 1, _, rfl, by omega, by go_num, rfl, hall.step (by rw [HPk.out]; exact hle) (fun h => by omega)⟩
      · go_wp2
        go_quiet (fail)
        go_wp2
        go_ret
        exact ⟨false, _, rfl, (by rw [World.drewN_drewN]), fun h => by cases h⟩
    · have hke : k = n := by omega
      subst hke
      go_wp2
      go_ret
      exact ⟨true, m, rfl, rfl, fun _ => hall⟩

set_option maxHeartbeats 400000 in
theorem disj_none (a : Option Addr) (cap : Nat) (w : World) :
    Calls Trym.prog 21 #[.slice a 0 cap] w fun e w' => e = .returned (.bool true) ∧ w' = w := by
  go_enter Trym.func21, Trym.ntmps21
  go_wp2
  go_loopw [3] (fun i wr => i = .int .i64 0 ∧ wr = w) (fun i _ => 0)
  case atStart => exact ⟨rfl, rfl⟩
  case round =>
    obtain ⟨rfl, rfl⟩ := hrel
    go_wp2
    go_ret
    exact ⟨rfl, rfl⟩

theorem disj_any (a : Option Addr) (n cap B : Nat) (X : List (Int × Int)) (w : World) (hn : n ≤ 1048576) (hx : X.length = n) (h : Prs w B a X) :
    Calls Trym.prog 21 #[.slice a n cap] w fun e w' => ∃ r m, e = .returned (.bool r) ∧ w' = w.drewN m ∧ (r = true → Upto X n) := by
  rcases h with rfl | ⟨b, off, rfl, _, hc⟩
  · simp at hx
    subst hx
    refine (disj_none a cap w).mono ?_
    rintro e w' ⟨rfl, rfl⟩
    exact ⟨true, 0, rfl, rfl, fun _ i hi => by omega⟩
  · exact disj_cells b off n cap X w hn (fun i hi => hc i (by omega))

end Go.Proofs.Qxb6602067aMods
