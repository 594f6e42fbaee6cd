import Derived.Test.Qxb6602058aModsRows
import Derived.WalkKit
import Derived.WalkSpells
import Derived.WalkLawsBesides
import Derived.Deep.QuietTactic
import Derived.Deep.LoopGhost
import Derived.BigQuiet
import Derived.OpenShut
namespace Go.Proofs.Qxb6602058aMods
open Go.RowKit
set_option linter.unusedSimpArgs false
set_option linter.unusedVariables false

/-- A slice value that starts at 'a' and holds the bytes xs, which lie below block B. -/
def Row (w : World) (B : Nat) (a : Option Addr) (xs : List Int) : Prop :=
  xs = [] ∨ ∃ b off, a = some ⟨b, off, none⟩ ∧ b < B ∧ ∀ i, i < xs.length → w.cell? ⟨b, off + i, none⟩ = some (.int .u8 (xs.getD i 0))

theorem Row.below {w w' : World} {B : Nat} {a : Option Addr} {xs : List Int} (h : Row w B a xs) (hb : Below B w w') : Row w' B a xs := by
  rcases h with h | ⟨b, off, rfl, hB, hc⟩
  · exact .inl h
  · exact .inr ⟨b, off, rfl, hB, fun i hi => (hb.cell (p := ⟨b, off + i, none⟩) hB).trans (hc i hi)⟩

theorem Row.mono {w : World} {B B' : Nat} {a : Option Addr} {xs : List Int} (h : Row w B a xs) (hb : B ≤ B') : Row w B' a xs := by
  rcases h with h | ⟨b, off, rfl, hB, hc⟩
  · exact .inl h
  · exact .inr ⟨b, off, rfl, by omega, hc⟩

theorem cell_lt {w : World} {b o : Nat} {v : Value} (h : w.cell? ⟨b, o, none⟩ = some v) : b < w.heap.size := by
  refine Nat.lt_of_not_le fun hle => ?_
  have : w.heap[b]? = none := Array.getElem?_eq_none hle
  simp [World.cell?, this] at h

theorem Row.of_is {w : World} {x : Addr} {len : Nat} {zs : List Int} (hl : len ≤ zs.length)
    (hc : ∀ i, i < zs.length → w.cell? (x.add i) = some (.int .u8 (zs.getD i 0))) : Row w w.heap.size (some x) (zs.take len) := by
  by_cases h0 : len = 0
  · exact .inl (by simp [h0])
  · obtain ⟨b, off, rfl, hc'⟩ := ints_at hc (by omega)
    refine .inr ⟨b, off, rfl, cell_lt (hc' 0 (by omega)), fun i hi => ?_⟩
    have hi' : i < len := by simpa [Nat.min_eq_left hl] using hi
    rw [hc' i (by omega)]
    simp [List.getD, List.getElem?_take, hi']

theorem drewN_below {B : Nat} {a w : World} (h : Below B a w) (n : Nat) : Below B a (w.drewN n) := h.trans ⟨rfl, rfl, rfl, Nat.le_refl _, fun _ _ => rfl⟩

set_option maxHeartbeats 400000 in
theorem same_cells (b1 o1 b2 o2 n c1 c2 : Nat) (xs : List Int) (w : World) (hn : n ≤ maxLen)
    (h1 : ∀ i, i < n → w.cell? ⟨b1, o1 + i, none⟩ = some (.int .u8 (xs.getD i 0)))
    (h2 : ∀ i, i < n → w.cell? ⟨b2, o2 + i, none⟩ = some (.int .u8 (xs.getD i 0))) :
    Calls Trym.prog 15 #[.slice (some ⟨b1, o1, none⟩) n c1, .slice (some ⟨b2, o2, none⟩) n c2] w fun e w' => e = .returned (.bool true) ∧ ∃ m, w' = w.drewN m := by
  unfold maxLen at hn
  go_enter Trym.func15, Trym.ntmps15
  go_wp2
  go_loopw [5] (fun i wr => ∃ k m : Nat, k ≤ n ∧ i = .int .i64 k ∧ wr = w.drewN m) (fun i _ => n - (intOf i).toNat)
  case atStart => exact ⟨0, 0, Nat.zero_le _, rfl, rfl⟩
  case round =>
    obtain ⟨k, m, hk, rfl, rfl⟩ := hrel
    by_cases hlt : k < n
    · have c1 := h1 k hlt
      have c2 := h2 k hlt
      clear h1 h2
      go_wp2
      go_quiet (fail)
      go_wp2
      go_roundw
      case rel => exact ⟨k + 1, _, by omega, by go_num, rfl⟩
      case measure => simp [intOf]; omega
    · go_wp2
      go_ret
      exact ⟨rfl, m, rfl⟩

set_option maxHeartbeats 400000 in
theorem same_none (a1 a2 : Option Addr) (c1 c2 : Nat) (w : World) :
    Calls Trym.prog 15 #[.slice a1 0 c1, .slice a2 0 c2] w fun e w' => e = .returned (.bool true) ∧ ∃ m, w' = w.drewN m := by
  go_enter Trym.func15, Trym.ntmps15
  go_wp2
  go_loopw [5] (fun i wr => i = .int .i64 0 ∧ wr = w) (fun i _ => 0)
  case atStart => exact ⟨rfl, rfl⟩
  case round =>
    obtain ⟨rfl, rfl⟩ := hrel
    go_wp2
    go_ret
    exact ⟨rfl, 0, rfl⟩

/-- b1Same at two slices of the same bytes. -/
theorem same_eq (a1 a2 : Option Addr) (n c1 c2 B : Nat) (xs : List Int) (w : World) (hx : xs.length = n) (hn : n ≤ maxLen)
    (h1 : Row w B a1 xs) (h2 : Row w B a2 xs) :
    Calls Trym.prog 15 #[.slice a1 n c1, .slice a2 n c2] w fun e w' => e = .returned (.bool true) ∧ ∃ m, w' = w.drewN m := by
  subst hx
  rcases h1 with rfl | ⟨b1, o1, rfl, _, h1⟩
  · exact same_none _ _ _ _ _
  · rcases h2 with rfl | ⟨b2, o2, rfl, _, h2⟩
    · exact same_none _ _ _ _ _
    · exact same_cells _ _ _ _ _ _ _ xs w hn h1 h2

theorem same_eq2 (a1 a2 : Option Addr) (n m c1 c2 B : Nat) (xs : List Int) (w : World) (hx : xs.length = n) (hm : xs.length = m) (hn : n ≤ maxLen)
    (h1 : Row w B a1 xs) (h2 : Row w B a2 xs) :
    Calls Trym.prog 15 #[.slice a1 n c1, .slice a2 m c2] w fun e w' => e = .returned (.bool true) ∧ ∃ m, w' = w.drewN m := by
  subst hx hm; exact same_eq _ _ _ _ _ B xs w rfl hn h1 h2

theorem own_cells {w : World} {B g n cap : Nat} {xs : List Int} (h : w.ownsRow B 5 1 (.slice (some ⟨g, 0, none⟩) n cap) n (xs.map (Value.int .u8))) :
    ∀ j, j < xs.length → w.cell? ⟨g, 0 + j, none⟩ = some (.int .u8 (xs.getD j 0)) := by
  intro j hj
  have := h.cells (g := g) rfl j (.int .u8 (xs.getD j 0)) (by simp [List.getD, hj])
  rwa [Addr.add_lit] at this

theorem Row.of_cells {w : World} {B b off : Nat} {xs : List Int} (hb : b < B) (h : ∀ j, j < xs.length → w.cell? ⟨b, off + j, none⟩ = some (.int .u8 (xs.getD j 0))) : Row w B (some ⟨b, off, none⟩) xs :=
  .inr ⟨b, off, rfl, hb, h⟩

theorem Row.drewN {w : World} {B : Nat} {a : Option Addr} {xs : List Int} (h : Row w B a xs) (m : Nat) : Row (w.drewN m) B a xs := h

/-- The two cells of a 'scan' at block R: the body's slice, the place. -/
structure Scan (w : World) (R : Nat) (v : Value) (p : Int) : Prop where
  c0 : w.cell? ⟨R, 0, none⟩ = some v
  c1 : w.cell? ⟨R, 1, none⟩ = some (.int .i64 p)
  f1 : w.frozen? ⟨R, 1, none⟩ = false

theorem Scan.set {w : World} {R : Nat} {v : Value} {p : Int} (h : Scan w R v p) (q : Int) : Scan (w.setCell ⟨R, 1, none⟩ (.int .i64 q)) R v q :=
  ⟨(World.cell?_setCell_other _ _ _ _ (by simp)).trans h.c0, World.cell?_setCell_same _ _ _ h.c1, by simp [h.f1]⟩

theorem Scan.new3 (w : World) (v x : Value) (i : Int) (T : TypeId) : Scan (w.alloc (.cells #[v, .int .i64 i, x] T)) w.heap.size v i :=
  ⟨World.cell?_alloc_at _ _ _ _ rfl, World.cell?_alloc_at _ _ _ _ rfl, World.frozen?_alloc_at _ _ _ _ rfl⟩
theorem Scan.new2 (w : World) (v : Value) (i : Int) (T : TypeId) : Scan (w.alloc (.cells #[v, .int .i64 i] T)) w.heap.size v i :=
  ⟨World.cell?_alloc_at _ _ _ _ rfl, World.cell?_alloc_at _ _ _ _ rfl, World.frozen?_alloc_at _ _ _ _ rfl⟩
theorem cell_alloc {w : World} {b o : Nat} {v : Value} (h : w.cell? ⟨b, o, none⟩ = some v) (x : Obj) : (w.alloc x).cell? ⟨b, o, none⟩ = some v :=
  (((Below.refl w.heap.size w).alloc (Nat.le_refl _) x).cell (p := ⟨b, o, none⟩) (cell_lt h)).trans h

theorem Scan.as {w : World} {R : Nat} {v : Value} {p q : Int} (h : Scan w R v p) (e : p = q) : Scan w R v q := e ▸ h

theorem Scan.drewN {w : World} {R : Nat} {v : Value} {p : Int} (h : Scan w R v p) (m : Nat) : Scan (w.drewN m) R v p := ⟨h.c0, h.c1, h.f1⟩

end Go.Proofs.Qxb6602058aMods
