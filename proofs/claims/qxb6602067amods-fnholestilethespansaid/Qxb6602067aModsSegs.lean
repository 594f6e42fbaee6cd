import Derived.Test.Qxb6602067aModsCols
import Derived.RegionTactic
import Derived.BigRegion
namespace Go.Proofs.Qxb6602067aMods
open Go.RowKit
set_option linter.unusedSimpArgs false
set_option linter.unusedVariables false

/-- A []Segment over the pairs X. -/
def Sgs (w : World) (B : Nat) (a : Option Addr) (X : List (Int × Int)) : Prop :=
  X = [] ∨ ∃ (b off : Nat) (f : Nat → ByteArray), a = some ⟨b, off, none⟩ ∧ b < B ∧ ∀ i, i < X.length → w.cell? ⟨b, off + i * 3, none⟩ = some (.int .u64 (X.getD i (0, 0)).1) ∧ w.cell? ⟨b, off + i * 3 + 1, none⟩ = some (.int .u64 (X.getD i (0, 0)).2) ∧ w.cell? ⟨b, off + i * 3 + 2, none⟩ = some (.string (f i))

theorem Trym.info35 : (Trym.prog.info? 35).map (fun i => (i.zero, i.size, i.bytes)) = some (some (.agg #[.int .u64 0, .int .u64 0, .string ByteArray.empty]), 3, 32) := by kernel_rfl

/-- The first k triples are laid. -/
def Laid3 (vs : List Value) (X : List (Int × Int)) (f : Nat → ByteArray) (k : Nat) : Prop :=
  ∀ j, j < k → vs[j * 3]? = some (.int .u64 (X.getD j (0, 0)).1) ∧ vs[j * 3 + 1]? = some (.int .u64 (X.getD j (0, 0)).2) ∧ vs[j * 3 + 2]? = some (.string (f j))

theorem Laid3.step {vs : List Value} {X : List (Int × Int)} {f : Nat → ByteArray} {k n : Nat} {p0 p1 : Int} {s : ByteArray} (h : Laid3 vs X f k) (hl : vs.length = n * 3) (hk : k < n) (hp : X.getD k (0, 0) = (p0, p1)) (hs : f k = s) :
    Laid3 (((vs.set (k * 3) (.int .u64 p0)).set (k * 3 + 1) (.int .u64 p1)).set (k * 3 + 2) (.string s)) X f (k + 1) := by
  intro j hj
  by_cases e : j = k
  · subst e
    rw [hp, hs]
    refine ⟨?_, ?_, ?_⟩
    · rw [List.getElem?_set_ne (by omega), List.getElem?_set_ne (by omega), List.getElem?_set_self (by omega)]
    · rw [List.getElem?_set_ne (by omega), List.getElem?_set_self (by simp; omega)]
    · rw [List.getElem?_set_self (by simp; omega)]
  · have := h j (by omega)
    refine ⟨?_, ?_, ?_⟩
    · rw [List.getElem?_set_ne (by omega), List.getElem?_set_ne (by omega), List.getElem?_set_ne (by omega)]; exact this.1
    · rw [List.getElem?_set_ne (by omega), List.getElem?_set_ne (by omega), List.getElem?_set_ne (by omega)]; exact this.2.1
    · rw [List.getElem?_set_ne (by omega), List.getElem?_set_ne (by omega), List.getElem?_set_ne (by omega)]; exact this.2.2

set_option maxHeartbeats 1000000 in
theorem segs_some (x : Addr) (a2 a3 : Option Addr) (n c1 c2 c3 : Nat) (X : List (Int × Int)) (w : World) (hx : X.length = n) (hn : n ≤ 65536)
    (r1 : Col Prod.fst w w.heap.size (some x) X) (r2 : Col Prod.snd w w.heap.size a2 X) (r3 : Strs w w.heap.size a3 n) :
    Calls Trym.prog 15 #[.slice (some x) n c1, .slice a2 n c2, .slice a3 n c3] w fun e w' => ∃ a' cap', e = .returned (.slice a' n cap') ∧ n ≤ cap' ∧ Sgs w' w'.heap.size a' X ∧ Below w.heap.size w w' := by
  obtain ⟨i0, hi, hz0, hz1, hz2⟩ := info_parts Trym.info35
  have HX : Hid (X.length = n) := hx
  clear hx
  have hnil := fun (wx : World) => Lib.run_eql_slice_nil (P := Trym.prog) wx 23 22 (some x) n c1 0 0 Trym.underlying23
  obtain ⟨f, hf⟩ : ∃ f : Nat → ByteArray, ∀ k, k < n → ∃ b o, a3 = some ⟨b, o, none⟩ ∧ b < w.heap.size ∧ w.cell? ⟨b, o + k, none⟩ = some (.string (f k)) := by
    rcases r3 with rfl | ⟨b, o, f, rfl, hb, hc⟩
    · exact ⟨fun _ => ByteArray.empty, fun k hk => by omega⟩
    · exact ⟨f, fun k hk => ⟨b, o, rfl, hb, (hc k hk).1⟩⟩
  clear r3
  go_enter Trym.func15, Trym.ntmps15
  go_wp2_with (at_make; refine wpList_make_full _ rfl _ _ 30 rfl _ 35 i0 (.agg #[.int .u64 0, .int .u64 0, .string ByteArray.empty]) 3 Trym.underlying30 hi hz0 hz1 _ _ _ _ n rfl rfl rfl rfl ?b2 ?b3 (Nat.le_refl _) ?_)
  case b2 => rw [hz2]; omega
  case b3 => unfold maxLen; omega
  intro w0 hown0 hgrow0
  have b0 : Below w.heap.size w w0 := (Below.refl _ _).grown hgrow0 (Nat.le_refl _) (fun k h => by cases h)
  obtain ⟨vs0, hown0⟩ : ∃ vs, w0.ownsRow w.heap.size 35 3 (.slice (some ⟨w.heap.size, 0, none⟩) n n) n vs := ⟨_, hown0⟩
  clear hgrow0
  go_wp2
  go_loopg [8] n (fun gn kk wr => ∃ (k : Nat) (vs : List Value), gn = n - k ∧ k ≤ n ∧ kk = .int .i64 k ∧ wr.ownsRow w.heap.size 35 3 (.slice (some ⟨w.heap.size, 0, none⟩) n n) n vs ∧ Laid3 vs X f k ∧ Below w.heap.size w wr)
  case atStart => exact ⟨0, vs0, rfl, Nat.zero_le _, rfl, hown0, fun j hj => by omega, b0⟩
  case round =>
    clear hown0 b0
    obtain ⟨k, vs, hgk, hk, rfl, hown, hup, hbel⟩ := hrel
    have hvl : vs.length = n * 3 := hown.1
    have HV : Hid (gk = n - k ∧ vs.length = n * 3) := ⟨hgk, hvl⟩
    have hsz : w.heap.size < wr.heap.size := (hown.lt _ rfl).2
    clear hgk
    by_cases hlt : k < n
    · obtain ⟨b1, o1, hae1, hb1, e1⟩ : ∃ b o, x = ⟨b, o, none⟩ ∧ b < w.heap.size ∧ w.cell? ⟨b, o + k, none⟩ = some (.int .u64 (X.getD k (0, 0)).1) := by
        rcases r1 with rfl | ⟨b, o, h, hb, hc⟩
        · have := HX.out; simp at this; omega
        · exact ⟨b, o, Option.some.inj h, hb, hc k (by rw [HX.out]; omega)⟩
      obtain ⟨b2, o2, hae2, hb2, e2⟩ : ∃ b o, a2 = some ⟨b, o, none⟩ ∧ b < w.heap.size ∧ w.cell? ⟨b, o + k, none⟩ = some (.int .u64 (X.getD k (0, 0)).2) := by
        rcases r2 with rfl | ⟨b, o, h, hb, hc⟩
        · have := HX.out; simp at this; omega
        · exact ⟨b, o, h, hb, hc k (by rw [HX.out]; omega)⟩
      obtain ⟨b3, o3, hae3, hb3, e3⟩ := hf k hlt
      subst hae1 hae2 hae3
      clear r1 r2 hf
      obtain ⟨p0, p1, hp⟩ : ∃ p0 p1, X.getD k (0, 0) = (p0, p1) := ⟨_, _, rfl⟩
      rw [hp] at e1 e2
      have g1 : wr.cell? ⟨b1, o1 + k, none⟩ = some (.int .u64 p0) := (hbel.cell (p := ⟨b1, o1 + k, none⟩) hb1).trans e1
      have g2 : wr.cell? ⟨b2, o2 + k, none⟩ = some (.int .u64 p1) := (hbel.cell (p := ⟨b2, o2 + k, none⟩) hb2).trans e2
      have g3 : wr.cell? ⟨b3, o3 + k, none⟩ = some (.string (f k)) := (hbel.cell (p := ⟨b3, o3 + k, none⟩) hb3).trans e3
      obtain ⟨s, hs⟩ : ∃ s, f k = s := ⟨_, rfl⟩
      rw [hs] at g3
      have HP : Hid (X.getD k (0, 0) = (p0, p1) ∧ f k = s) := ⟨hp, hs⟩
      clear hp hs e1 e2 e3
      have hd0 := hown.cellAt (k * 3) (by omega)
      have hd1 := hown.cellAt (k * 3 + 1) (by omega)
      have hd2 := hown.cellAt (k * 3 + 2) (by omega)
      have hf0 := hown.frozenAt (k * 3)
      have hf1 := hown.frozenAt (k * 3 + 1)
      have hf2 := hown.frozenAt (k * 3 + 2)
      obtain ⟨v0, hv0⟩ : ∃ v, vs[k * 3]? = some v := ⟨vs[k * 3]'(by omega), List.getElem?_eq_getElem _⟩
      obtain ⟨v1, hv1⟩ : ∃ v, vs[k * 3 + 1]? = some v := ⟨vs[k * 3 + 1]'(by omega), List.getElem?_eq_getElem _⟩
      obtain ⟨v2, hv2⟩ : ∃ v, vs[k * 3 + 2]? = some v := ⟨vs[k * 3 + 2]'(by omega), List.getElem?_eq_getElem _⟩
      rw [hv0] at hd0
      rw [hv1] at hd1
      rw [hv2] at hd2
      clear hv0 hv1 hv2 hvl
      go_wp2
      go_region
      all_goals go_wp2
      go_roundg (n - (k + 1))
      case measure => rw [HV.out.1]; omega
      case rel =>
        have s0 := hown.stored (k * 3) (.int .u64 p0)
        have s1 := s0.1.stored (k * 3 + 1) (.int .u64 p1)
        have s2 := s1.1.stored (k * 3 + 2) (.string s)
        have hb0 := hbel.grown s0.2 hbel.size (fun k hk => by cases hk; exact Nat.le_refl _)
        have hb1 := hb0.grown s1.2 hb0.size (fun k hk => by cases hk; exact Nat.le_refl _)
        have hb2 := hb1.grown s2.2 hb1.size (fun k hk => by cases hk; exact Nat.le_refl _)
        exact ⟨k + 1, _, rfl, by omega, by go_num, s2.1.drew, hup.step HV.out.2 hlt HP.out.1 HP.out.2, hb2.drew⟩
    · have hke : k = n := by omega
      subst hke
      go_wp2
      go_ret
      refine ⟨_, k, rfl, Nat.le_refl _, .inr ⟨w.heap.size, 0, f, rfl, hsz, fun j hj => ?_⟩, hbel⟩
      rw [HX.out] at hj
      have := hup j hj
      rw [Nat.zero_add, hown.cellAt (j * 3) (by omega), hown.cellAt (j * 3 + 1) (by omega), hown.cellAt (j * 3 + 2) (by omega)]
      exact this

set_option maxHeartbeats 400000 in
theorem segs_none (a2 a3 : Option Addr) (n2 n3 c2 c3 : Nat) (w : World) :
    Calls Trym.prog 15 #[.slice none 0 0, .slice a2 n2 c2, .slice a3 n3 c3] w fun e w' => e = .returned (.slice none 0 0) ∧ w = w' := by
  have hnil := fun (wx : World) => Lib.run_eql_slice_nil (P := Trym.prog) wx 23 22 none 0 0 0 0 Trym.underlying23
  go_enter Trym.func15, Trym.ntmps15
  go_wp2
  go_ret
  exact ⟨rfl, rfl⟩

theorem segs_any (a1 a2 a3 : Option Addr) (n c1 c2 c3 : Nat) (X : List (Int × Int)) (w : World) (hx : X.length = n) (hn : n ≤ 65536) (hz : a1 = none → n = 0 ∧ c1 = 0)
    (r1 : Col Prod.fst w w.heap.size a1 X) (r2 : Col Prod.snd w w.heap.size a2 X) (r3 : Strs w w.heap.size a3 n) :
    Calls Trym.prog 15 #[.slice a1 n c1, .slice a2 n c2, .slice a3 n c3] w fun e w' => ∃ a' cap', e = .returned (.slice a' n cap') ∧ n ≤ cap' ∧ Sgs w' w'.heap.size a' X ∧ Below w.heap.size w w' := by
  cases a1 with
  | some x => exact segs_some x a2 a3 n c1 c2 c3 X w hx hn r1 r2 r3
  | none =>
    obtain ⟨rfl, rfl⟩ := hz rfl
    refine (segs_none a2 a3 0 0 c2 c3 w).mono ?_
    rintro e w' ⟨rfl, rfl⟩
    exact ⟨none, 0, rfl, Nat.le_refl _, .inl (List.eq_nil_of_length_eq_zero hx), Below.refl _ _⟩

end Go.Proofs.Qxb6602067aMods
