import Derived.Test.Qxb6602067aModsBase
namespace Go.Proofs.Qxb6602067aMods
open Go.RowKit
set_option linter.unusedSimpArgs false
set_option linter.unusedVariables false

theorem Trym.info33 : (Trym.prog.info? 33).map (fun i => (i.zero, i.size, i.bytes)) = some (some (.agg #[.int .u64 0, .int .u64 0]), 2, 16) := by kernel_rfl

theorem set_two {vs : List Value} {X : List (Int × Int)} {k n : Nat} {p0 p1 : Int} (hl : vs.length = n * 2) (hk : k < n) (hp : X.getD k (0, 0) = (p0, p1))
    (h : ∀ j, j < k → vs[j * 2]? = some (.int .u64 (X.getD j (0, 0)).1) ∧ vs[j * 2 + 1]? = some (.int .u64 (X.getD j (0, 0)).2)) :
    ∀ j, j < k + 1 → ((vs.set (k * 2) (.int .u64 p0)).set (k * 2 + 1) (.int .u64 p1))[j * 2]? = some (.int .u64 (X.getD j (0, 0)).1) ∧ ((vs.set (k * 2) (.int .u64 p0)).set (k * 2 + 1) (.int .u64 p1))[j * 2 + 1]? = some (.int .u64 (X.getD j (0, 0)).2) := by
  intro j hj
  by_cases e : j = k
  · subst e
    rw [hp]
    refine ⟨?_, ?_⟩
    · rw [List.getElem?_set_ne (by omega), List.getElem?_set_self (by omega)]
    · rw [List.getElem?_set_self (by simp; omega)]
  · rw [List.getElem?_set_ne (by omega), List.getElem?_set_ne (by omega), List.getElem?_set_ne (by omega), List.getElem?_set_ne (by omega)]
    exact h j (by omega)

set_option maxHeartbeats 1000000 in
theorem copy_some (x : Addr) (n cap : Nat) (X : List (Int × Int)) (w : World) (hn : n ≤ 1048576) (hx : X.length = n) (hr : Prs w w.heap.size (some x) X) :
    Calls Trym.prog 22 #[.slice (some x) n cap] w fun e w' => ∃ a' cap', e = .returned (.slice a' n cap') ∧ n ≤ cap' ∧ Prs w' w'.heap.size a' X ∧ Below w.heap.size w w' := by
  obtain ⟨i0, hi, hz0, hz1, hz2⟩ := info_parts Trym.info33
  have HX : Hid (X.length = n) := hx
  clear hx
  have hnil := fun (wx : World) => Lib.run_eql_slice_nil (P := Trym.prog) wx 38 32 (some x) n cap 0 0 Trym.underlying38
  go_enter Trym.func22, Trym.ntmps22
  go_wp2_with (at_make; refine wpList_make_full _ rfl _ _ 28 rfl _ 33 i0 (.agg #[.int .u64 0, .int .u64 0]) 2 Trym.underlying28 hi hz0 hz1 _ _ _ _ n rfl rfl rfl rfl ?b2 ?b3 (Nat.le_refl _) ?_)
  case b2 => rw [hz2]; omega
  case b3 => unfold maxLen; omega
  intro w0 hown0 hgrow0
  have b0 : Below w.heap.size w w0 := (Below.refl _ _).grown hgrow0 (Nat.le_refl _) (fun k h => by cases h)
  obtain ⟨vs0, hown0⟩ : ∃ vs, w0.ownsRow w.heap.size 33 2 (.slice (some ⟨w.heap.size, 0, none⟩) n n) n vs := ⟨_, hown0⟩
  clear hgrow0
  go_wp2
  go_loopg [4] n (fun gn kk wr => ∃ (k : Nat) (vs : List Value), gn = n - k ∧ k ≤ n ∧ kk = .int .i64 k ∧ wr.ownsRow w.heap.size 33 2 (.slice (some ⟨w.heap.size, 0, none⟩) n n) n vs ∧ (∀ j, j < k → vs[j * 2]? = some (.int .u64 (X.getD j (0, 0)).1) ∧ vs[j * 2 + 1]? = some (.int .u64 (X.getD j (0, 0)).2)) ∧ Below w.heap.size w wr)
  case atStart => exact ⟨0, vs0, rfl, Nat.zero_le _, rfl, hown0, fun j hj => by omega, b0⟩
  case round =>
    clear hown0 b0
    obtain ⟨k, vs, hgk, hk, rfl, hown, hup, hbel⟩ := hrel
    have hvl : vs.length = n * 2 := hown.1
    have HV : Hid (gk = n - k ∧ vs.length = n * 2 ∧ ∀ j, j < k → vs[j * 2]? = some (.int .u64 (X.getD j (0, 0)).1) ∧ vs[j * 2 + 1]? = some (.int .u64 (X.getD j (0, 0)).2)) := ⟨hgk, hvl, hup⟩
    have hsz : w.heap.size < wr.heap.size := (hown.lt _ rfl).2
    clear hgk hup
    by_cases hlt : k < n
    · obtain ⟨b, off, hxe, hbw, hcl⟩ : ∃ b off, x = ⟨b, off, none⟩ ∧ b < w.heap.size ∧ w.cell? ⟨b, off + k * 2, none⟩ = some (.int .u64 (X.getD k (0, 0)).1) ∧ w.cell? ⟨b, off + k * 2 + 1, none⟩ = some (.int .u64 (X.getD k (0, 0)).2) := by
        rcases hr with rfl | ⟨b, o, h, hb, hc⟩
        · have := HX.out; simp at this; omega
        · exact ⟨b, o, Option.some.inj h, hb, hc k (by rw [HX.out]; omega)⟩
      subst hxe
      clear hr
      obtain ⟨p0, p1, hp⟩ : ∃ p0 p1, X.getD k (0, 0) = (p0, p1) := ⟨_, _, rfl⟩
      rw [hp] at hcl
      have e0 : wr.cell? ⟨b, off + k * 2, none⟩ = some (.int .u64 p0) := (hbel.cell (p := ⟨b, off + k * 2, none⟩) hbw).trans hcl.1
      have e1 : wr.cell? ⟨b, off + k * 2 + 1, none⟩ = some (.int .u64 p1) := (hbel.cell (p := ⟨b, off + k * 2 + 1, none⟩) hbw).trans hcl.2
      have HPk : Hid (X.getD k (0, 0) = (p0, p1)) := hp
      clear hp hcl
      have hd0 := hown.cellAt (k * 2) (by omega)
      have hd1 := hown.cellAt (k * 2 + 1) (by omega)
      have hf0 := hown.frozenAt (k * 2)
      have hf1 := hown.frozenAt (k * 2 + 1)
      obtain ⟨v0, hv0⟩ : ∃ v, vs[k * 2]? = some v := ⟨vs[k * 2]'(by omega), List.getElem?_eq_getElem _⟩
      obtain ⟨v1, hv1⟩ : ∃ v, vs[k * 2 + 1]? = some v := ⟨vs[k * 2 + 1]'(by omega), List.getElem?_eq_getElem _⟩
      rw [hv0] at hd0
      rw [hv1] at hd1
      clear hv0 hv1 hvl
      go_wp2
      go_roundg (n - (k + 1))
      case measure => rw [HV.out.1]; omega
      case rel =>
        have s0 := hown.stored (k * 2) (.int .u64 p0)
        have s1 := s0.1.stored (k * 2 + 1) (.int .u64 p1)
        have hb0 := hbel.grown s0.2 hbel.size (fun k hk => by cases hk; exact Nat.le_refl _)
        exact ⟨k + 1, _, rfl, by omega, by go_num, s1.1, set_two HV.out.2.1 hlt HPk.out HV.out.2.2, hb0.grown s1.2 hb0.size (fun k hk => by cases hk; exact Nat.le_refl _)⟩
    · have hke : k = n := by omega
      subst hke
      go_wp2
      go_ret
      refine ⟨_, k, rfl, Nat.le_refl _, ?_, hbel⟩
      refine .inr ⟨w.heap.size, 0, rfl, hsz, fun j hj => ?_⟩
      rw [HX.out] at hj
      have := HV.out.2.2 j hj
      rw [Nat.zero_add, hown.cellAt (j * 2) (by omega), hown.cellAt (j * 2 + 1) (by omega)]
      exact this

set_option maxHeartbeats 400000 in
theorem copy_none (w : World) :
    Calls Trym.prog 22 #[.slice none 0 0] w fun e w' => e = .returned (.slice none 0 0) ∧ w = w' := by
  have hnil := fun (wx : World) => Lib.run_eql_slice_nil (P := Trym.prog) wx 38 32 none 0 0 0 0 Trym.underlying38
  go_enter Trym.func22, Trym.ntmps22
  go_wp2
  go_ret
  exact ⟨rfl, rfl⟩

theorem copy_any (a : Option Addr) (n cap : Nat) (X : List (Int × Int)) (w : World) (hz : a = none → n = 0 ∧ cap = 0) (hn : n ≤ 1048576) (hx : X.length = n) (hr : Prs w w.heap.size a X) :
    Calls Trym.prog 22 #[.slice a n cap] w fun e w' => ∃ a' cap', e = .returned (.slice a' n cap') ∧ n ≤ cap' ∧ Prs w' w'.heap.size a' X ∧ Below w.heap.size w w' := by
  cases a with
  | some x => exact copy_some x n cap X w hn hx hr
  | none =>
    obtain ⟨rfl, rfl⟩ := hz rfl
    refine (copy_none w).mono ?_
    rintro e w' ⟨rfl, rfl⟩
    exact ⟨none, 0, rfl, Nat.le_refl _, hr, Below.refl _ _⟩

end Go.Proofs.Qxb6602067aMods
