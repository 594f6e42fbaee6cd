import Derived.Test.Qxb6602058aModsAppend
namespace Go.Proofs.Qxb6602058aMods
open Go.RowKit
set_option linter.unusedSimpArgs false
set_option linter.unusedVariables false

theorem set_upto {vs : List Value} {xs : List Int} {k n : Nat} (hl : vs.length = n) (hk : k < n) (h : ∀ j, j < k → vs[j]? = some (.int .u8 (xs.getD j 0))) :
    ∀ j, j < k + 1 → (vs.set k (.int .u8 (xs.getD k 0)))[j]? = some (.int .u8 (xs.getD j 0)) := by
  intro j hj
  by_cases e : j = k
  · subst e; rw [List.getElem?_set_self (by omega)]
  · rw [List.getElem?_set_ne (by omega)]; exact h j (by omega)

set_option maxHeartbeats 1000000 in
theorem clone_some (x : Addr) (n cap : Nat) (xs : List Int) (w : World) (hn : n ≤ 1048576) (hx : xs.length = n) (hr : Row w w.heap.size (some x) xs) :
    Calls Trym.prog 11 #[.slice (some x) n cap] w fun e w' => ∃ a' cap', e = .returned (.slice a' n cap') ∧ n ≤ cap' ∧ Row w' w'.heap.size a' xs ∧ Below w.heap.size w w' := by
  obtain ⟨i0, hi, hz0, hz1, hz2⟩ := info_parts Trym.byte5
  have HX : Hid (xs.length = n) := hx
  clear hx
  have hnil := fun (wx : World) => Lib.run_eql_slice_nil (P := Trym.prog) wx 22 5 (some x) n cap 0 0 Trym.underlying22
  go_enter Trym.func11, Trym.ntmps11
  go_wp2_with (at_make; refine wpList_make_full _ rfl _ _ 22 rfl _ 5 i0 (.int .u8 0) 1 Trym.underlying22 hi hz0 hz1 _ _ _ _ n rfl rfl rfl rfl ?b2 ?b3 (Nat.le_refl _) ?_)
  case b2 => rw [hz2]; omega
  case b3 => unfold maxLen; omega
  intro w0 hown0 hgrow0
  have b0 : Below w.heap.size w w0 := (Below.refl _ _).grown hgrow0 (Nat.le_refl _) (fun k h => by cases h)
  obtain ⟨vs0, hown0⟩ : ∃ vs, w0.ownsRow w.heap.size 5 1 (.slice (some ⟨w.heap.size, 0, none⟩) n n) n vs := ⟨_, hown0⟩
  clear hgrow0
  go_wp2
  go_loopw [4] (fun kk wr => ∃ (k : Nat) (vs : List Value), k ≤ n ∧ kk = .int .i64 k ∧ wr.ownsRow w.heap.size 5 1 (.slice (some ⟨w.heap.size, 0, none⟩) n n) n vs ∧ (∀ j, j < k → vs[j]? = some (.int .u8 (xs.getD j 0))) ∧ Below w.heap.size w wr) (fun kk _ => n - (intOf kk).toNat)
  case atStart => exact ⟨0, vs0, Nat.zero_le _, rfl, hown0, fun j hj => by omega, b0⟩
  case round =>
    clear hown0 b0
    obtain ⟨k, vs, hk, rfl, hown, hup, hbel⟩ := hrel
    have hvl : vs.length = n := by have := hown.1; omega
    have HV : Hid (vs.length = n ∧ ∀ j, j < k → vs[j]? = some (.int .u8 (xs.getD j 0))) := ⟨hvl, hup⟩
    have hsz : w.heap.size < wr.heap.size := (hown.lt _ rfl).2
    by_cases hlt : k < n
    · obtain ⟨b, o, hxe, hbw, hc⟩ : ∃ b o, x = ⟨b, o, none⟩ ∧ b < w.heap.size ∧ w.cell? ⟨b, o + k, none⟩ = some (.int .u8 (xs.getD k 0)) := by
        rcases hr with rfl | ⟨b, o, h, hb, hc⟩
        · have := HX.out; simp at this; omega
        · exact ⟨b, o, Option.some.inj h, hb, hc k (by rw [HX.out]; omega)⟩
      subst hxe
      have hc' : wr.cell? ⟨b, o + k, none⟩ = some (.int .u8 (xs.getD k 0)) := (hbel.cell (p := ⟨b, o + k, none⟩) hbw).trans hc
      have hd := hown.cellAt k (by omega)
      have hf := hown.frozenAt k
      obtain ⟨vk, hvk⟩ : ∃ v, vs[k]? = some v := ⟨vs[k], by simp [hvl, hlt]⟩
      rw [hvk] at hd
      obtain ⟨c, hce⟩ : ∃ c, xs.getD k 0 = c := ⟨_, rfl⟩
      have HC : Hid (xs.getD k 0 = c) := hce
      rw [hce] at hc'
      clear hc hce hvk hvl hup hr
      go_wp2
      go_roundw
      case rel =>
        have hst := hown.stored k (.int .u8 c)
        refine ⟨k + 1, vs.set k (.int .u8 c), by omega, by go_num, hst.1, ?_, hbel.grown hst.2 hbel.size (fun k hk => by cases hk; exact Nat.le_refl _)⟩
        rw [← HC.out]
        exact set_upto HV.out.1 hlt HV.out.2
      case measure => simp [intOf]; omega
    · have hke : k = n := by omega
      subst hke
      clear hvl hup hr
      go_wp2
      go_ret
      refine ⟨_, k, rfl, Nat.le_refl _, .inr ⟨w.heap.size, 0, rfl, hsz, fun j hj => ?_⟩, hbel⟩
      have hj' : j < k := by rw [HX.out] at hj; exact hj
      rw [Nat.zero_add, hown.cellAt j (by omega)]
      exact HV.out.2 j hj'

set_option maxHeartbeats 400000 in
theorem clone_none (w : World) :
    Calls Trym.prog 11 #[.slice none 0 0] w fun e w' => e = .returned (.slice none 0 0) ∧ w = w' := by
  have hnil := fun (wx : World) => Lib.run_eql_slice_nil (P := Trym.prog) wx 22 5 none 0 0 0 0 Trym.underlying22
  go_enter Trym.func11, Trym.ntmps11
  go_wp2
  go_ret
  exact ⟨rfl, rfl⟩

theorem clone_any (a : Option Addr) (n cap : Nat) (xs : List Int) (w : World) (hz : a = none → n = 0 ∧ cap = 0) (hn : n ≤ 1048576) (hx : xs.length = n) (hr : Row w w.heap.size a xs) :
    Calls Trym.prog 11 #[.slice a n cap] w fun e w' => ∃ a' cap', e = .returned (.slice a' n cap') ∧ n ≤ cap' ∧ Row w' w'.heap.size a' xs ∧ Below w.heap.size w w' := by
  cases a with
  | some x => exact clone_some x n cap xs w hn hx hr
  | none =>
    obtain ⟨rfl, rfl⟩ := hz rfl
    refine (clone_none w).mono ?_
    rintro e w' ⟨rfl, rfl⟩
    exact ⟨none, 0, rfl, Nat.le_refl _, hr, Below.refl _ _⟩

end Go.Proofs.Qxb6602058aMods
