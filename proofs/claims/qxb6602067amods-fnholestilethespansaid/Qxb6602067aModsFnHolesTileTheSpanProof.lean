import Derived.Test.Qxb6602067aModsRows
import Derived.Test.Qxb6602067aModsOpenSpan
import Derived.WalkKit
import Derived.ProofKit
import Derived.OpenShut
import Derived.ShutString
import Derived.ChangeOld
import Derived.Below
namespace Go.Proofs.Qxb6602067aMods.fnHolesTileTheSpan
open Go.ChangeShapes Go.WideShapes Go.ChangeAt Go.RowKit
set_option linter.unusedVariables false

theorem own : ownKnob Trym.prog.godebug = none := by kernel_rfl
theorem laidOut : laidOutB Trym.prog = true := by kernel_rfl

theorem walk (pb : Int) (a1 : Option Addr) (len1 cap1 : Nat) (f1 : Nat → Int) (a2 : Option Addr) (len2 cap2 : Nat) (f2 : Nat → Int) (a3 : Option Addr) (len3 cap3 : Nat) (w : World) (w0 : (Lit.int .u64 pb).wf = true) (w1 : IsInts w a1 len1 cap1 f1) (w2 : IsInts w a2 len2 cap2 f2)
    (m3 : len3 ≤ maxLen) (w3 : Strs w w.heap.size a3 len3) :
    Calls Trym.prog 3 #[.int .u64 pb, .slice a1 len1 cap1, .slice a2 len2 cap2, .slice a3 len3 cap3] w fun e w' => e = .returned (.bool true) ∧ Below w.heap.size w w' := by
  have hb := bounds_u64 w0
  refine walk3_all pb a1 a2 a3 len1 len2 len3 cap1 cap2 cap3 w hb.1 hb.2 w1.most w2.most m3 w1.isnil w3 ?_
  rintro rfl
  exact pair_up w1 w2

set_option maxRecDepth 100000 in
theorem lifted (os : Os) (started : os.Started) (H : Type) (enc : TypeId × Value → H) :
    ReturnsInHanded {} Trym.checked os 3 .any (Rows.fnHolesTileTheSpanSpec.pre6 enc Trym.prog Trym.f3 Rows.fnHolesTileTheSpanRow.domain false) (Rows.fnHolesTileTheSpanSpec.post enc Trym.prog Trym.f3 false true false false) := by
  refine returnsInHanded_of_change (C := Trym.checked) own started (by kernel_rfl) Trym.func3
    (ChangeSpec.witness6 (enc := enc) (C := Trym.checked) false ⟨#[], #[.int .u64 0, .slice none 0 0, .slice none 0 0, .slice none 0 0], []⟩ 8 (by kernel_rfl) (by kernel_rfl) (by kernel_rfl) (by kernel_rfl)) ?_
  intro W base args ds gs before hval0 hW hcnd _
  have hval : ∀ (j : Nat) t v, Trym.f3.params[j]? = some t → args[j]? = some v → Value.okWide Trym.prog W .any base t v := hval0
  have hW' := hW
  obtain ⟨p, q, hA0, hV, rfl, hfz, hnd⟩ := hW
  have hA : DataW.TrodAll enc Trym.prog W 0 (fun _ => true) true Trym.f3.params.toList args.toList ds p := hA0
  rw [Trym.params3] at hA hval
  obtain ⟨v0, vs0, d0, ds0, p0, q0, hargs, rfl, rfl, h0, r0⟩ := trodAll_cons hA
  obtain ⟨v1, vs1, d1, ds1, p1, q1, rfl, rfl, rfl, h1, r1⟩ := trodAll_cons r0
  obtain ⟨v2, vs2, d2, ds2, p2, q2, rfl, rfl, rfl, h2, r2⟩ := trodAll_cons r1
  obtain ⟨v3, vs3, d3, ds3, p3, q3, rfl, rfl, rfl, h3, r3⟩ := trodAll_cons r2
  obtain ⟨rfl, rfl, rfl⟩ := trodAll_nil r3
  obtain rfl : args = #[v0, v1, v2, v3] := by cases args; simp_all
  obtain ⟨rfl, rfl⟩ := trodVars_none hV
  obtain ⟨a0, rfl, rfl, rfl, w0⟩ := open_int Trym.underlying22 (hval 0 22 v0 rfl rfl) h0
  obtain ⟨a1, len1, cap1, rfl⟩ := okWide_slice Trym.underlying23 (hval 1 23 v1 rfl rfl)
  have k1 := h1
  have lt1 : ∀ x ∈ p1, x.block < W.heap.size := by obtain ⟨m, hm⟩ := k1; exact DataW.trod_lt m _ _ _ hm
  obtain ⟨f1, w1⟩ : ∃ f, IsInts W a1 len1 cap1 f := by
    obtain ⟨fuel, hf⟩ := h1
    rcases open_ints Trym.underlying23 Trym.underlying22 (by kernel_rfl) hf with ⟨hcs, _⟩ | ⟨x, l, c, zs, hcs, _, hl, hm, hz, _, hcell, hwz⟩
    · simp [Value.cells] at hcs
      obtain ⟨rfl, rfl, rfl⟩ := hcs
      exact ⟨fun _ => 0, Nat.zero_le _, fun _ => ⟨rfl, rfl⟩, fun i hi => by omega, .inl rfl⟩
    · simp [Value.cells] at hcs
      obtain ⟨rfl, rfl, rfl⟩ := hcs
      exact ⟨_, isints_of hl hm (by simpa using hz) hcell hwz⟩
  obtain ⟨a2, len2, cap2, rfl⟩ := okWide_slice Trym.underlying23 (hval 2 23 v2 rfl rfl)
  have k2 := h2
  have lt2 : ∀ x ∈ p2, x.block < W.heap.size := by obtain ⟨m, hm⟩ := k2; exact DataW.trod_lt m _ _ _ hm
  obtain ⟨f2, w2⟩ : ∃ f, IsInts W a2 len2 cap2 f := by
    obtain ⟨fuel, hf⟩ := h2
    rcases open_ints Trym.underlying23 Trym.underlying22 (by kernel_rfl) hf with ⟨hcs, _⟩ | ⟨x, l, c, zs, hcs, _, hl, hm, hz, _, hcell, hwz⟩
    · simp [Value.cells] at hcs
      obtain ⟨rfl, rfl, rfl⟩ := hcs
      exact ⟨fun _ => 0, Nat.zero_le _, fun _ => ⟨rfl, rfl⟩, fun i hi => by omega, .inl rfl⟩
    · simp [Value.cells] at hcs
      obtain ⟨rfl, rfl, rfl⟩ := hcs
      exact ⟨_, isints_of hl hm (by simpa using hz) hcell hwz⟩
  obtain ⟨a3, len3, cap3, rfl⟩ := okWide_slice Trym.underlying24 (hval 3 24 v3 rfl rfl)
  have k3 := h3
  have lt3 : ∀ x ∈ p3, x.block < W.heap.size := by obtain ⟨m, hm⟩ := k3; exact DataW.trod_lt m _ _ _ hm
  obtain ⟨m3, w3⟩ : len3 ≤ maxLen ∧ Strs W W.heap.size a3 len3 := by
    obtain ⟨fuel, hf⟩ := h3
    rcases open_strings Trym.underlying24 Trym.underlying9 (by kernel_rfl) hf with ⟨hcs, _⟩ | ⟨x, l, c, ss, hcs, _, hl, hm, hz, _, hcell, hws⟩
    · simp [Value.cells] at hcs
      obtain ⟨rfl, rfl, rfl⟩ := hcs
      exact ⟨Nat.zero_le _, .inl rfl⟩
    · simp [Value.cells] at hcs
      obtain ⟨rfl, rfl, rfl⟩ := hcs
      exact ⟨by omega, strs_of hl (by simpa using hz) hcell hws⟩
  clear hA0 hval0
  refine (walk a0 a1 len1 cap1 f1 a2 len2 cap2 f2 a3 len3 cap3 W w0 w1 w2 m3 w3).mono fun e W' ⟨he, bel⟩ => ?_
  subst he
  exact ⟨_, rfl, _, _, _, [], _, [], hW', trodAll_mk1 (shut_bool Trym.underlying4 _), (trodAll_cons_mk (shut_int Trym.underlying22 w0) (trodAll_cons_mk (Below.trod laidOut (by kernel_rfl) (of_decide_eq_true (by kernel_rfl)) k1 bel lt1) (trodAll_cons_mk (Below.trod laidOut (by kernel_rfl) (of_decide_eq_true (by kernel_rfl)) k2 bel lt2) (trodAll_cons_mk (Below.trod laidOut (by kernel_rfl) (of_decide_eq_true (by kernel_rfl)) k3 bel lt3) trodAll_mk0)))), rfl, bel.frame _, fun h => by cases h⟩

theorem over : Rows.fnHolesTileTheSpanRow.holds Trym.pinned (OpenSpec.ofChange Rows.fnHolesTileTheSpanSpec) :=
  OpenClaim.holds_of_wide 3 Trym.f3 rfl rfl rfl rfl rfl rfl rfl ⟨rfl, rfl, rfl, rfl, rfl⟩ rfl rfl rfl rfl rfl (by kernel_rfl) Trym.func3 (by kernel_rfl)
    (of_decide_eq_true (by kernel_rfl)) (by unfold Func.isWrapper; first | (rw [if_pos (by decide +kernel)]; kernel_rfl) | (rw [if_neg (by decide +kernel)]; exact ⟨rfl, rfl⟩))
    (fun os started H enc _ => lifted os started H enc)

/-- THE STATEMENT -/
theorem proved : Rows.FnHolesTileTheSpanSaid := over
end Go.Proofs.Qxb6602067aMods.fnHolesTileTheSpan
