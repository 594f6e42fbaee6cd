import Derived.Test.Qxb6602067aModsCols
namespace Go.Proofs.Qxb6602067aMods
open Go.RowKit
set_option linter.unusedSimpArgs false
set_option linter.unusedVariables false

theorem In64.get {X : List (Int × Int)} (h : In64 X) {k : Nat} (hk : k < X.length) : 0 ≤ (X.getD k (0, 0)).1 ∧ (X.getD k (0, 0)).1 ≤ 18446744073709551615 ∧ 0 ≤ (X.getD k (0, 0)).2 ∧ (X.getD k (0, 0)).2 ≤ 18446744073709551615 := by
  have := h X[k] (List.getElem_mem hk)
  simpa [List.getD, hk] using this

/-- What zzSegsInOrder answers. -/
structure OrdPost (pb : Int) (X : List (Int × Int)) (w : World) (e : Ending) (w' : World) : Prop where
  out : ∃ r m, e = .returned (.bool r) ∧ w' = w.drewN m ∧ (r = true → asc (if 1 < pb then pb else 0) X)

set_option maxHeartbeats 1000000 in
theorem order_any (pb : Int) (a1 a2 : Option Addr) (n c1 c2 B : Nat) (X : List (Int × Int)) (w : World) (hx : X.length = n) (hn : n ≤ 65536) (hu : In64 X) (hpb : 0 ≤ pb)
    (r1 : Col Prod.fst w B a1 X) (r2 : Col Prod.snd w B a2 X) :
    Calls Trym.prog 13 #[.int .u64 pb, .slice a1 n c1, .slice a2 n c2] w fun e w' => OrdPost pb X w e w' := by
  have HX : Hid (X.length = n ∧ In64 X) := ⟨hx, hu⟩
  clear hx hu
  go_enter Trym.func13, Trym.ntmps13
  go_wp2
  go_loopg [7, 8, 9] n (fun gn sh sp si wr => ∃ (k m : Nat) (hv : Bool) (pv lo : Int), gn = n - k ∧ k ≤ n ∧ si = .int .i64 k ∧ sh = .bool hv ∧ sp = .int .u64 pv ∧ wr = w.drewN m ∧
     (hv = false → lo = if 1 < pb then pb else 0) ∧ (hv = true → lo = pv + 1) ∧ (asc lo (X.drop k) → asc (if 1 < pb then pb else 0) X))
  case atStart => exact ⟨0, 0, false, 0, _, rfl, Nat.zero_le _, rfl, rfl, rfl, rfl, fun _ => rfl, (fun h => by cases h), fun h => h⟩
  case round =>
    obtain ⟨k, m, hv, pv, lo, hg, hk, rfl, rfl, rfl, rfl, h1, h2, h3⟩ := hrel
    have HG : Hid (gk = n - k ∧ (hv = false → lo = if 1 < pb then pb else 0) ∧ (hv = true → lo = pv + 1) ∧ (asc lo (X.drop k) → asc (if 1 < pb then pb else 0) X)) := ⟨hg, h1, h2, h3⟩
    clear hg h1 h2 h3
    by_cases hlt : k < n
    · obtain ⟨b1, o1, hae1, e1⟩ := r1.get HX.out.1 hlt
      obtain ⟨b2, o2, hae2, e2⟩ := r2.get HX.out.1 hlt
      subst hae1 hae2
      clear r1 r2
      have hdr := drop_cons' (X := X) (k := k) (by rw [HX.out.1]; exact hlt)
      obtain ⟨p0, p1, hp⟩ : ∃ p0 p1, X.getD k (0, 0) = (p0, p1) := ⟨_, _, rfl⟩
      have hpu := HX.out.2.get (k := k) (by rw [HX.out.1]; exact hlt)
      rw [hp] at e1 e2 hdr hpu
      simp only [] at e1 e2 hpu
      obtain ⟨u0, u1, u2, u3⟩ := hpu
      have HP : Hid (X.drop k = (p0, p1) :: X.drop (k + 1)) := hdr
      clear hp hdr
      by_cases hemp : p1 < p0
      · go_wp2
        go_quiet (fail)
        go_wp2
        go_roundg (n - (k + 1))
        case measure => rw [HG.out.1]; omega
        case rel => exact ⟨k + 1, _, hv, pv, lo, rfl, by omega, by go_num, rfl, rfl, rfl, HG.out.2.1, HG.out.2.2.1, fun h => HG.out.2.2.2 (by rw [HP.out, asc_empty (show p1 < p0 by omega)]; exact h)⟩
      · cases hv
        · have hlo := HG.out.2.1 rfl
          have HL : Hid (lo = if 1 < pb then pb else 0) := hlo
          clear hlo
          by_cases hb1 : 1 < pb
          · by_cases hb2 : p0 < pb
            · go_wp2
              go_quiet (fail)
              go_wp2
              go_ret
              exact ⟨⟨false, _, rfl, rfl, fun h => by cases h⟩⟩
            · go_wp2
              go_quiet (fail)
              go_wp2
              go_roundg (n - (k + 1))
              case measure => rw [HG.out.1]; omega
              case rel => exact ⟨k + 1, _, true, p1, p1 + 1, rfl, by omega, by go_num, rfl, rfl, rfl, (fun h => by cases h), fun _ => rfl, fun h => HG.out.2.2.2 (by rw [HP.out, asc_seg (show ¬ p1 < p0 by omega)]; refine ⟨?_, h⟩; show lo ≤ p0; rw [HL.out]; split <;> omega)⟩
          · go_wp2
            go_quiet (fail)
            go_wp2
            go_roundg (n - (k + 1))
            case measure => rw [HG.out.1]; omega
            case rel => exact ⟨k + 1, _, true, p1, p1 + 1, rfl, by omega, by go_num, rfl, rfl, rfl, (fun h => by cases h), fun _ => rfl, fun h => HG.out.2.2.2 (by rw [HP.out, asc_seg (show ¬ p1 < p0 by omega)]; refine ⟨?_, h⟩; show lo ≤ p0; rw [HL.out]; split <;> omega)⟩
        · have hlo := HG.out.2.2.1 rfl
          have HL : Hid (lo = pv + 1) := hlo
          clear hlo
          by_cases hb2 : p0 ≤ pv
          · go_wp2
            go_quiet (fail)
            go_wp2
            go_ret
            exact ⟨⟨false, _, rfl, rfl, fun h => by cases h⟩⟩
          · go_wp2
            go_quiet (fail)
            go_wp2
            go_roundg (n - (k + 1))
            case measure => rw [HG.out.1]; omega
            case rel => exact ⟨k + 1, _, true, p1, p1 + 1, rfl, by omega, by go_num, rfl, rfl, rfl, (fun h => by cases h), fun _ => rfl, fun h => HG.out.2.2.2 (by rw [HP.out, asc_seg (show ¬ p1 < p0 by omega)]; refine ⟨?_, h⟩; show lo ≤ p0; rw [HL.out]; omega)⟩
    · have hke : k = n := by omega
      subst hke
      clear r1 r2
      go_wp2
      go_ret
      refine ⟨⟨true, m, rfl, rfl, fun _ => HG.out.2.2.2 ?_⟩⟩
      rw [List.drop_eq_nil_of_le (by rw [HX.out.1]; omega)]
      trivial

end Go.Proofs.Qxb6602067aMods
