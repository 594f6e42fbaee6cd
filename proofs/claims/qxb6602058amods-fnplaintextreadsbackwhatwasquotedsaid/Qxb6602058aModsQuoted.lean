import Derived.Test.Qxb6602058aModsZzText
import Derived.Test.Qxb6602058aModsAppend
import Derived.Test.Qxb6602058aModsEsc
namespace Go.Proofs.Qxb6602058aMods
open Go.RowKit
set_option linter.unusedSimpArgs false
set_option linter.unusedVariables false

theorem stops_of_unplain {c : Int} (h : unplain c = true) : stops c = true := by
  simp [stops, unplain] at *; omega
theorem unplain_of_stops {c : Int} (h : stops c = true) (h34 : c ≠ 34) : unplain c = true := by
  simp [stops, unplain] at *; omega
theorem unplain_34 {c : Int} (h : unplain c = true) : c ≠ 34 := by
  simp [unplain] at *; omega

theorem quoted_law {X0 X1 X2 : List Int} {n0 n1 r bad : Nat} (l0 : X0.length = n0) (l1 : X1.length = n1)
    (hq : ∀ j, j < n1 → X1.getD j 0 ≠ 34) (hr : IsFirst stops (X0 ++ 34 :: (X1 ++ 34 :: X2)) (n0 + 1) r) (hb : IsFirst unplain X1 0 bad) :
    r = n0 + 1 + bad ∧ (bad = n1 → (X0 ++ 34 :: (X1 ++ 34 :: X2)).getD r 0 = 34) ∧ (bad < n1 → (X0 ++ 34 :: (X1 ++ 34 :: X2)).getD r 0 ≠ 34) := by
  have hd : (X0 ++ 34 :: (X1 ++ 34 :: X2)).drop (n0 + 1) = X1 ++ 34 :: X2 := by rw [← l0, ← List.drop_drop]; simp
  have hat := getD_drop hd
  have hin : ∀ j, j < n1 → (X0 ++ 34 :: (X1 ++ 34 :: X2)).getD (n0 + 1 + j) 0 = X1.getD j 0 := fun j hj => by
    rw [hat, getD_app (by omega)]
  have hend : (X0 ++ 34 :: (X1 ++ 34 :: X2)).getD (n0 + 1 + n1) 0 = 34 := by rw [hat, ← l1]; simp [List.getD]
  have hlen : (X0 ++ 34 :: (X1 ++ 34 :: X2)).length = n0 + 1 + (n1 + 1 + X2.length) := by simp [l0, l1]; omega
  have hbn : bad ≤ n1 := by have := hb.hi; omega
  have e : r = n0 + 1 + bad := by
    obtain ⟨d, rfl⟩ : ∃ d, r = n0 + 1 + d := ⟨r - (n0 + 1), by have := hr.lo; omega⟩
    by_cases h1 : d < bad
    · have h2 := hr.yes (by omega)
      rw [hin d (by omega)] at h2
      have h3 := unplain_of_stops h2 (hq d (by omega))
      rw [hb.no d (Nat.zero_le _) h1] at h3
      cases h3
    · by_cases h2 : bad < d
      · have h3 := hr.no (n0 + 1 + bad) (by omega) (by omega)
        by_cases h4 : bad < n1
        · rw [hin bad h4, stops_of_unplain (hb.yes (by omega))] at h3
          cases h3
        · have : bad = n1 := by omega
          rw [this, hend] at h3
          cases h3
      · omega
  subst e
  refine ⟨rfl, fun h => by rw [h]; exact hend, fun h => ?_⟩
  rw [hin bad h]
  exact hq bad h

set_option maxHeartbeats 400000 in
theorem zz16 (a0 a1 a2 : Option Addr) (n0 n1 n2 c0 c1 c2 : Nat) (w : World) (h : n0 + n1 + n2 ≤ 1048576) :
    Calls Trym.prog 16 #[.slice a0 n0 c0, .slice a1 n1 c1, .slice a2 n2 c2] w fun e w' => e = .returned (.bool true) ∧ w = w' := by
  go_enter Trym.func16, Trym.ntmps16
  go_wp2
  go_ret
  exact ⟨rfl, rfl⟩

set_option maxHeartbeats 400000 in
theorem zz16_no (a0 a1 a2 : Option Addr) (n0 n1 n2 c0 c1 c2 : Nat) (w : World) (h : ¬ n0 + n1 + n2 ≤ 1048576) (m0 : n0 ≤ maxLen) (m1 : n1 ≤ maxLen) (m2 : n2 ≤ maxLen) :
    Calls Trym.prog 16 #[.slice a0 n0 c0, .slice a1 n1 c1, .slice a2 n2 c2] w fun e w' => e = .returned (.bool false) ∧ w = w' := by
  unfold maxLen at m0 m1 m2
  go_enter Trym.func16, Trym.ntmps16
  go_wp2
  all_goals go_ret
  all_goals exact ⟨rfl, rfl⟩

theorem first_zero (n cap B : Nat) (a : Option Addr) (q : Int) (xs : List Int) (w : World) (hn : n ≤ maxLen) (hx : xs.length = n) (hr : Row w B a xs) :
    Calls Trym.prog 13 #[.slice a n cap, .int .i64 0, .int .u8 q] w fun e w' => ∃ r, IsFirst (fun c => c == q) xs 0 r ∧ e = .returned (.int .i64 (r : Int)) ∧ w = w' :=
  first_any n cap 0 B a q xs w hn hx hr (Nat.zero_le _)

theorem unplain_zero (n cap B : Nat) (a : Option Addr) (xs : List Int) (w : World) (hn : n ≤ maxLen) (hx : xs.length = n) (hr : Row w B a xs) :
    Calls Trym.prog 14 #[.slice a n cap, .int .i64 0] w fun e w' => ∃ r, IsFirst unplain xs 0 r ∧ e = .returned (.int .i64 (r : Int)) ∧ w = w' :=
  unplain_any n cap 0 B a xs w hn hx hr (Nat.zero_le _)

set_option maxHeartbeats 2000000 in
theorem walk4 (a0 a1 a2 : Option Addr) (n0 n1 n2 c0 c1 c2 : Nat) (X0 X1 X2 : List Int) (w : World) (l0 : X0.length = n0) (l1 : X1.length = n1) (l2 : X2.length = n2)
    (m0 : n0 ≤ maxLen) (m1 : n1 ≤ maxLen) (m2 : n2 ≤ maxLen) (z0 : a0 = none → n0 = 0 ∧ c0 = 0) (z1 : a1 = none → n1 = 0 ∧ c1 = 0) (z2 : a2 = none → n2 = 0 ∧ c2 = 0)
    (r0 : Row w w.heap.size a0 X0) (r1 : Row w w.heap.size a1 X1) (r2 : Row w w.heap.size a2 X2) (hs : n0 + n1 + n2 ≤ 1048576) :
    Calls Trym.prog 4 #[.slice a0 n0 c0, .slice a1 n1 c1, .slice a2 n2 c2] w fun e w' => e = .returned (.bool true) ∧ Below w.heap.size w w' := by
  obtain ⟨i0, hi, hz0, hz1, hz2⟩ := info_parts Trym.byte5
  have L : Hid (X0.length = n0 ∧ X1.length = n1 ∧ X2.length = n2) := ⟨l0, l1, l2⟩
  clear l0 l1 l2
  have hnil := fun (wx : World) => Lib.run_eql_slice_nil (P := Trym.prog) wx 22 5 none 0 0 0 0 Trym.underlying22
  go_enter Trym.func4, Trym.ntmps4
  go_wp2_with (first | (go_at_call 16; refine (zz16 _ _ _ _ _ _ _ _ _ _ hs).mono ?_; rintro e w' ⟨rfl, rfl⟩) | (go_at_call 13; refine (first_zero _ _ _ _ _ X1 _ m1 L.out.2.1 r1).mono ?_; rintro e w' ⟨rq, hrq, rfl, rfl⟩) | (at_make; refine wpList_make_own _ rfl _ _ 22 rfl _ 5 i0 (.int .u8 0) 1 Trym.underlying22 hi hz0 hz1 _ _ _ (n0 + n1 + n2 + 2) rfl rfl (by omega) ?b2 ?b3 (Nat.le_refl _) ?_))
  · go_ret
    exact ⟨rfl, Below.refl _ _⟩
  case b2 => rw [hz2]; omega
  case b3 => unfold maxLen; omega
  intro w0 hown0 hgrow0
  have hge : n1 ≤ rq := by have h : ¬ (rq : Int) < (n1 : Int) := by first | assumption | omega
                           omega
  have HQ : Hid (∀ j, j < n1 → X1.getD j 0 ≠ 34) := fun j hj h => by
    have := hrq.no j (Nat.zero_le _) (by omega)
    simp only [h] at this
    cases this
  have b0 : Below w.heap.size w w0 := (Below.refl _ _).grown hgrow0 (Nat.le_refl _) (fun k h => by cases h)
  have q0 := r0.below b0
  clear hrq
  go_wp2_with (first
    | (at_builtin; refine wpList_append_fits_any _ rfl (.tmp 55) (.tmp 56) 22 rfl _ 5 i0 1 Trym.underlying22 hi hz1 _ 0 _ _ rfl hown0 a0 n0 c0 (X0.map (Value.int .u8)) rfl (by simp [L.out.1]) z0 q0.fresh (ints_oneCell _ _) (by omega) ?_; intro w1 hown1 hgrow1; simp only [Nat.zero_add, List.nil_append] at hown1; have b1 : Below w.heap.size w w1 := b0.grown hgrow1 b0.size (fun k hk => by cases hk; exact Nat.le_refl _))
    | (at_builtin; refine wpList_append_fits _ rfl (.tmp 58) (.tmp 59) 22 rfl _ 5 i0 1 Trym.underlying22 hi hz1 _ n0 _ _ rfl (hown1.alloc _) ⟨_, 0, none⟩ 1 1 [.int .u8 34] rfl rfl (cell_one_new _ _ _) (by intro u hu; simp at hu; subst hu; rfl) (by omega) ?_; intro w2 hown2 hgrow2; have b2 : Below w.heap.size w w2 := (b1.alloc b1.size _).grown hgrow2 (by have := b1.size; simp; omega) (fun k hk => by cases hk; exact Nat.le_refl _))
    | (at_builtin; refine wpList_append_fits_any _ rfl (.tmp 61) (.tmp 62) 22 rfl _ 5 i0 1 Trym.underlying22 hi hz1 _ (n0 + 1) _ _ rfl hown2 a1 n1 c1 (X1.map (Value.int .u8)) rfl (by simp [L.out.2.1]) z1 (r1.below b2).fresh (ints_oneCell _ _) (by omega) ?_; intro w3 hown3 hgrow3; have b3 : Below w.heap.size w w3 := b2.grown hgrow3 b2.size (fun k hk => by cases hk; exact Nat.le_refl _))
    | (at_builtin; refine wpList_append_fits _ rfl (.tmp 64) (.tmp 65) 22 rfl _ 5 i0 1 Trym.underlying22 hi hz1 _ (n0 + 1 + n1) _ _ rfl (hown3.alloc _) ⟨_, 0, none⟩ 1 1 [.int .u8 34] rfl rfl (cell_one_new _ _ _) (by intro u hu; simp at hu; subst hu; rfl) (by omega) ?_; intro w4 hown4 hgrow4; have b4 : Below w.heap.size w w4 := (b3.alloc b3.size _).grown hgrow4 (by have := b3.size; simp; omega) (fun k hk => by cases hk; exact Nat.le_refl _))
    | (at_builtin; refine wpList_append_fits_any _ rfl (.tmp 67) (.tmp 68) 22 rfl _ 5 i0 1 Trym.underlying22 hi hz1 _ (n0 + 1 + n1 + 1) _ _ rfl hown4 a2 n2 c2 (X2.map (Value.int .u8)) rfl (by simp [L.out.2.2]) z2 (r2.below b4).fresh (ints_oneCell _ _) (by omega) ?_; intro w5 hown5 hgrow5; have b5 : Below w.heap.size w w5 := b4.grown hgrow5 b4.size (fun k hk => by cases hk; exact Nat.le_refl _)))
  obtain ⟨l0, l1, l2⟩ := L.out
  have ho5 : w5.ownsRow w.heap.size 5 1 (.slice (some ⟨w.heap.size, 0, none⟩) (n0 + 1 + n1 + 1 + n2) (n0 + n1 + n2 + 2)) (n0 + 1 + n1 + 1 + n2) ((X0 ++ 34 :: (X1 ++ 34 :: X2)).map (Value.int .u8)) := by simpa using hown5
  have hc5 := own_cells ho5
  have hlen : (X0 ++ 34 :: (X1 ++ 34 :: X2)).length = n0 + 1 + n1 + 1 + n2 := by simp [l0, l1, l2]; omega
  rw [hlen] at hc5
  have hlt5 : w.heap.size < w5.heap.size := cell_lt (hc5 0 (by omega))
  have hat0 : (X0 ++ 34 :: (X1 ++ 34 :: X2)).getD n0 0 = 34 := by rw [← l0]; simp [List.getD]
  clear hown0 hown1 hown2 hown3 hown4 hown5 hgrow0 hgrow1 hgrow2 hgrow3 hgrow4 hgrow5 b0 b1 b2 b3 b4 q0 ho5 r0 r2
  refine (zztext_yes w.heap.size 0 _ _ n0 _ w5 (by unfold maxLen; omega) (by omega) hlt5 hlen hc5 (by omega) hat0).mono ?_
  rintro e w6 ⟨r, hr, hb6, h⟩
  have B6 : Below w.heap.size w w6 := b5.trans (hb6.mono (by omega))
  have hd : (X0 ++ 34 :: (X1 ++ 34 :: X2)).drop (n0 + 1) = X1 ++ 34 :: X2 := by rw [← l0, ← List.drop_drop]; simp
  have RO : Row w6 w5.heap.size (some ⟨w.heap.size, n0 + 1, none⟩) X1 := by
    refine (Row.of_cells hlt5 fun j hj => ?_).below hb6
    have h1 := hc5 (n0 + 1 + j) (by omega)
    rw [getD_drop hd, getD_app hj, Nat.zero_add] at h1
    exact h1
  have RS : Row w6 w5.heap.size a1 X1 := (r1.below B6).mono (by omega)
  have HL : Hid (∀ bad, IsFirst unplain X1 0 bad → r = n0 + 1 + bad ∧ bad ≤ n1 ∧ (bad = n1 → (X0 ++ 34 :: (X1 ++ 34 :: X2)).getD r 0 = 34) ∧ (bad < n1 → (X0 ++ 34 :: (X1 ++ 34 :: X2)).getD r 0 ≠ 34)) := fun bad hbad => by
    obtain ⟨h1, h2, h3⟩ := quoted_law l0 l1 HQ.out hr hbad
    exact ⟨h1, by have := hbad.hi; omega, h2, h3⟩
  clear hr hc5 hb6 hd hat0 l0 l1 l2 b5 hlen
  rcases h with ⟨h1, h2, rfl⟩ | ⟨h1, rfl⟩
  · have H : Hid (r < n0 + 1 + n1 + 1 + n2 ∧ (X0 ++ 34 :: (X1 ++ 34 :: X2)).getD r 0 = 34) := ⟨h1, h2⟩
    clear h1 h2
    go_wp2_with (first
      | (go_at_call 14; refine (unplain_zero _ _ _ _ X1 _ m1 L.out.2.1 RS).mono ?_; rintro e w' ⟨bad, hbad, rfl, rfl⟩; have hb1 : bad = n1 := (by obtain ⟨k1, k2, k3, k4⟩ := HL.out bad hbad; by_cases hb : bad = n1; exact hb; exact absurd H.out.2 (k4 (by omega))); have hrv : r = n0 + 1 + n1 := (by have := (HL.out bad hbad).1; omega); subst hb1; subst hrv)
      | (go_at_call 15; refine (same_eq2 _ _ _ _ _ _ w5.heap.size X1 _ ?_ ?_ ?_ RO RS).mono ?_; rotate_right; rintro e w' ⟨rfl, m7, rfl⟩))
    · go_ret
      exact ⟨rfl, drewN_below B6 _⟩
    · exact L.out.2.1
    · exact L.out.2.1
    · exact m1
  · have H : Hid (r < n0 + 1 + n1 + 1 + n2 → (X0 ++ 34 :: (X1 ++ 34 :: X2)).getD r 0 ≠ 34) := h1
    clear h1
    go_wp2_with (go_at_call 14; refine (unplain_zero _ _ _ _ X1 _ m1 L.out.2.1 RS).mono ?_; rintro e w' ⟨bad, hbad, rfl, rfl⟩; have hb1 : bad < n1 := (by obtain ⟨k1, k2, k3, k4⟩ := HL.out bad hbad; by_cases hb : bad < n1; exact hb; exact absurd (k3 (by omega)) (H.out (by omega))); have hrv : r = n0 + 1 + bad := (by have := (HL.out bad hbad).1; omega); subst hrv)
    go_ret
    exact ⟨rfl, B6⟩

end Go.Proofs.Qxb6602058aMods
