import Derived.Test.Qxb6602067aModsOver
import Derived.Test.Qxb6602067aModsCopy
namespace Go.Proofs.Qxb6602067aMods
open Go.RowKit
set_option linter.unusedSimpArgs false
set_option linter.unusedVariables false

set_option maxHeartbeats 400000 in
theorem zz20 (a0 a1 : Option Addr) (n0 n1 c0 c1 : Nat) (w : World) (h : n0 + n1 ≤ 1048576) :
    Calls Trym.prog 20 #[.slice a0 n0 c0, .slice a1 n1 c1] w fun e w' => e = .returned (.bool true) ∧ w = w' := by
  go_enter Trym.func20, Trym.ntmps20
  go_wp2
  go_ret
  exact ⟨rfl, rfl⟩

set_option maxHeartbeats 400000 in
theorem zz20_no (a0 a1 : Option Addr) (n0 n1 c0 c1 : Nat) (w : World) (h : ¬ n0 + n1 ≤ 1048576) (m0 : n0 ≤ maxLen) (m1 : n1 ≤ maxLen) :
    Calls Trym.prog 20 #[.slice a0 n0 c0, .slice a1 n1 c1] w fun e w' => e = .returned (.bool false) ∧ w = w' := by
  unfold maxLen at m0 m1
  go_enter Trym.func20, Trym.ntmps20
  go_wp2
  all_goals go_ret
  all_goals exact ⟨rfl, rfl⟩

set_option maxHeartbeats 400000 in
theorem walk6_big (a0 a1 : Option Addr) (n0 n1 c0 c1 : Nat) (w : World) (m0 : n0 ≤ maxLen) (m1 : n1 ≤ maxLen) (h : ¬ n0 + n1 ≤ 1048576) :
    Calls Trym.prog 6 #[.slice a0 n0 c0, .slice a1 n1 c1] w fun e w' => e = .returned (.bool true) ∧ Below w.heap.size w w' := by
  go_enter Trym.func6, Trym.ntmps6
  go_wp2_with (go_at_call 20; refine (zz20_no _ _ _ _ _ _ _ h m0 m1).mono ?_; rintro e w' ⟨rfl, rfl⟩)
  go_ret
  exact ⟨rfl, Below.refl _ _⟩

set_option maxHeartbeats 400000 in
theorem walk6_long (a0 a1 : Option Addr) (n0 n1 c0 c1 : Nat) (w : World) (hs : n0 + n1 ≤ 1048576) (h : ¬ (n0 ≤ 4096 ∧ n1 ≤ 4096)) :
    Calls Trym.prog 6 #[.slice a0 n0 c0, .slice a1 n1 c1] w fun e w' => e = .returned (.bool true) ∧ Below w.heap.size w w' := by
  by_cases h0 : n0 ≤ 4096
  · have h1 : ¬ n1 ≤ 4096 := fun h1 => h ⟨h0, h1⟩
    clear h
    go_enter Trym.func6, Trym.ntmps6
    go_wp2_with (go_at_call 20; refine (zz20 _ _ _ _ _ _ _ hs).mono ?_; rintro e w' ⟨rfl, rfl⟩)
    go_ret
    exact ⟨rfl, Below.refl _ _⟩
  · clear h
    go_enter Trym.func6, Trym.ntmps6
    go_wp2_with (go_at_call 20; refine (zz20 _ _ _ _ _ _ _ hs).mono ?_; rintro e w' ⟨rfl, rfl⟩)
    go_ret
    exact ⟨rfl, Below.refl _ _⟩

theorem Prs.drewN {w : World} {B : Nat} {a : Option Addr} {X : List (Int × Int)} (h : Prs w B a X) (m : Nat) : Prs (w.drewN m) B a X := h

theorem Prs.get {w : World} {B n k : Nat} {a : Option Addr} {X : List (Int × Int)} (h : Prs w B a X) (hl : X.length = n) (hk : k < n) :
    ∃ b o, a = some ⟨b, o, none⟩ ∧ w.cell? ⟨b, o + k * 2, none⟩ = some (.int .u64 (X.getD k (0, 0)).1) ∧ w.cell? ⟨b, o + k * 2 + 1, none⟩ = some (.int .u64 (X.getD k (0, 0)).2) := by
  rcases h with rfl | ⟨b, o, rfl, hb, hc⟩
  · simp at hl; omega
  · exact ⟨b, o, rfl, (hc k (by omega)).1, (hc k (by omega)).2⟩

theorem U64s.get {X : List (Int × Int)} (h : U64s X) {k : Nat} (hk : k < X.length) : 0 ≤ (X.getD k (0, 0)).1 ∧ (X.getD k (0, 0)).1 ≤ 18446744073709551615 ∧ 0 ≤ (X.getD k (0, 0)).2 ∧ (X.getD k (0, 0)).2 ≤ 18446744073709551615 := by
  have := h X[k] (List.getElem_mem hk)
  simpa [List.getD, hk] using this

set_option maxHeartbeats 2000000 in
theorem walk6 (a0 a1 : Option Addr) (n0 n1 c0 c1 : Nat) (X Y : List (Int × Int)) (w : World) (lX : X.length = n0) (lY : Y.length = n1) (hz0 : a0 = none → n0 = 0 ∧ c0 = 0) (hz1 : a1 = none → n1 = 0 ∧ c1 = 0)
    (r0 : Prs w w.heap.size a0 X) (r1 : Prs w w.heap.size a1 Y) (uX : U64s X) (uY : U64s Y) (h0 : n0 ≤ 4096) (h1 : n1 ≤ 4096) :
    Calls Trym.prog 6 #[.slice a0 n0 c0, .slice a1 n1 c1] w fun e w' => e = .returned (.bool true) ∧ Below w.heap.size w w' := by
  have L : Hid (X.length = n0 ∧ Y.length = n1) := ⟨lX, lY⟩
  clear lX lY
  go_enter Trym.func6, Trym.ntmps6
  go_wp2_with (go_at_call 20; refine (zz20 _ _ _ _ _ _ _ (by omega)).mono ?_; rintro e w' ⟨rfl, rfl⟩)
  refine (disj_any a0 n0 c0 w.heap.size X w (by omega) L.out.1 r0).mono ?_
  rintro e w1 ⟨d0, m1, rfl, rfl, hd0⟩
  cases d0
  · go_wp2
    go_ret
    exact ⟨rfl, drewN_below (Below.refl _ _) _⟩
  have H0 : Hid (Upto X n0) := hd0 rfl
  clear hd0
  go_wp2_with fail
  refine (disj_any a1 n1 c1 w.heap.size Y (w.drewN m1) (by omega) L.out.2 (r1.drewN _)).mono ?_
  rintro e w2 ⟨d1, m2, rfl, rfl, hd1⟩
  cases d1
  · go_wp2
    go_ret
    exact ⟨rfl, drewN_below (Below.refl _ _) _⟩
  have HD : Hid (Disj X ∧ Disj Y) := ⟨Upto.disj (by rw [L.out.1]; exact H0.out), Upto.disj (by rw [L.out.2]; exact hd1 rfl)⟩
  clear H0 hd1
  go_wp2_with fail
  refine (copy_any a0 n0 c0 X (w.drewN (m1 + m2)) hz0 (by omega) L.out.1 (r0.drewN _)).mono ?_
  rintro e w3 ⟨a0', cap0, rfl, hc0, s0, hb3⟩
  have B3 : Below w.heap.size w w3 := (drewN_below (Below.refl _ w) (m1 + m2)).trans hb3
  clear hb3
  go_wp2_with fail
  refine (copy_any a1 n1 c1 Y _ hz1 (by omega) L.out.2 ((r1.below B3).mono B3.size)).mono ?_
  rintro e w4 ⟨a1', cap1, rfl, hc1, s1, hb4⟩
  have B4 : Below w.heap.size w w4 := B3.trans (hb4.mono B3.size)
  have s0' : Prs w4 w4.heap.size a0' X := (s0.below hb4).mono hb4.size
  clear s0 hb4 B3
  go_wp2_with fail
  refine (over_any a0' a1' n0 n1 cap0 cap1 w4.heap.size X Y _ L.out.1 L.out.2 hc0 hc1 (by omega) (by omega) s0' s1 HD.out.1 HD.out.2 uX uY).mono ?_
  rintro e w5 ⟨rfl, m5, rfl⟩
  have q0 := r0.below (drewN_below B4 m5)
  have q1 := r1.below (drewN_below B4 m5)
  have B5 := drewN_below B4 m5
  generalize w4.drewN m5 = w5 at q0 q1 B5 ⊢
  obtain ⟨T, hT⟩ : ∃ T, T = pairs X Y % 18446744073709551616 := ⟨_, rfl⟩
  have HT : Hid (T = pairs X Y % 18446744073709551616) := hT
  rw [← hT]
  clear hT s0' s1 B4 r0 r1
  go_wp2
  go_loopg [6, 7, 8, 9, 10] n0 (fun gn sw si _ _ _ wr => ∃ (i : Nat) (nn : Int), gn = n0 - i ∧ i ≤ n0 ∧ si = .int .i64 i ∧ sw = .int .u64 nn ∧ nn = pairs (X.take i) Y % 18446744073709551616 ∧ wr = w5)
  case atStart => exact ⟨0, 0, rfl, Nat.zero_le _, rfl, rfl, rfl, rfl⟩
  case round =>
    obtain ⟨i, nn, hg, hi, rfl, rfl, hnn, hw⟩ := hrel
    subst hw
    have HG : Hid (gk = n0 - i ∧ nn = pairs (X.take i) Y % 18446744073709551616) := ⟨hg, hnn⟩
    clear hg hnn
    by_cases hlt : i < n0
    · obtain ⟨b1, o1, hae, e0, e1⟩ := q0.get L.out.1 hlt
      have up := uX.get (k := i) (by rw [L.out.1]; exact hlt)
      subst hae
      obtain ⟨p0, p1, hp⟩ : ∃ p0 p1, X.getD i (0, 0) = (p0, p1) := ⟨_, _, rfl⟩
      have HP : Hid (X.getD i (0, 0) = (p0, p1)) := hp
      rw [hp] at e0 e1 up
      simp only [] at e0 e1 up
      clear hp
      obtain ⟨up0, up1, up2, up3⟩ := up
      go_wp2
      go_loopg [6, 8, 9, 10] n1 (fun gn sw sj _ _ wr2 => ∃ (j : Nat) (nn : Int), gn = n1 - j ∧ j ≤ n1 ∧ sj = .int .i64 j ∧ sw = .int .u64 nn ∧ nn = (pairs (X.take i) Y + row (X.getD i (0, 0)) (Y.take j)) % 18446744073709551616 ∧ wr2 = wr)
      case atStart => exact ⟨0, nn, rfl, Nat.zero_le _, rfl, rfl, by rw [HG.out.2]; simp [row], rfl⟩
      case round =>
        obtain ⟨j, nn, hg2, hj, rfl, rfl, hnn2, hw2⟩ := hrel
        subst hw2
        have HI : Hid (gk = n1 - j ∧ nn = (pairs (X.take i) Y + row (X.getD i (0, 0)) (Y.take j)) % 18446744073709551616) := ⟨hg2, hnn2⟩
        have hn0 : 0 ≤ nn := by omega
        have hn1 : nn ≤ 18446744073709551615 := by omega
        clear hg2 hnn2
        by_cases hjl : j < n1
        · obtain ⟨b2, o2, hae, f0, f1⟩ := q1.get L.out.2 hjl
          have uq := uY.get (k := j) (by rw [L.out.2]; exact hjl)
          subst hae
          obtain ⟨q0, q1, hq⟩ : ∃ q0 q1, Y.getD j (0, 0) = (q0, q1) := ⟨_, _, rfl⟩
          have HQ : Hid (Y.getD j (0, 0) = (q0, q1)) := hq
          rw [hq] at f0 f1 uq
          simp only [] at f0 f1 uq
          clear hq
          obtain ⟨uq0, uq1, uq2, uq3⟩ := uq
          have hm2 : ∀ x y : Int, min x y = if y < x then y else x := fun x y => by split <;> omega
          have hm1 : ∀ x y : Int, max x y = if x < y then y else x := fun x y => by split <;> omega
          have HO : Hid (ovl (p0, p1) (q0, q1) = if (if p0 < q0 then q0 else p0) ≤ (if q1 < p1 then q1 else p1) then (if q1 < p1 then q1 else p1) - (if p0 < q0 then q0 else p0) + 1 else 0) := by
            show ovl (p0, p1) (q0, q1) = _
            unfold ovl
            simp only [hm1, hm2]
          clear hm1 hm2
          obtain ⟨ov, hov⟩ : ∃ ov, ov = ovl (p0, p1) (q0, q1) := ⟨_, rfl⟩
          have HOv : Hid (ov = ovl (p0, p1) (q0, q1)) := hov
          by_cases h1 : p0 < q0
          · by_cases h2 : q1 < p1
            · by_cases h3 : q0 ≤ q1
              · have HV : Hid (ov = q1 - q0 + 1) := by have h := HO.out; simp only [h1, h2, h3, if_true, if_false] at h; exact hov.trans h
                clear hov HO
                go_wp2
                go_roundg (n1 - (j + 1))
                case measure => rw [HI.out.1]; omega
                case rel =>
                  refine ⟨j + 1, _, rfl, by omega, by go_num, rfl, ?_, rfl⟩
                  rw [row_take (by rw [L.out.2]; exact hjl), HQ.out, HP.out, ← HOv.out]
                  have h4 := HI.out.2; have h5 := HV.out
                  rw [HP.out] at h4
                  (try simp only [IntKind.wrap_u64])
                  omega
              · have HV : Hid (ov = 0) := by have h := HO.out; simp only [h1, h2, h3, if_true, if_false] at h; exact hov.trans h
                clear hov HO
                go_wp2
                go_roundg (n1 - (j + 1))
                case measure => rw [HI.out.1]; omega
                case rel =>
                  refine ⟨j + 1, _, rfl, by omega, by go_num, rfl, ?_, rfl⟩
                  rw [row_take (by rw [L.out.2]; exact hjl), HQ.out, HP.out, ← HOv.out]
                  have h4 := HI.out.2; have h5 := HV.out
                  rw [HP.out] at h4
                  (try simp only [IntKind.wrap_u64])
                  omega
            · by_cases h3 : q0 ≤ p1
              · have HV : Hid (ov = p1 - q0 + 1) := by have h := HO.out; simp only [h1, h2, h3, if_true, if_false] at h; exact hov.trans h
                clear hov HO
                go_wp2
                go_roundg (n1 - (j + 1))
                case measure => rw [HI.out.1]; omega
                case rel =>
                  refine ⟨j + 1, _, rfl, by omega, by go_num, rfl, ?_, rfl⟩
                  rw [row_take (by rw [L.out.2]; exact hjl), HQ.out, HP.out, ← HOv.out]
                  have h4 := HI.out.2; have h5 := HV.out
                  rw [HP.out] at h4
                  (try simp only [IntKind.wrap_u64])
                  omega
              · have HV : Hid (ov = 0) := by have h := HO.out; simp only [h1, h2, h3, if_true, if_false] at h; exact hov.trans h
                clear hov HO
                go_wp2
                go_roundg (n1 - (j + 1))
                case measure => rw [HI.out.1]; omega
                case rel =>
                  refine ⟨j + 1, _, rfl, by omega, by go_num, rfl, ?_, rfl⟩
                  rw [row_take (by rw [L.out.2]; exact hjl), HQ.out, HP.out, ← HOv.out]
                  have h4 := HI.out.2; have h5 := HV.out
                  rw [HP.out] at h4
                  (try simp only [IntKind.wrap_u64])
                  omega
          · by_cases h2 : q1 < p1
            · by_cases h3 : p0 ≤ q1
              · have HV : Hid (ov = q1 - p0 + 1) := by have h := HO.out; simp only [h1, h2, h3, if_true, if_false] at h; exact hov.trans h
                clear hov HO
                go_wp2
                go_roundg (n1 - (j + 1))
                case measure => rw [HI.out.1]; omega
                case rel =>
                  refine ⟨j + 1, _, rfl, by omega, by go_num, rfl, ?_, rfl⟩
                  rw [row_take (by rw [L.out.2]; exact hjl), HQ.out, HP.out, ← HOv.out]
                  have h4 := HI.out.2; have h5 := HV.out
                  rw [HP.out] at h4
                  (try simp only [IntKind.wrap_u64])
                  omega
              · have HV : Hid (ov = 0) := by have h := HO.out; simp only [h1, h2, h3, if_true, if_false] at h; exact hov.trans h
                clear hov HO
                go_wp2
                go_roundg (n1 - (j + 1))
                case measure => rw [HI.out.1]; omega
                case rel =>
                  refine ⟨j + 1, _, rfl, by omega, by go_num, rfl, ?_, rfl⟩
                  rw [row_take (by rw [L.out.2]; exact hjl), HQ.out, HP.out, ← HOv.out]
                  have h4 := HI.out.2; have h5 := HV.out
                  rw [HP.out] at h4
                  (try simp only [IntKind.wrap_u64])
                  omega
            · by_cases h3 : p0 ≤ p1
              · have HV : Hid (ov = p1 - p0 + 1) := by have h := HO.out; simp only [h1, h2, h3, if_true, if_false] at h; exact hov.trans h
                clear hov HO
                go_wp2
                go_roundg (n1 - (j + 1))
                case measure => rw [HI.out.1]; omega
                case rel =>
                  refine ⟨j + 1, _, rfl, by omega, by go_num, rfl, ?_, rfl⟩
                  rw [row_take (by rw [L.out.2]; exact hjl), HQ.out, HP.out, ← HOv.out]
                  have h4 := HI.out.2; have h5 := HV.out
                  rw [HP.out] at h4
                  (try simp only [IntKind.wrap_u64])
                  omega
              · have HV : Hid (ov = 0) := by have h := HO.out; simp only [h1, h2, h3, if_true, if_false] at h; exact hov.trans h
                clear hov HO
                go_wp2
                go_roundg (n1 - (j + 1))
                case measure => rw [HI.out.1]; omega
                case rel =>
                  refine ⟨j + 1, _, rfl, by omega, by go_num, rfl, ?_, rfl⟩
                  rw [row_take (by rw [L.out.2]; exact hjl), HQ.out, HP.out, ← HOv.out]
                  have h4 := HI.out.2; have h5 := HV.out
                  rw [HP.out] at h4
                  (try simp only [IntKind.wrap_u64])
                  omega
        · have hje : j = n1 := by omega
          subst hje
          go_wp2
          go_roundg (n0 - (i + 1))
          case measure => rw [HG.out.1]; omega
          case rel =>
            refine ⟨i + 1, nn, rfl, by omega, by go_num, rfl, ?_, rfl⟩
            rw [pairs_take (by rw [L.out.1]; exact hlt), HI.out.2, List.take_of_length_le (l := Y) (by rw [L.out.2]; omega)]
    · have hie : i = n0 := by omega
      subst hie
      have hTn : T = nn := by rw [HT.out, HG.out.2, List.take_of_length_le (by rw [L.out.1]; omega)]
      subst hTn
      go_wp2
      go_ret
      exact ⟨rfl, B5⟩

theorem walk6_all (a0 a1 : Option Addr) (n0 n1 c0 c1 : Nat) (X Y : List (Int × Int)) (w : World) (lX : X.length = n0) (lY : Y.length = n1) (hz0 : a0 = none → n0 = 0 ∧ c0 = 0) (hz1 : a1 = none → n1 = 0 ∧ c1 = 0)
    (m0 : n0 ≤ maxLen) (m1 : n1 ≤ maxLen) (r0 : Prs w w.heap.size a0 X) (r1 : Prs w w.heap.size a1 Y) (uX : U64s X) (uY : U64s Y) :
    Calls Trym.prog 6 #[.slice a0 n0 c0, .slice a1 n1 c1] w fun e w' => e = .returned (.bool true) ∧ Below w.heap.size w w' := by
  by_cases h : n0 + n1 ≤ 1048576
  · by_cases h2 : n0 ≤ 4096 ∧ n1 ≤ 4096
    · exact walk6 a0 a1 n0 n1 c0 c1 X Y w lX lY hz0 hz1 r0 r1 uX uY h2.1 h2.2
    · exact walk6_long a0 a1 n0 n1 c0 c1 w h h2
  · exact walk6_big a0 a1 n0 n1 c0 c1 w m0 m1 h

end Go.Proofs.Qxb6602067aMods
