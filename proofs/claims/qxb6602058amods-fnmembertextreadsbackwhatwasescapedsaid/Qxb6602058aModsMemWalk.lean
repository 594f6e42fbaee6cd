import Derived.Test.Qxb6602058aModsMemMain
namespace Go.Proofs.Qxb6602058aMods
open Go.RowKit
set_option linter.unusedSimpArgs false
set_option linter.unusedVariables false

theorem Trym.info5 : (Trym.prog.info? 5).map (fun i => (i.zero, i.size, i.bytes)) = some (some (.int .u8 0), 1, 1) := by kernel_rfl

/-- The cells that a Row holds, as an append asks for them. -/
theorem Row.news {w : World} {B : Nat} {a : Option Addr} {xs : List Int} (h : Row w B a xs) :
    ∀ ad, a = some ad → ∀ j u, (xs.map (Value.int .u8))[j]? = some u → w.cell? (ad.add j) = some u := by
  rintro ad rfl j u hu
  rcases h with rfl | ⟨b, off, h, _, hc⟩
  · simp at hu
  · obtain rfl := Option.some.inj h
    have hj : j < xs.length := by simpa using (List.getElem?_eq_some_iff.1 hu).1
    rw [Addr.add_lit, hc j hj]
    rw [← hu]
    simp [List.getD, hj]

theorem take_step {X : List Int} {k n : Nat} (hl : X.length = n) (hk : k < n) : X.take (k + 1) = X.take k ++ [X.getD k 0] := by
  rw [List.take_succ_eq_append_getElem (by omega)]; simp [List.getD, show k < X.length by omega]

theorem own_as {w : World} {g n n' cap : Nat} {xs xs' : List Int} (h : w.ownsRow g 5 1 (.slice (some ⟨g, 0, none⟩) n cap) n (xs.map (Value.int .u8))) (hn : n = n') (hx : xs = xs') :
    w.ownsRow g 5 1 (.slice (some ⟨g, 0, none⟩) n' cap) n' (xs'.map (Value.int .u8)) := by subst hn hx; exact h

theorem Row.at {w : World} {B n k : Nat} {a : Option Addr} {xs : List Int} (h : Row w B a xs) (hl : xs.length = n) (hk : k < n) :
    ∃ b o, a = some ⟨b, o, none⟩ ∧ w.cell? ⟨b, o + k, none⟩ = some (.int .u8 (xs.getD k 0)) := by
  rcases h with rfl | ⟨b, o, rfl, _, hc⟩
  · simp at hl; omega
  · exact ⟨b, o, rfl, hc k (by omega)⟩

set_option maxHeartbeats 2000000 in
theorem walk7 (a0 a1 a2 : Option Addr) (n0 n1 n2 c0 c1 c2 : Nat) (X0 X1 X2 : List Int) (w : World) (l0 : X0.length = n0) (l1 : X1.length = n1) (l2 : X2.length = n2)
    (m0 : n0 ≤ maxLen) (m1 : n1 ≤ maxLen) (m2 : n2 ≤ maxLen) (z0 : a0 = none → n0 = 0 ∧ c0 = 0) (z2 : a2 = none → n2 = 0 ∧ c2 = 0)
    (r0 : Row w w.heap.size a0 X0) (r1 : Row w w.heap.size a1 X1) (r2 : Row w w.heap.size a2 X2) (hs : n0 + 2 * n1 + n2 ≤ 1048576) :
    Calls Trym.prog 7 #[.slice a0 n0 c0, .slice a1 n1 c1, .slice a2 n2 c2] w fun e w' => e = .returned (.bool true) ∧ Below w.heap.size w w' := by
  unfold maxLen at m0 m1 m2
  obtain ⟨i0, hi, hz0, hz1, hz2⟩ := info_parts Trym.info5
  have L : Hid (X0.length = n0 ∧ X1.length = n1 ∧ X2.length = n2) := ⟨l0, l1, l2⟩
  clear l0 l1 l2
  go_enter Trym.func7, Trym.ntmps7
  go_wp2_with (first | (go_at_call 21; refine (zz21 _ _ _ _ _ _ _ _ _ _ (by omega)).mono ?_; rintro e w' ⟨rfl, rfl⟩) | (at_make; refine wpList_make_own _ rfl _ _ 22 rfl _ 5 i0 (.int .u8 0) 1 Trym.underlying22 hi hz0 hz1 _ _ _ (n0 + 2 * n1 + n2 + 2) rfl rfl (by omega) ?b2 ?b3 (Nat.le_refl _) ?_))
  case b2 => rw [hz2]; omega
  case b3 => unfold maxLen; omega
  intro w0 hown0 hgrow0
  have b0 : Below w.heap.size w w0 := (Below.refl _ _).grown hgrow0 (Nat.le_refl _) (fun k h => by cases h)
  have q0 := r0.below b0
  go_wp2_with (first
    | (at_builtin; refine wpList_append_fits_any _ rfl (.tmp 58) (.tmp 59) 22 rfl _ 5 i0 1 Trym.underlying22 hi hz1 _ 0 _ _ rfl hown0 a0 n0 c0 (X0.map (Value.int .u8)) rfl (by simp [L.out.1]) z0 q0.news (ints_oneCell _ _) (by omega) ?_; intro w1 hown1 hgrow1; simp only [Nat.zero_add, List.nil_append] at hown1)
    | (at_builtin; refine wpList_append_fits _ rfl (.tmp 61) (.tmp 62) 22 rfl _ 5 i0 1 Trym.underlying22 hi hz1 _ n0 _ _ rfl (hown1.alloc _) ⟨_, 0, none⟩ 1 1 [.int .u8 34] rfl rfl (cell_one_new _ _ _) (by intro u hu; simp at hu; subst hu; rfl) (by omega) ?_; intro w2 hown2 hgrow2))
  have b1 : Below w.heap.size w w1 := b0.grown hgrow1 b0.size (fun k hk => by cases hk; exact Nat.le_refl _)
  have b2 : Below w.heap.size w w2 := (b1.alloc b1.size _).grown hgrow2 (by have := b1.size; simp; omega) (fun k hk => by cases hk; exact Nat.le_refl _)
  have O2 : Hid (w2.ownsRow w.heap.size 5 1 (.slice (some ⟨w.heap.size, 0, none⟩) (n0 + 1) (n0 + 2 * n1 + n2 + 2)) (n0 + 1) ((X0 ++ 34 :: esc (X1.take 0)).map (Value.int .u8))) := by simpa [Hid, esc] using hown2
  clear hown0 hown1 hown2 hgrow0 hgrow1 hgrow2 b0 b1 q0 z0 r0
  go_loopw [7, 8, 9] (fun bd nd kk wr => ∃ (k n : Nat), k ≤ n1 ∧ kk = .int .i64 k ∧ nd = .bool (needs (X1.take k)) ∧ n = n0 + 1 + (esc (X1.take k)).length ∧ bd = .slice (some ⟨w.heap.size, 0, none⟩) n (n0 + 2 * n1 + n2 + 2) ∧
      wr.ownsRow w.heap.size 5 1 (.slice (some ⟨w.heap.size, 0, none⟩) n (n0 + 2 * n1 + n2 + 2)) n ((X0 ++ 34 :: esc (X1.take k)).map (Value.int .u8)) ∧ Below w.heap.size w wr) (fun _ _ kk _ => n1 - (intOf kk).toNat)
  case atStart => exact ⟨0, n0 + 1, Nat.zero_le _, rfl, rfl, by simp [esc], rfl, O2.out, b2⟩
  case round =>
    clear O2 b2
    obtain ⟨k, n, hk, rfl, rfl, hn, rfl, hown, hbel⟩ := hrel
    have ht := esc_len (X1.take k)
    have htl : (X1.take k).length ≤ k := List.length_take_le _ _
    by_cases hlt : k < n1
    · have hts := take_step L.out.2.1 hlt
      obtain ⟨b, o, rfl, hcell⟩ := (r1.below hbel).at L.out.2.1 hlt
      have hnn : n + 2 ≤ n0 + 2 * n1 + n2 + 2 := by omega
      have HN : Hid (n = n0 + 1 + (esc (X1.take k)).length) := hn
      generalize X1.getD k 0 = c at hts hcell
      have HT : Hid (X1.take (k + 1) = X1.take k ++ [c]) := hts
      clear hn hts ht htl
      by_cases hq : isq c = true
      · have hcv : c = 34 ∨ c = 92 := by simpa [isq] using hq
        have HQ : Hid (isq c = true) := hq
        clear hq
        rcases hcv with rfl | rfl
        all_goals
          go_wp2_with (first | (at_builtin; refine wpList_append_fits _ rfl (.tmp 80) (.tmp 81) 22 rfl _ 5 i0 1 Trym.underlying22 hi hz1 _ n _ _ rfl (hown.alloc _) ⟨_, 0, none⟩ 1 1 [.int .u8 92] rfl rfl (cell_one_new _ _ _) (by intro u hu; simp at hu; subst hu; rfl) (by omega) ?_; intro w3 hown3 hgrow3) | (at_builtin; refine wpList_append_fits _ rfl (.tmp 83) (.tmp 85) 22 rfl _ 5 i0 1 Trym.underlying22 hi hz1 _ (n + 1) _ _ rfl (hown3.alloc _) ⟨_, 0, none⟩ 1 1 [.int .u8 _] rfl rfl (cell_one_new _ _ _) (by intro u hu; simp at hu; subst hu; rfl) (by omega) ?_; intro w4 hown4 hgrow4))
          have hb3 : Below w.heap.size w w3 := (hbel.alloc hbel.size _).grown hgrow3 (by have := hbel.size; simp; omega) (fun k hk => by cases hk; exact Nat.le_refl _)
          go_roundw
          case rel =>
            refine ⟨k + 1, n + 1 + 1, by omega, by go_num, by rw [HT.out, needs_snoc, HQ.out]; simp, ?_, rfl, ?_, ?_⟩
            · rw [HT.out, esc_snoc_q _ HQ.out, HN.out]; simp; omega
            · rw [HT.out, esc_snoc_q _ HQ.out]
              simpa using hown4
            · exact (hb3.alloc hb3.size _).grown hgrow4 (by have := hb3.size; simp; omega) (fun k hk => by cases hk; exact Nat.le_refl _)
          case measure => simp [intOf]; omega
      · have hq' : isq c = false := by simpa using hq
        have hc1 : (c == 34) = false := by simp [isq] at hq'; simpa using hq'.1
        have hc2 : (c == 92) = false := by simp [isq] at hq'; simpa using hq'.2
        clear hq
        go_wp2_with ((at_builtin; refine wpList_append_fits _ rfl (.tmp 83) (.tmp 85) 22 rfl _ 5 i0 1 Trym.underlying22 hi hz1 _ n _ _ rfl (hown.alloc _) ⟨_, 0, none⟩ 1 1 [.int .u8 c] rfl rfl (cell_one_new _ _ _) (by intro u hu; simp at hu; subst hu; rfl) (by omega) ?_; intro w3 hown3 hgrow3))
        go_roundw
        case rel => 
          refine ⟨k + 1, n + 1, by omega, by go_num, by rw [HT.out, needs_snoc, hq']; simp, ?_, rfl, ?_, ?_⟩
          · rw [HT.out, esc_snoc_p _ hq', HN.out]; simp; omega
          · rw [HT.out, esc_snoc_p _ hq']
            simpa using hown3
          · exact (hbel.alloc hbel.size _).grown hgrow3 (by have := hbel.size; simp; omega) (fun k hk => by cases hk; exact Nat.le_refl _)
        case measure => simp [intOf]; omega
    · have hkE : k = n1 := by omega
      subst hkE
      have hX : X1.take k = X1 := List.take_of_length_le (by rw [L.out.2.1]; omega)
      rw [hX] at hn hown ht ⊢
      subst hn
      clear hlt hX htl
      have q2 := r2.below hbel
      have hE : (esc X1).length ≤ 2 * k := by have := L.out.2.1; omega
      clear ht
      go_wp2_with (first
        | (at_builtin; refine wpList_append_fits _ rfl (.tmp 87) (.tmp 88) 22 rfl _ 5 i0 1 Trym.underlying22 hi hz1 _ (n0 + 1 + (esc X1).length) _ _ rfl (hown.alloc _) ⟨_, 0, none⟩ 1 1 [.int .u8 34] rfl rfl (cell_one_new _ _ _) (by intro u hu; simp at hu; subst hu; rfl) (by omega) ?_; intro w3 hown3 hgrow3)
        | (at_builtin; refine wpList_append_fits_any _ rfl (.tmp 92) (.tmp 93) 22 rfl _ 5 i0 1 Trym.underlying22 hi hz1 _ (n0 + 1 + (esc X1).length + 1) _ _ rfl hown3 a2 n2 c2 (X2.map (Value.int .u8)) rfl (by simp [L.out.2.2]) z2 (r2.below ((hbel.alloc hbel.size _).grown hgrow3 (by have := hbel.size; simp; omega) (fun k hk => by cases hk; exact Nat.le_refl _))).news (ints_oneCell _ _) (by omega) ?_; intro w4 hown4 hgrow4))
      have hb3 : Below w.heap.size w w3 := (hbel.alloc hbel.size _).grown hgrow3 (by have := hbel.size; simp; omega) (fun k hk => by cases hk; exact Nat.le_refl _)
      have hb4 : Below w.heap.size w w4 := hb3.grown hgrow4 hb3.size (fun k hk => by cases hk; exact Nat.le_refl _)
      obtain ⟨l0, l1, l2⟩ := L.out
      have ho4 : w4.ownsRow w.heap.size 5 1 (.slice (some ⟨w.heap.size, 0, none⟩) (n0 + 1 + (esc X1).length + 1 + n2) (n0 + 2 * k + n2 + 2)) (n0 + 1 + (esc X1).length + 1 + n2) ((X0 ++ 34 :: (esc X1 ++ 34 :: X2)).map (Value.int .u8)) := by simpa using hown4
      have hc4 := own_cells ho4
      have hlen : (X0 ++ 34 :: (esc X1 ++ 34 :: X2)).length = n0 + 1 + (esc X1).length + 1 + n2 := by simp [l0, l2]; omega
      rw [hlen] at hc4
      have hdrop : (X0 ++ 34 :: (esc X1 ++ 34 :: X2)).drop (n0 + 1) = esc X1 ++ 34 :: X2 := by rw [← l0, ← List.drop_drop]; simp
      have hdrop0 : (X0 ++ 34 :: (esc X1 ++ 34 :: X2)).drop n0 = 34 :: esc X1 ++ [34] ++ X2 := by rw [← l0]; simp
      have hlt4 : w.heap.size < w4.heap.size := cell_lt (hc4 0 (by omega))
      refine (zzmember_any w.heap.size 0 _ _ n0 _ X1 X2 w4 (by unfold maxLen; omega) (by omega) hlt4 hlen hc4 hdrop).mono ?_
      rintro e w5 ⟨rfl, hb5⟩
      have hq4 : ∀ j, j < (34 :: esc X1 ++ [34]).length → w4.cell? ⟨w.heap.size, n0 + j, none⟩ = some (.int .u8 ((34 :: esc X1 ++ [34]).getD j 0)) := by
        intro j hj
        have h1 := hc4 (n0 + j) (by simp at hj; omega)
        rw [getD_drop hdrop0] at h1
        rw [Nat.zero_add] at h1
        rw [h1, getD_app hj]
      have R5 : Row w5 w4.heap.size (some ⟨w.heap.size, n0, none⟩) (34 :: esc X1 ++ [34]) := (Row.of_cells hlt4 hq4).below hb5
      have hq5 : ∀ j, j < (34 :: esc X1 ++ [34]).length → w5.cell? ⟨w.heap.size, n0 + j, none⟩ = some (.int .u8 ((34 :: esc X1 ++ [34]).getD j 0)) := fun j hj => (hb5.cell (p := ⟨w.heap.size, n0 + j, none⟩) hlt4).trans (hq4 j hj)
      have HC : Hid (∀ j, j < (34 :: esc X1 ++ [34]).length → w5.cell? ⟨w.heap.size, n0 + j, none⟩ = some (.int .u8 ((34 :: esc X1 ++ [34]).getD j 0))) := hq5
      have hbw5 : Below w.heap.size w w5 := hb4.trans (hb5.mono (by omega))
      have hs5 : w4.heap.size ≤ w5.heap.size := hb5.size
      have HNd : Hid (needs X1 = needs X1) := rfl
      generalize needs X1 = nd
      clear hq4 hq5 hdrop hdrop0 hc4 ho4 hlen hown4 hgrow4 hgrow3 hown3 hown q2 hb4 hb3 hb5 r2 l0 l1 l2
      go_wp2_with (first
        | (go_at_call 15; refine (same_eq2 _ _ _ _ _ _ w4.heap.size (34 :: esc X1 ++ [34]) _ (by simp) (by simp; omega) (by unfold maxLen; omega) R5 R5).mono ?_; rintro e w6 ⟨rfl, m6, rfl⟩)
        | (at_make; refine wpList_make_own _ rfl _ _ 22 rfl _ 5 i0 (.int .u8 0) 1 Trym.underlying22 hi hz0 hz1 _ _ _ k rfl rfl rfl ?b2 ?b3 (Nat.le_refl _) ?_))
      case b2 => rw [hz2]; omega
      case b3 => unfold maxLen; omega
      intro w7 hown7 hgrow7
      have b57 : Below w5.heap.size w5 w7 := (drewN_below (Below.refl _ w5) m6).grown hgrow7 (Nat.le_refl _) (fun k h => by cases h)
      have hlt5 : w.heap.size < w5.heap.size := by omega
      have HC7 : Hid (∀ j, j < (34 :: esc X1 ++ [34]).length → w7.cell? ⟨w.heap.size, n0 + j, none⟩ = some (.int .u8 ((34 :: esc X1 ++ [34]).getD j 0))) := fun j hj => (b57.cell (p := ⟨w.heap.size, n0 + j, none⟩) hlt5).trans (HC.out j hj)
      have b7 : Below w.heap.size w w7 := hbw5.trans (b57.mono (by omega))
      have hlt7 : w5.heap.size ≤ w7.heap.size := b57.size
      clear HC R5 hbw5 b57 hgrow7
      go_wp2
      go_loopg [16, 17, 18] X1.length (fun gn bk kk cc wr2 => ∃ (pre t : List Int) (p np : Nat), X1 = pre ++ t ∧ gn = t.length ∧ p = 1 + (esc pre).length ∧ np = pre.length ∧ kk = .int .i64 (p : Int) ∧ bk = .slice (some ⟨w5.heap.size, 0, none⟩) np k ∧
        wr2.ownsRow w5.heap.size 5 1 (.slice (some ⟨w5.heap.size, 0, none⟩) np k) np (pre.map (Value.int .u8)) ∧ Below w5.heap.size w7 wr2)
      case atStart => exact ⟨[], X1, 1, 0, rfl, rfl, by simp [esc], rfl, rfl, rfl, by simpa using hown7, Below.refl _ _⟩
      case round =>
        obtain ⟨pre, t, p, np, hX, hgn, hp, hnp, rfl, rfl, ho, hbe⟩ := hrel
        have hel : (esc X1).length = (esc pre).length + (esc t).length := by rw [hX, esc_append]; simp
        have hk1 : np + t.length = k := by rw [← L.out.2.1, hX, hnp]; simp
        have hat : ∀ j, (34 :: esc X1 ++ [34]).getD (p + j) 0 = (esc t ++ [34]).getD j 0 := by
          intro j
          have h1 : (34 :: esc X1 ++ [34]).drop p = esc t ++ [34] := by
            rw [hp, hX, esc_append, Nat.add_comm]; simp
          exact getD_drop h1 j
        have hcell : ∀ j, p + j < (esc X1).length + 2 → wr.cell? ⟨w.heap.size, n0 + (p + j), none⟩ = some (.int .u8 ((esc t ++ [34]).getD j 0)) := fun j hj =>
          (hbe.cell (p := ⟨w.heap.size, n0 + (p + j), none⟩) hlt5).trans ((HC7.out _ (by simp; omega)).trans (by rw [hat]))
        have hsz : w5.heap.size ≤ wr.heap.size := Nat.le_trans hlt7 hbe.size
        cases t with
        | nil =>
          have hpe : X1 = pre := by simpa using hX
          have hpx : pre.length = k := by rw [← hpe]; exact L.out.2.1
          have hnk : np = k := by simp at hk1; omega
          have hpp : p = (esc X1).length + 1 := by simp [esc] at hel; omega
          have B0 : Below w.heap.size w wr := b7.trans (hbe.mono (by omega))
          have hge : w5.heap.size < wr.heap.size := (ho.lt _ rfl).2
          have R1 : Row wr wr.heap.size a1 X1 := (r1.below B0).mono (by omega)
          have R2 : Row wr wr.heap.size (some ⟨w5.heap.size, 0, none⟩) X1 := by rw [hpe]; exact Row.of_cells hge (own_cells ho)
          have HX : Hid (X1.length = k) := L.out.2.1
          subst hnk
          clear hcell hat hel hk1 hX hpe hpx ho hnp hp hgn
          subst hpp
          go_wp2_with (go_at_call 15; refine (same_eq2 _ _ _ _ _ _ wr.heap.size X1 _ HX.out HX.out (by unfold maxLen; omega) R2 R1).mono ?_; rintro e w6 ⟨rfl, m6, rfl⟩)
          go_ret
          exact ⟨rfl, drewN_below B0 _⟩
        | cons c t =>
          have hke : np + 1 ≤ k := by simp at hk1; omega
          by_cases hq : isq c = true
          · simp [esc, hq] at hel
            have k0 := hcell 0 (by omega)
            have k1 := hcell 1 (by omega)
            simp [esc, hq] at k0 k1
            have hpl : p + 2 < (esc X1).length + 2 := by omega
            have HP : Hid (X1 = pre ++ c :: t ∧ gk = (c :: t).length ∧ p = 1 + (esc pre).length ∧ np = pre.length ∧ isq c = true) := ⟨hX, hgn, hp, hnp, hq⟩
            clear hcell hat hel hk1 hX hgn hp hnp hq
            go_wp2_with (at_builtin; refine wpList_append_fits _ rfl (.tmp 141) (.tmp 143) 22 rfl _ 5 i0 1 Trym.underlying22 hi hz1 _ np _ _ rfl (ho.alloc _) ⟨_, 0, none⟩ 1 1 [.int .u8 c] rfl rfl (cell_one_new _ _ _) (by intro u hu; simp at hu; subst hu; rfl) (by omega) ?_; intro w8 ho8 hg8)
            go_roundg t.length
            case measure => have := HP.out.2.1; simp at this; omega
            case rel =>
              obtain ⟨hX, hgn, hp, hnp, hq⟩ := HP.out
              exact ⟨pre ++ [c], t, p + 2, np + 1, by simp [hX], rfl, by rw [esc_snoc_q _ hq, hp]; simp; omega, by simp [hnp], by go_num, rfl, by simpa using ho8, (hbe.alloc hsz _).grown hg8 (by simp; omega) (fun k hk => by cases hk; exact Nat.le_refl _)⟩
          · have hq' : isq c = false := by simpa using hq
            clear hq
            simp [esc, hq'] at hel
            have k0 := hcell 0 (by omega)
            simp [esc, hq'] at k0
            have hc2 : (c == 92) = false := by simp [isq] at hq'; simpa using hq'.2
            have hpl : p + 1 < (esc X1).length + 2 := by omega
            have HP : Hid (X1 = pre ++ c :: t ∧ gk = (c :: t).length ∧ p = 1 + (esc pre).length ∧ np = pre.length ∧ isq c = false) := ⟨hX, hgn, hp, hnp, hq'⟩
            clear hcell hat hel hk1 hX hgn hp hnp hq'
            go_wp2_with (at_builtin; refine wpList_append_fits _ rfl (.tmp 141) (.tmp 143) 22 rfl _ 5 i0 1 Trym.underlying22 hi hz1 _ np _ _ rfl (ho.alloc _) ⟨_, 0, none⟩ 1 1 [.int .u8 c] rfl rfl (cell_one_new _ _ _) (by intro u hu; simp at hu; subst hu; rfl) (by omega) ?_; intro w8 ho8 hg8)
            go_roundg t.length
            case measure => have := HP.out.2.1; simp at this; omega
            case rel =>
              obtain ⟨hX, hgn, hp, hnp, hq⟩ := HP.out
              exact ⟨pre ++ [c], t, p + 1, np + 1, by simp [hX], rfl, by rw [esc_snoc_p _ hq, hp]; simp; omega, by simp [hnp], by go_num, rfl, by simpa using ho8, (hbe.alloc hsz _).grown hg8 (by simp; omega) (fun k hk => by cases hk; exact Nat.le_refl _)⟩

end Go.Proofs.Qxb6602058aMods
