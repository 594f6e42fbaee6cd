import Derived.Test.Qxb6602067aModsSpan
namespace Go.Proofs.Qxb6602067aMods
open Go.RowKit
set_option linter.unusedSimpArgs false
set_option linter.unusedVariables false

set_option maxRecDepth 100000 in
set_option maxHeartbeats 4000000 in
theorem walk3_eq (pb : Int) (a1 a2 a3 : Option Addr) (n c1 c2 c3 : Nat) (X : List (Int × Int)) (w : World) (hx : X.length = n) (hn : n ≤ 65536) (hu : In64 X) (hpb : 0 ≤ pb) (hpb2 : pb ≤ 18446744073709551615)
    (hz : a1 = none → n = 0 ∧ c1 = 0) (r1 : Col Prod.fst w w.heap.size a1 X) (r2 : Col Prod.snd w w.heap.size a2 X) (r3 : Strs w w.heap.size a3 n) :
    Calls Trym.prog 3 #[.int .u64 pb, .slice a1 n c1, .slice a2 n c2, .slice a3 n c3] w fun e w' => e = .returned (.bool true) ∧ Below w.heap.size w w' := by
  have m1 : n ≤ maxLen := by unfold maxLen; omega
  have HX : Hid (X.length = n ∧ In64 X) := ⟨hx, hu⟩
  clear hx hu
  have hnil := fun (wx : World) (g l c : Nat) => Lib.run_eql_slice_nil (P := Trym.prog) wx 28 33 (some ⟨g, 0, none⟩) l c 0 0 Trym.underlying28
  go_enter Trym.func3, Trym.ntmps3
  go_wp2_with fail
  refine (zz11_any pb a1 a2 a3 n n n c1 c2 c3 _ w m1 m1 m1 r3).mono ?_
  rintro e w' ⟨⟨r, rfl⟩, rfl⟩
  cases r
  · go_wp2
    go_ret
    exact ⟨rfl, Below.refl _ _⟩
  go_wp2_with fail
  refine (strbytes_any a3 n c3 _ w r3 hn).mono ?_
  rintro e w' ⟨⟨sb, rfl, hsb⟩, rfl⟩
  by_cases hb : 8 * n + 8 * n + sb ≤ 1048576
  case neg =>
    go_wp2
    go_ret
    exact ⟨rfl, Below.refl _ _⟩
  go_wp2_with fail
  refine (order_any pb a1 a2 n c1 c2 _ X w HX.out.1 hn HX.out.2 hpb r1 r2).mono ?_
  rintro e w' ⟨r, m, rfl, rfl, hasc⟩
  cases r
  · go_wp2
    go_ret
    exact ⟨rfl, drewN_below (Below.refl _ _) _⟩
  have HA : Hid (asc (if 1 < pb then pb else 0) X) := hasc rfl
  clear hasc
  go_wp2_with fail
  have B1 : Below w.heap.size w (w.drewN m) := drewN_below (Below.refl _ _) _
  refine (segs_any a1 a2 a3 n c1 c2 c3 X (w.drewN m) HX.out.1 hn hz (r1.below B1) (r2.below B1) (r3.below B1)).mono ?_
  rintro e w2 ⟨a', cap', rfl, hcap', hsg, hb2⟩
  have B2 : Below w.heap.size w w2 := B1.trans hb2
  go_wp2_with fail
  refine (holes_any pb a' n cap' X w2 HX.out.1 hn HX.out.2 hpb hpb2 hsg).mono ?_
  rintro e w3 ⟨g, cap, rfl, hprs, hb3⟩
  have B3 : Below w.heap.size w w3 := B2.trans (hb3.mono B2.size)
  have q1 := r1.below B3
  have q2 := r2.below B3
  clear B1 B2 hb2 hb3 hsg r1 r2 r3
  obtain ⟨Hs, hHs⟩ : ∃ Hs, Hs = hol (if 1 < pb then pb else 0) X := ⟨_, rfl⟩
  rw [← hHs] at hprs ⊢
  have hlen : Hs.length ≤ n := by rw [hHs, ← HX.out.1]; exact hol_len
  have H64 : Hid (In64 Hs ∧ Hs = hol (if 1 < pb then pb else 0) X) := ⟨by rw [hHs]; exact hol_in HX.out.2 (by split <;> omega) (by split <;> omega), hHs⟩
  clear hHs
  obtain ⟨hl, hhl⟩ : ∃ hl, hl = Hs.length := ⟨_, rfl⟩
  have HL : Hid (hl = Hs.length) := hhl
  rw [← hhl] at hlen ⊢
  clear hhl
  go_wp2
  go_loopg [10, 11] n (fun gn sk si wr => ∃ k m : Nat, gn = n - k ∧ k ≤ n ∧ si = .int .i64 k ∧ sk = .int .i64 (-1) ∧ hd X = hd (X.drop k) ∧ wr = w3.drewN m)
  case atStart => exact ⟨0, 0, rfl, Nat.zero_le _, rfl, rfl, rfl, rfl⟩
  case round =>
    obtain ⟨k, m1', hg, hk, rfl, rfl, hhd, hw⟩ := hrel
    subst hw
    have HG : Hid (gk = n - k ∧ hd X = hd (X.drop k)) := ⟨hg, hhd⟩
    clear hg hhd
    by_cases hlt : k < n
    · obtain ⟨b1, o1, hae1, e1⟩ := q1.get HX.out.1 hlt
      obtain ⟨b2, o2, hae2, e2⟩ := q2.get HX.out.1 hlt
      have Q1 : Hid (∀ j, j < n → w3.cell? ⟨b1, o1 + j, none⟩ = some (.int .u64 (X.getD j (0, 0)).1)) := by
        intro j hj
        obtain ⟨b, o, h, hc⟩ := q1.get HX.out.1 hj
        rw [hae1] at h
        cases h
        exact hc
      have Q2 : Hid (∀ j, j < n → w3.cell? ⟨b2, o2 + j, none⟩ = some (.int .u64 (X.getD j (0, 0)).2)) := by
        intro j hj
        obtain ⟨b, o, h, hc⟩ := q2.get HX.out.1 hj
        rw [hae2] at h
        cases h
        exact hc
      subst hae1 hae2
      clear q1 q2
      have hdr := drop_cons' (X := X) (k := k) (by rw [HX.out.1]; exact hlt)
      have hpu := get64 HX.out.2 (k := k) (by rw [HX.out.1]; exact hlt)
      obtain ⟨p0, p1, hp⟩ : ∃ p0 p1, X.getD k (0, 0) = (p0, p1) := ⟨_, _, rfl⟩
      rw [hp] at e1 e2 hdr hpu
      simp only [] at e1 e2 hpu
      obtain ⟨u0, u1, u2, u3⟩ := hpu
      have HP : Hid (X.drop k = (p0, p1) :: X.drop (k + 1)) := hdr
      clear hp hdr
      by_cases hemp : p1 < p0
      · go_wp2
        go_quiet (fail)
        go_wp2
        go_roundg (n - (k + 1))
        case measure => rw [HG.out.1]; omega
        case rel => exact ⟨k + 1, _, rfl, by omega, by go_num, rfl, by rw [HG.out.2, HP.out, hd_empty (show p1 < p0 by omega)], rfl⟩
      · have HS : Hid (hd X = some p0) := by show hd X = some p0; rw [HG.out.2, HP.out, hd_seg (show ¬ p1 < p0 by omega)]
        by_cases hp1 : 1 < pb
        · have HM : Hid (Mid X Hs pb false false) := by
            have h := Mid.start hpb hpb2 HA.out HS.out
            rw [← H64.out.2, if_pos hp1] at h
            exact h
          go_wp2
          go_quiet (fail)
          go_wp2
          go_loopg [12, 13, 14, 15, 16] (n + hl) (fun gn se si sk sp sf wr => ∃ (k i m : Nat) (e : Int) (pv fl : Bool), gn = (n - k) + (hl - i) ∧ k ≤ n ∧ i ≤ hl ∧ sk = .int .i64 k ∧ si = .int .i64 i ∧ se = .int .u64 e ∧ sp = .bool pv ∧ sf = .bool fl ∧ Mid (X.drop k) (Hs.drop i) e pv fl ∧ wr = w3.drewN m)
          case atStart => exact ⟨0, 0, _, pb, false, false, rfl, Nat.zero_le _, Nat.zero_le _, rfl, rfl, rfl, rfl, rfl, HM.out, rfl⟩
          case round =>
            clear HM HP HS HG e1 e2 u0 u1 u2 u3 hemp hlt hk
            obtain ⟨k, i, m2, e, pv, fl, hg, hk, hi, rfl, rfl, rfl, rfl, rfl, hmid, hw⟩ := hrel
            subst hw
            have HG : Hid (gk = (n - k) + (hl - i)) := hg
            clear hg
            go_wp2
            go_loopg [14] (n - k) (fun gn sk wr => ∃ (k' m : Nat), gn = n - k' ∧ k ≤ k' ∧ k' ≤ n ∧ sk = .int .i64 k' ∧ Mid (X.drop k') (Hs.drop i) e pv fl ∧ wr = w3.drewN m)
            case atStart => exact ⟨k, m2, rfl, Nat.le_refl _, hk, rfl, hmid, rfl⟩
            case round =>
              obtain ⟨k', m3, hg3, hkk, hk', rfl, hmid3, hw3⟩ := hrel
              subst hw3
              have HI : Hid (gk = n - k' ∧ Mid (X.drop k') (Hs.drop i) e pv fl) := ⟨hg3, hmid3⟩
              clear hg3 hmid3 hmid
              by_cases hlt : k' < n
              · have e1 := Q1.out k' hlt
                have e2 := Q2.out k' hlt
                have hdr := drop_cons' (X := X) (k := k') (by rw [HX.out.1]; exact hlt)
                have hpu := get64 HX.out.2 (k := k') (by rw [HX.out.1]; exact hlt)
                have hin : In64 (X.drop k') := fun p hp => HX.out.2 p (List.mem_of_mem_drop hp)
                obtain ⟨p0, p1, hp⟩ : ∃ p0 p1, X.getD k' (0, 0) = (p0, p1) := ⟨_, _, rfl⟩
                rw [hp] at e1 e2 hdr hpu
                simp only [] at e1 e2 hpu
                obtain ⟨u0, u1, u2, u3⟩ := hpu
                have HP : Hid (X.drop k' = (p0, p1) :: X.drop (k' + 1) ∧ In64 (X.drop k')) := ⟨hdr, hin⟩
                clear hp hdr hin
                by_cases hemp : p1 < p0
                · go_wp2
                  go_quiet (fail)
                  go_wp2
                  go_roundg (n - (k' + 1))
                  case measure => rw [HI.out.1]; omega
                  case rel =>
                    refine ⟨k' + 1, _, rfl, by omega, by omega, by go_num, ?_, rfl⟩
                    have h := HI.out.2
                    rw [HP.out.1] at h
                    exact h.skip (show p1 < p0 by omega)
                · have hseg : fl = false ∧ ((p0 = e ∧ Mid (X.drop (k' + 1)) (Hs.drop i) ((p1 + 1) % 18446744073709551616) false (decide (p1 = 18446744073709551615))) ∨
                      (p0 ≠ e ∧ pv = false ∧ e ≤ p0 - 1 ∧ 0 < p0 ∧ ∃ Hs', Hs.drop i = (e, p0 - 1) :: Hs' ∧ Mid ((p0, p1) :: X.drop (k' + 1)) Hs' p0 true false)) := by
                    have h := HI.out.2
                    have hu := HP.out.2
                    rw [HP.out.1] at h hu
                    exact h.seg hu (show ¬ p1 < p0 by omega)
                  obtain ⟨hfl, hcase⟩ := hseg
                  subst hfl
                  rcases hcase with ⟨hpe, hnext⟩ | ⟨hpe, hpv, hle, hpos, Hs', hH, hnext⟩
                  · subst hpe
                    by_cases hmax : p1 = 18446744073709551615
                    · have HNx : Hid (Mid (X.drop (k' + 1)) (Hs.drop i) 0 false true) := by
                        show Mid _ _ _ _ _
                        rw [hmax] at hnext
                        simpa using hnext
                      rw [hmax] at e2
                      clear hnext hmax u2 u3 HI HP
                      go_wp2
                      go_quiet (fail)
                      go_wp2
                      go_roundg ((n - (k' + 1)) + (hl - i))
                      case measure => rw [HG.out]; omega
                      case rel => exact ⟨k' + 1, i, _, 0, false, true, rfl, by omega, hi, by go_num, rfl, by rw [IntKind.wrap_u64]; rfl, rfl, rfl, HNx.out, rfl⟩
                    · have HNx : Hid (Mid (X.drop (k' + 1)) (Hs.drop i) (p1 + 1) false false) := by
                        rw [show (p1 + 1) % 18446744073709551616 = p1 + 1 by omega, show decide (p1 = 18446744073709551615) = false by simpa using hmax] at hnext
                        exact hnext
                      have hmx : (p1 == 18446744073709551615) = false := by simpa using hmax
                      have hlt1 : p1 + 1 ≤ 18446744073709551615 := by omega
                      clear hnext hmax HI HP
                      go_wp2
                      go_quiet (fail)
                      go_wp2
                      go_roundg ((n - (k' + 1)) + (hl - i))
                      case measure => rw [HG.out]; omega
                      case rel => exact ⟨k' + 1, i, _, p1 + 1, false, false, rfl, by omega, hi, by go_num, rfl, rfl, rfl, rfl, HNx.out, rfl⟩
                  · subst hpv
                    have hil : i < hl := by
                      have := congrArg List.length hH
                      simp at this
                      rw [HL.out]; omega
                    have hHs : Hs.drop (i + 1) = Hs' := by
                      rw [← List.drop_drop, hH]; rfl
                    have hget : Hs.getD i (0, 0) = (e, p0 - 1) := by
                      have h := drop_cons' (X := Hs) (k := i) (by rw [← HL.out]; exact hil)
                      rw [hH] at h
                      exact (List.cons.inj h).1.symm
                    have HNx : Hid (Mid (X.drop k') (Hs.drop (i + 1)) p0 true false) := by
                      show Mid _ _ _ _ _
                      rw [hHs, HP.out.1]; exact hnext
                    obtain ⟨hc0, hc1⟩ : w3.cell? ⟨g, i * 2, none⟩ = some (.int .u64 e) ∧ w3.cell? ⟨g, i * 2 + 1, none⟩ = some (.int .u64 (p0 - 1)) := by
                      rcases hprs with h | ⟨b, o, h, _, hc⟩
                      · rw [HL.out, h] at hil; simp at hil
                      · cases h
                        have := hc i (by rw [← HL.out]; exact hil)
                        rw [hget] at this
                        simpa using this
                    have hpe' : (p0 == e) = false := by simpa using hpe
                    have hpm : (p0 - 1 == 18446744073709551615) = false := by simp; omega
                    clear hnext hpe hH hHs hget HI HP
                    go_wp2
                    go_quiet (fail)
                    go_wp2
                    go_quiet (fail)
                    go_wp2
                    go_roundg ((n - k') + (hl - (i + 1)))
                    case measure => rw [HG.out]; omega
                    case rel => exact ⟨k', i + 1, _, p0, true, false, rfl, hk', by omega, rfl, by go_num, by go_num, rfl, rfl, HNx.out, rfl⟩
              · have hke : k' = n := by omega
                subst hke
                have hmd : Mid [] (Hs.drop i) e pv fl := by
                  have h := HI.out.2
                  rw [List.drop_eq_nil_of_le (by rw [HX.out.1]; omega)] at h
                  exact h
                obtain ⟨hd1, hd2⟩ := hmd.done
                subst hd2
                have hie : i = hl := by
                  have := congrArg List.length hd1
                  simp at this
                  rw [HL.out]; rw [HL.out] at hi; omega
                subst hie
                clear hd1 hmd HI
                have hd : decide ((k' : Int) < (k' : Int)) = false := by simp
                go_wp2
                go_quiet (fail)
                go_wp2
                go_ret
                exact ⟨rfl, drewN_below B3 _⟩
        · have HM : Hid (Mid X Hs p0 false false) := by
            have h := Mid.start hpb hpb2 HA.out HS.out
            rw [← H64.out.2, if_neg hp1] at h
            exact h
          go_wp2
          go_quiet (fail)
          go_wp2
          go_loopg [12, 13, 14, 15, 16] (n + hl) (fun gn se si sk sp sf wr => ∃ (k i m : Nat) (e : Int) (pv fl : Bool), gn = (n - k) + (hl - i) ∧ k ≤ n ∧ i ≤ hl ∧ sk = .int .i64 k ∧ si = .int .i64 i ∧ se = .int .u64 e ∧ sp = .bool pv ∧ sf = .bool fl ∧ Mid (X.drop k) (Hs.drop i) e pv fl ∧ wr = w3.drewN m)
          case atStart => exact ⟨0, 0, _, p0, false, false, rfl, Nat.zero_le _, Nat.zero_le _, rfl, rfl, rfl, rfl, rfl, HM.out, rfl⟩
          case round =>
            clear HM HP HS HG e1 e2 u0 u1 u2 u3 hemp hlt hk
            obtain ⟨k, i, m2, e, pv, fl, hg, hk, hi, rfl, rfl, rfl, rfl, rfl, hmid, hw⟩ := hrel
            subst hw
            have HG : Hid (gk = (n - k) + (hl - i)) := hg
            clear hg
            go_wp2
            go_loopg [14] (n - k) (fun gn sk wr => ∃ (k' m : Nat), gn = n - k' ∧ k ≤ k' ∧ k' ≤ n ∧ sk = .int .i64 k' ∧ Mid (X.drop k') (Hs.drop i) e pv fl ∧ wr = w3.drewN m)
            case atStart => exact ⟨k, m2, rfl, Nat.le_refl _, hk, rfl, hmid, rfl⟩
            case round =>
              obtain ⟨k', m3, hg3, hkk, hk', rfl, hmid3, hw3⟩ := hrel
              subst hw3
              have HI : Hid (gk = n - k' ∧ Mid (X.drop k') (Hs.drop i) e pv fl) := ⟨hg3, hmid3⟩
              clear hg3 hmid3 hmid
              by_cases hlt : k' < n
              · have e1 := Q1.out k' hlt
                have e2 := Q2.out k' hlt
                have hdr := drop_cons' (X := X) (k := k') (by rw [HX.out.1]; exact hlt)
                have hpu := get64 HX.out.2 (k := k') (by rw [HX.out.1]; exact hlt)
                have hin : In64 (X.drop k') := fun p hp => HX.out.2 p (List.mem_of_mem_drop hp)
                obtain ⟨p0, p1, hp⟩ : ∃ p0 p1, X.getD k' (0, 0) = (p0, p1) := ⟨_, _, rfl⟩
                rw [hp] at e1 e2 hdr hpu
                simp only [] at e1 e2 hpu
                obtain ⟨u0, u1, u2, u3⟩ := hpu
                have HP : Hid (X.drop k' = (p0, p1) :: X.drop (k' + 1) ∧ In64 (X.drop k')) := ⟨hdr, hin⟩
                clear hp hdr hin
                by_cases hemp : p1 < p0
                · go_wp2
                  go_quiet (fail)
                  go_wp2
                  go_roundg (n - (k' + 1))
                  case measure => rw [HI.out.1]; omega
                  case rel =>
                    refine ⟨k' + 1, _, rfl, by omega, by omega, by go_num, ?_, rfl⟩
                    have h := HI.out.2
                    rw [HP.out.1] at h
                    exact h.skip (show p1 < p0 by omega)
                · have hseg : fl = false ∧ ((p0 = e ∧ Mid (X.drop (k' + 1)) (Hs.drop i) ((p1 + 1) % 18446744073709551616) false (decide (p1 = 18446744073709551615))) ∨
                      (p0 ≠ e ∧ pv = false ∧ e ≤ p0 - 1 ∧ 0 < p0 ∧ ∃ Hs', Hs.drop i = (e, p0 - 1) :: Hs' ∧ Mid ((p0, p1) :: X.drop (k' + 1)) Hs' p0 true false)) := by
                    have h := HI.out.2
                    have hu := HP.out.2
                    rw [HP.out.1] at h hu
                    exact h.seg hu (show ¬ p1 < p0 by omega)
                  obtain ⟨hfl, hcase⟩ := hseg
                  subst hfl
                  rcases hcase with ⟨hpe, hnext⟩ | ⟨hpe, hpv, hle, hpos, Hs', hH, hnext⟩
                  · subst hpe
                    by_cases hmax : p1 = 18446744073709551615
                    · have HNx : Hid (Mid (X.drop (k' + 1)) (Hs.drop i) 0 false true) := by
                        show Mid _ _ _ _ _
                        rw [hmax] at hnext
                        simpa using hnext
                      rw [hmax] at e2
                      clear hnext hmax u2 u3 HI HP
                      go_wp2
                      go_quiet (fail)
                      go_wp2
                      go_roundg ((n - (k' + 1)) + (hl - i))
                      case measure => rw [HG.out]; omega
                      case rel => exact ⟨k' + 1, i, _, 0, false, true, rfl, by omega, hi, by go_num, rfl, by rw [IntKind.wrap_u64]; rfl, rfl, rfl, HNx.out, rfl⟩
                    · have HNx : Hid (Mid (X.drop (k' + 1)) (Hs.drop i) (p1 + 1) false false) := by
                        rw [show (p1 + 1) % 18446744073709551616 = p1 + 1 by omega, show decide (p1 = 18446744073709551615) = false by simpa using hmax] at hnext
                        exact hnext
                      have hmx : (p1 == 18446744073709551615) = false := by simpa using hmax
                      have hlt1 : p1 + 1 ≤ 18446744073709551615 := by omega
                      clear hnext hmax HI HP
                      go_wp2
                      go_quiet (fail)
                      go_wp2
                      go_roundg ((n - (k' + 1)) + (hl - i))
                      case measure => rw [HG.out]; omega
                      case rel => exact ⟨k' + 1, i, _, p1 + 1, false, false, rfl, by omega, hi, by go_num, rfl, rfl, rfl, rfl, HNx.out, rfl⟩
                  · subst hpv
                    have hil : i < hl := by
                      have := congrArg List.length hH
                      simp at this
                      rw [HL.out]; omega
                    have hHs : Hs.drop (i + 1) = Hs' := by
                      rw [← List.drop_drop, hH]; rfl
                    have hget : Hs.getD i (0, 0) = (e, p0 - 1) := by
                      have h := drop_cons' (X := Hs) (k := i) (by rw [← HL.out]; exact hil)
                      rw [hH] at h
                      exact (List.cons.inj h).1.symm
                    have HNx : Hid (Mid (X.drop k') (Hs.drop (i + 1)) p0 true false) := by
                      show Mid _ _ _ _ _
                      rw [hHs, HP.out.1]; exact hnext
                    obtain ⟨hc0, hc1⟩ : w3.cell? ⟨g, i * 2, none⟩ = some (.int .u64 e) ∧ w3.cell? ⟨g, i * 2 + 1, none⟩ = some (.int .u64 (p0 - 1)) := by
                      rcases hprs with h | ⟨b, o, h, _, hc⟩
                      · rw [HL.out, h] at hil; simp at hil
                      · cases h
                        have := hc i (by rw [← HL.out]; exact hil)
                        rw [hget] at this
                        simpa using this
                    have hpe' : (p0 == e) = false := by simpa using hpe
                    have hpm : (p0 - 1 == 18446744073709551615) = false := by simp; omega
                    clear hnext hpe hH hHs hget HI HP
                    go_wp2
                    go_quiet (fail)
                    go_wp2
                    go_quiet (fail)
                    go_wp2
                    go_roundg ((n - k') + (hl - (i + 1)))
                    case measure => rw [HG.out]; omega
                    case rel => exact ⟨k', i + 1, _, p0, true, false, rfl, hk', by omega, rfl, by go_num, by go_num, rfl, rfl, HNx.out, rfl⟩
              · have hke : k' = n := by omega
                subst hke
                have hmd : Mid [] (Hs.drop i) e pv fl := by
                  have h := HI.out.2
                  rw [List.drop_eq_nil_of_le (by rw [HX.out.1]; omega)] at h
                  exact h
                obtain ⟨hd1, hd2⟩ := hmd.done
                subst hd2
                have hie : i = hl := by
                  have := congrArg List.length hd1
                  simp at this
                  rw [HL.out]; rw [HL.out] at hi; omega
                subst hie
                clear hd1 hmd HI
                have hd : decide ((k' : Int) < (k' : Int)) = false := by simp
                go_wp2
                go_quiet (fail)
                go_wp2
                go_ret
                exact ⟨rfl, drewN_below B3 _⟩
    · have hke : k = n := by omega
      subst hke
      clear q1 q2
      have hl0 : hl = 0 := by
        rw [HL.out, H64.out.2, hol_none]
        · rfl
        · rw [HG.out.2, List.drop_eq_nil_of_le (by rw [HX.out.1]; omega)]; rfl
      subst hl0
      go_wp2
      go_ret
      exact ⟨rfl, drewN_below B3 _⟩

theorem walk3_all (pb : Int) (a1 a2 a3 : Option Addr) (n1 n2 n3 c1 c2 c3 : Nat) (w : World) (hpb : 0 ≤ pb) (hpb2 : pb ≤ 18446744073709551615) (m1 : n1 ≤ maxLen) (m2 : n2 ≤ maxLen) (m3 : n3 ≤ maxLen)
    (hz : a1 = none → n1 = 0 ∧ c1 = 0) (r3 : Strs w w.heap.size a3 n3)
    (hX : n2 = n1 → ∃ X : List (Int × Int), X.length = n1 ∧ In64 X ∧ Col Prod.fst w w.heap.size a1 X ∧ Col Prod.snd w w.heap.size a2 X) :
    Calls Trym.prog 3 #[.int .u64 pb, .slice a1 n1 c1, .slice a2 n2 c2, .slice a3 n3 c3] w fun e w' => e = .returned (.bool true) ∧ Below w.heap.size w w' := by
  by_cases h : n1 ≤ 65536 ∧ n2 ≤ 65536 ∧ n3 ≤ 65536
  · by_cases he : n2 = n1 ∧ n3 = n1
    · obtain ⟨rfl, rfl⟩ := he
      obtain ⟨X, h1, h2, h3, h4⟩ := hX rfl
      exact walk3_eq pb a1 a2 a3 _ c1 c2 c3 X w h1 h.1 h2 hpb hpb2 hz h3 h4 r3
    · exact walk3_uneq pb a1 a2 a3 n1 n2 n3 c1 c2 c3 w h.1 h.2.1 h.2.2 r3 he
  · exact walk3_long pb a1 a2 a3 n1 n2 n3 c1 c2 c3 w m1 m2 m3 r3 h

end Go.Proofs.Qxb6602067aMods
