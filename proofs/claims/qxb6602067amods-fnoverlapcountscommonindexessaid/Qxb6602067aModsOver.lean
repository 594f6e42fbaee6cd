import Derived.Test.Qxb6602067aModsBase
namespace Go.Proofs.Qxb6602067aMods
open Go.RowKit
set_option linter.unusedSimpArgs false
set_option linter.unusedVariables false

/-- Every number is a uint64. -/
def U64s (X : List (Int × Int)) : Prop := ∀ p ∈ X, 0 ≤ p.1 ∧ p.1 ≤ 18446744073709551615 ∧ 0 ≤ p.2 ∧ p.2 ≤ 18446744073709551615

theorem Prs.head {w : World} {B : Nat} {a : Option Addr} {p : Int × Int} {X : List (Int × Int)} (h : Prs w B a (p :: X)) :
    ∃ b off, a = some ⟨b, off, none⟩ ∧ w.cell? ⟨b, off, none⟩ = some (.int .u64 p.1) ∧ w.cell? ⟨b, off + 1, none⟩ = some (.int .u64 p.2) ∧ Prs w B (some ⟨b, off + 2, none⟩) X := by
  rcases h with h | ⟨b, off, rfl, hB, hc⟩
  · cases h
  · have h0 := hc 0 (by simp)
    refine ⟨b, off, rfl, by simpa using h0.1, by simpa using h0.2, .inr ⟨b, off + 2, rfl, hB, fun i hi => ?_⟩⟩
    have h1 := hc (i + 1) (by simp; omega)
    rw [show off + 2 + i * 2 = off + (i + 1) * 2 by omega]
    simpa [List.getD] using h1

set_option maxHeartbeats 1000000 in
theorem over_any (a0 b0 : Option Addr) (na nb ca cb B : Nat) (X Y : List (Int × Int)) (w : World) (hX : X.length = na) (hY : Y.length = nb) (hca : na ≤ ca) (hcb : nb ≤ cb) (hna : na ≤ 1048576) (hnb : nb ≤ 1048576)
    (r0 : Prs w B a0 X) (r1 : Prs w B b0 Y) (dX : Disj X) (dY : Disj Y) (uX : U64s X) (uY : U64s Y) :
    Calls Trym.prog 19 #[.slice a0 na ca, .slice b0 nb cb] w fun e w' => e = .returned (.int .u64 (pairs X Y % 18446744073709551616)) ∧ ∃ m, w' = w.drewN m := by
  have HT : Hid (∃ T, T = pairs X Y) := ⟨_, rfl⟩
  go_enter Trym.func19, Trym.ntmps19
  go_wp2
  go_loopg [0, 1, 5, 6, 7] (na + nb) (fun gn sa sb sn _ _ wr => ∃ (X' Y' : List (Int × Int)) (aa ab : Option Addr) (la lb ca cb m : Nat) (acc nn : Int), gn = la + lb ∧ X'.length = la ∧ Y'.length = lb ∧ la ≤ ca ∧ lb ≤ cb ∧ la ≤ 1048576 ∧ lb ≤ 1048576 ∧
     sa = .slice aa la ca ∧ sb = .slice ab lb cb ∧ sn = .int .u64 nn ∧ nn = acc % 18446744073709551616 ∧ Prs w B aa X' ∧ Prs w B ab Y' ∧ Disj X' ∧ Disj Y' ∧ U64s X' ∧ U64s Y' ∧ acc + pairs X' Y' = pairs X Y ∧ wr = w.drewN m)
  case atStart => exact ⟨X, Y, a0, b0, na, nb, ca, cb, 0, 0, 0, rfl, hX, hY, hca, hcb, hna, hnb, rfl, rfl, rfl, rfl, r0, r1, dX, dY, uX, uY, by omega, rfl⟩
  case round =>
    clear HT hX hY hca hcb hna hnb r0 r1 dX dY uX uY
    obtain ⟨X', Y', aa, ab, la, lb, ca, cb, m, acc, nn, hg, hX, hY, hca, hcb, hna, hnb, rfl, rfl, rfl, hnn, r0, r1, dX, dY, uX, uY, hsum, rfl⟩ := hrel
    have hn0 : 0 ≤ nn := by omega
    have hn1 : nn ≤ 18446744073709551615 := by omega
    have HN : Hid (nn = acc % 18446744073709551616 ∧ acc + pairs X' Y' = pairs X Y ∧ gk = la + lb) := ⟨hnn, hsum, hg⟩
    clear hnn hsum hg
    cases X' with
    | nil =>
      simp at hX
      subst hX
      go_wp2
      go_ret
      refine ⟨?_, m, rfl⟩
      have := HN.out
      simp only [pairs, Int.add_zero] at this
      rw [← this.2.1, ← this.1]
      rfl
    | cons p X' =>
      cases Y' with
      | nil =>
        simp at hY
        subst hY
        have hla : 0 < la := by simp at hX; omega
        go_wp2
        go_ret
        refine ⟨?_, m, rfl⟩
        have := HN.out
        rw [pairs_nil, Int.add_zero] at this
        rw [← this.2.1, ← this.1]
        rfl
      | cons q Y' =>
        obtain ⟨b1, o1, rfl, e0, e1, t0⟩ := r0.head
        obtain ⟨b2, o2, rfl, f0, f1, t1⟩ := r1.head
        have hla : 0 < la := by simp at hX; omega
        have hlb : 0 < lb := by simp at hY; omega
        have up := uX p (by simp)
        have uq := uY q (by simp)
        obtain ⟨p0, p1⟩ := p
        obtain ⟨q0, q1⟩ := q
        simp only [] at e0 e1 f0 f1 up uq
        obtain ⟨up0, up1, up2, up3⟩ := up
        obtain ⟨uq0, uq1, uq2, uq3⟩ := uq
        have HD : Hid (Disj ((p0, p1) :: X') ∧ Disj ((q0, q1) :: Y') ∧ U64s ((p0, p1) :: X') ∧ U64s ((q0, q1) :: Y') ∧ Prs w B (some ⟨b1, o1, none⟩) ((p0, p1) :: X') ∧ Prs w B (some ⟨b2, o2, none⟩) ((q0, q1) :: Y') ∧ ((p0, p1) :: X').length = la ∧ ((q0, q1) :: Y').length = lb ∧ Prs w B (some ⟨b1, o1 + 2, none⟩) X' ∧ Prs w B (some ⟨b2, o2 + 2, none⟩) Y') := ⟨dX, dY, uX, uY, r0, r1, hX, hY, t0, t1⟩
        clear dX dY uX uY r0 r1 hX hY t0 t1
        have hm2 : ∀ x y : Int, min x y = if x < y then x else y := fun x y => by split <;> omega
        have hm1 : ∀ x y : Int, max x y = if x < y then y else x := fun x y => by split <;> omega
        have HO : Hid (ovl (p0, p1) (q0, q1) = if (if p0 < q0 then q0 else p0) ≤ (if p1 < q1 then p1 else q1) then (if p1 < q1 then p1 else q1) - (if p0 < q0 then q0 else p0) + 1 else 0) := by
          show ovl (p0, p1) (q0, q1) = _
          unfold ovl
          simp only [hm1, hm2]
        clear hm1 hm2
        obtain ⟨ov, hov⟩ : ∃ ov, ov = ovl (p0, p1) (q0, q1) := ⟨_, rfl⟩
        by_cases h2 : p1 < q1
        · have HS : Hid ((acc + ov) + pairs X' ((q0, q1) :: Y') = pairs X Y) := by
            have h := HN.out.2.1
            rw [pairs_step HD.out.1 HD.out.2.1, if_pos h2, ← hov] at h
            show _ = _
            omega
          by_cases h1 : p0 < q0
          · by_cases h3 : q0 ≤ p1
            · have HV : Hid (ov = p1 - q0 + 1) := by have h := HO.out; simp only [h1, h2, h3, if_true, if_false] at h; exact hov.trans h
              clear hov HO
              go_wp2
              go_quiet (fail)
              go_wp2
              go_quiet (fail)
              go_wp2
              all_goals go_roundg (la - 1 + lb)
              all_goals first
                | (rw [HN.out.2.2]; omega)
                | exact ⟨X', (q0, q1) :: Y', _, _, la - 1, lb, _, _, _, acc + ov, _, rfl, (by have h := HD.out.2.2.2.2.2.2.1; simp at h; omega), HD.out.2.2.2.2.2.2.2.1, (by omega), hcb, (by omega), hnb, rfl, rfl, rfl, (by have h4 := HN.out.1; have h5 := HV.out; (try simp only [IntKind.wrap_u64]); omega), (by first | exact HD.out.2.2.2.2.2.2.2.2.1 | exact Or.inl (List.eq_nil_of_length_eq_zero (by have h := HD.out.2.2.2.2.2.2.1; simp at h; omega))), HD.out.2.2.2.2.2.1, HD.out.1.2.2, HD.out.2.1, (fun p hp => HD.out.2.2.1 p (by simp [hp])), HD.out.2.2.2.1, HS.out, rfl⟩
            · have HV : Hid (ov = 0) := by have h := HO.out; simp only [h1, h2, h3, if_true, if_false] at h; exact hov.trans h
              clear hov HO
              go_wp2
              go_quiet (fail)
              go_wp2
              go_quiet (fail)
              go_wp2
              all_goals go_roundg (la - 1 + lb)
              all_goals first
                | (rw [HN.out.2.2]; omega)
                | exact ⟨X', (q0, q1) :: Y', _, _, la - 1, lb, _, _, _, acc + ov, _, rfl, (by have h := HD.out.2.2.2.2.2.2.1; simp at h; omega), HD.out.2.2.2.2.2.2.2.1, (by omega), hcb, (by omega), hnb, rfl, rfl, rfl, (by have h4 := HN.out.1; have h5 := HV.out; (try simp only [IntKind.wrap_u64]); omega), (by first | exact HD.out.2.2.2.2.2.2.2.2.1 | exact Or.inl (List.eq_nil_of_length_eq_zero (by have h := HD.out.2.2.2.2.2.2.1; simp at h; omega))), HD.out.2.2.2.2.2.1, HD.out.1.2.2, HD.out.2.1, (fun p hp => HD.out.2.2.1 p (by simp [hp])), HD.out.2.2.2.1, HS.out, rfl⟩
          · by_cases h3 : p0 ≤ p1
            · have HV : Hid (ov = p1 - p0 + 1) := by have h := HO.out; simp only [h1, h2, h3, if_true, if_false] at h; exact hov.trans h
              clear hov HO
              go_wp2
              go_quiet (fail)
              go_wp2
              go_quiet (fail)
              go_wp2
              all_goals go_roundg (la - 1 + lb)
              all_goals first
                | (rw [HN.out.2.2]; omega)
                | exact ⟨X', (q0, q1) :: Y', _, _, la - 1, lb, _, _, _, acc + ov, _, rfl, (by have h := HD.out.2.2.2.2.2.2.1; simp at h; omega), HD.out.2.2.2.2.2.2.2.1, (by omega), hcb, (by omega), hnb, rfl, rfl, rfl, (by have h4 := HN.out.1; have h5 := HV.out; (try simp only [IntKind.wrap_u64]); omega), (by first | exact HD.out.2.2.2.2.2.2.2.2.1 | exact Or.inl (List.eq_nil_of_length_eq_zero (by have h := HD.out.2.2.2.2.2.2.1; simp at h; omega))), HD.out.2.2.2.2.2.1, HD.out.1.2.2, HD.out.2.1, (fun p hp => HD.out.2.2.1 p (by simp [hp])), HD.out.2.2.2.1, HS.out, rfl⟩
            · have HV : Hid (ov = 0) := by have h := HO.out; simp only [h1, h2, h3, if_true, if_false] at h; exact hov.trans h
              clear hov HO
              go_wp2
              go_quiet (fail)
              go_wp2
              go_quiet (fail)
              go_wp2
              all_goals go_roundg (la - 1 + lb)
              all_goals first
                | (rw [HN.out.2.2]; omega)
                | exact ⟨X', (q0, q1) :: Y', _, _, la - 1, lb, _, _, _, acc + ov, _, rfl, (by have h := HD.out.2.2.2.2.2.2.1; simp at h; omega), HD.out.2.2.2.2.2.2.2.1, (by omega), hcb, (by omega), hnb, rfl, rfl, rfl, (by have h4 := HN.out.1; have h5 := HV.out; (try simp only [IntKind.wrap_u64]); omega), (by first | exact HD.out.2.2.2.2.2.2.2.2.1 | exact Or.inl (List.eq_nil_of_length_eq_zero (by have h := HD.out.2.2.2.2.2.2.1; simp at h; omega))), HD.out.2.2.2.2.2.1, HD.out.1.2.2, HD.out.2.1, (fun p hp => HD.out.2.2.1 p (by simp [hp])), HD.out.2.2.2.1, HS.out, rfl⟩
        · have HS : Hid ((acc + ov) + pairs ((p0, p1) :: X') Y' = pairs X Y) := by
            have h := HN.out.2.1
            rw [pairs_step HD.out.1 HD.out.2.1, if_neg h2, ← hov] at h
            show _ = _
            omega
          by_cases h6 : q1 < p1
          · by_cases h1 : p0 < q0
            · by_cases h3 : q0 ≤ q1
              · have HV : Hid (ov = q1 - q0 + 1) := by have h := HO.out; simp only [h1, h2, h3, if_true, if_false] at h; exact hov.trans h
                clear hov HO
                go_wp2
                go_quiet (fail)
                go_wp2
                go_quiet (fail)
                go_wp2
                all_goals go_roundg (la + (lb - 1))
                all_goals first
                  | (rw [HN.out.2.2]; omega)
                  | exact ⟨_ :: X', Y', _, _, la, lb - 1, _, _, _, acc + ov, _, rfl, HD.out.2.2.2.2.2.2.1, (by have h := HD.out.2.2.2.2.2.2.2.1; simp at h; omega), hca, (by omega), hna, (by omega), rfl, rfl, rfl, (by have h4 := HN.out.1; have h5 := HV.out; (try simp only [IntKind.wrap_u64]); omega), HD.out.2.2.2.2.1, (by first | exact HD.out.2.2.2.2.2.2.2.2.2 | exact Or.inl (List.eq_nil_of_length_eq_zero (by have h := HD.out.2.2.2.2.2.2.2.1; simp at h; omega))), HD.out.1, HD.out.2.1.2.2, HD.out.2.2.1, (fun p hp => HD.out.2.2.2.1 p (by simp [hp])), HS.out, rfl⟩
              · have HV : Hid (ov = 0) := by have h := HO.out; simp only [h1, h2, h3, if_true, if_false] at h; exact hov.trans h
                clear hov HO
                go_wp2
                go_quiet (fail)
                go_wp2
                go_quiet (fail)
                go_wp2
                all_goals go_roundg (la + (lb - 1))
                all_goals first
                  | (rw [HN.out.2.2]; omega)
                  | exact ⟨_ :: X', Y', _, _, la, lb - 1, _, _, _, acc + ov, _, rfl, HD.out.2.2.2.2.2.2.1, (by have h := HD.out.2.2.2.2.2.2.2.1; simp at h; omega), hca, (by omega), hna, (by omega), rfl, rfl, rfl, (by have h4 := HN.out.1; have h5 := HV.out; (try simp only [IntKind.wrap_u64]); omega), HD.out.2.2.2.2.1, (by first | exact HD.out.2.2.2.2.2.2.2.2.2 | exact Or.inl (List.eq_nil_of_length_eq_zero (by have h := HD.out.2.2.2.2.2.2.2.1; simp at h; omega))), HD.out.1, HD.out.2.1.2.2, HD.out.2.2.1, (fun p hp => HD.out.2.2.2.1 p (by simp [hp])), HS.out, rfl⟩
            · by_cases h3 : p0 ≤ q1
              · have HV : Hid (ov = q1 - p0 + 1) := by have h := HO.out; simp only [h1, h2, h3, if_true, if_false] at h; exact hov.trans h
                clear hov HO
                go_wp2
                go_quiet (fail)
                go_wp2
                go_quiet (fail)
                go_wp2
                all_goals go_roundg (la + (lb - 1))
                all_goals first
                  | (rw [HN.out.2.2]; omega)
                  | exact ⟨_ :: X', Y', _, _, la, lb - 1, _, _, _, acc + ov, _, rfl, HD.out.2.2.2.2.2.2.1, (by have h := HD.out.2.2.2.2.2.2.2.1; simp at h; omega), hca, (by omega), hna, (by omega), rfl, rfl, rfl, (by have h4 := HN.out.1; have h5 := HV.out; (try simp only [IntKind.wrap_u64]); omega), HD.out.2.2.2.2.1, (by first | exact HD.out.2.2.2.2.2.2.2.2.2 | exact Or.inl (List.eq_nil_of_length_eq_zero (by have h := HD.out.2.2.2.2.2.2.2.1; simp at h; omega))), HD.out.1, HD.out.2.1.2.2, HD.out.2.2.1, (fun p hp => HD.out.2.2.2.1 p (by simp [hp])), HS.out, rfl⟩
              · have HV : Hid (ov = 0) := by have h := HO.out; simp only [h1, h2, h3, if_true, if_false] at h; exact hov.trans h
                clear hov HO
                go_wp2
                go_quiet (fail)
                go_wp2
                go_quiet (fail)
                go_wp2
                all_goals go_roundg (la + (lb - 1))
                all_goals first
                  | (rw [HN.out.2.2]; omega)
                  | exact ⟨_ :: X', Y', _, _, la, lb - 1, _, _, _, acc + ov, _, rfl, HD.out.2.2.2.2.2.2.1, (by have h := HD.out.2.2.2.2.2.2.2.1; simp at h; omega), hca, (by omega), hna, (by omega), rfl, rfl, rfl, (by have h4 := HN.out.1; have h5 := HV.out; (try simp only [IntKind.wrap_u64]); omega), HD.out.2.2.2.2.1, (by first | exact HD.out.2.2.2.2.2.2.2.2.2 | exact Or.inl (List.eq_nil_of_length_eq_zero (by have h := HD.out.2.2.2.2.2.2.2.1; simp at h; omega))), HD.out.1, HD.out.2.1.2.2, HD.out.2.2.1, (fun p hp => HD.out.2.2.2.1 p (by simp [hp])), HS.out, rfl⟩
          · by_cases h1 : p0 < q0
            · by_cases h3 : q0 ≤ q1
              · have HV : Hid (ov = q1 - q0 + 1) := by have h := HO.out; simp only [h1, h2, h3, if_true, if_false] at h; exact hov.trans h
                clear hov HO
                obtain rfl : q1 = p1 := by omega
                go_wp2
                go_quiet (fail)
                go_wp2
                go_quiet (fail)
                go_wp2
                all_goals go_roundg (la + (lb - 1))
                all_goals first
                  | (rw [HN.out.2.2]; omega)
                  | exact ⟨_ :: X', Y', _, _, la, lb - 1, _, _, _, acc + ov, _, rfl, HD.out.2.2.2.2.2.2.1, (by have h := HD.out.2.2.2.2.2.2.2.1; simp at h; omega), hca, (by omega), hna, (by omega), rfl, rfl, rfl, (by have h4 := HN.out.1; have h5 := HV.out; (try simp only [IntKind.wrap_u64]); omega), HD.out.2.2.2.2.1, (by first | exact HD.out.2.2.2.2.2.2.2.2.2 | exact Or.inl (List.eq_nil_of_length_eq_zero (by have h := HD.out.2.2.2.2.2.2.2.1; simp at h; omega))), HD.out.1, HD.out.2.1.2.2, HD.out.2.2.1, (fun p hp => HD.out.2.2.2.1 p (by simp [hp])), HS.out, rfl⟩
              · have HV : Hid (ov = 0) := by have h := HO.out; simp only [h1, h2, h3, if_true, if_false] at h; exact hov.trans h
                clear hov HO
                obtain rfl : q1 = p1 := by omega
                go_wp2
                go_quiet (fail)
                go_wp2
                go_quiet (fail)
                go_wp2
                all_goals go_roundg (la + (lb - 1))
                all_goals first
                  | (rw [HN.out.2.2]; omega)
                  | exact ⟨_ :: X', Y', _, _, la, lb - 1, _, _, _, acc + ov, _, rfl, HD.out.2.2.2.2.2.2.1, (by have h := HD.out.2.2.2.2.2.2.2.1; simp at h; omega), hca, (by omega), hna, (by omega), rfl, rfl, rfl, (by have h4 := HN.out.1; have h5 := HV.out; (try simp only [IntKind.wrap_u64]); omega), HD.out.2.2.2.2.1, (by first | exact HD.out.2.2.2.2.2.2.2.2.2 | exact Or.inl (List.eq_nil_of_length_eq_zero (by have h := HD.out.2.2.2.2.2.2.2.1; simp at h; omega))), HD.out.1, HD.out.2.1.2.2, HD.out.2.2.1, (fun p hp => HD.out.2.2.2.1 p (by simp [hp])), HS.out, rfl⟩
            · by_cases h3 : p0 ≤ q1
              · have HV : Hid (ov = q1 - p0 + 1) := by have h := HO.out; simp only [h1, h2, h3, if_true, if_false] at h; exact hov.trans h
                clear hov HO
                obtain rfl : q1 = p1 := by omega
                go_wp2
                go_quiet (fail)
                go_wp2
                go_quiet (fail)
                go_wp2
                all_goals go_roundg (la + (lb - 1))
                all_goals first
                  | (rw [HN.out.2.2]; omega)
                  | exact ⟨_ :: X', Y', _, _, la, lb - 1, _, _, _, acc + ov, _, rfl, HD.out.2.2.2.2.2.2.1, (by have h := HD.out.2.2.2.2.2.2.2.1; simp at h; omega), hca, (by omega), hna, (by omega), rfl, rfl, rfl, (by have h4 := HN.out.1; have h5 := HV.out; (try simp only [IntKind.wrap_u64]); omega), HD.out.2.2.2.2.1, (by first | exact HD.out.2.2.2.2.2.2.2.2.2 | exact Or.inl (List.eq_nil_of_length_eq_zero (by have h := HD.out.2.2.2.2.2.2.2.1; simp at h; omega))), HD.out.1, HD.out.2.1.2.2, HD.out.2.2.1, (fun p hp => HD.out.2.2.2.1 p (by simp [hp])), HS.out, rfl⟩
              · have HV : Hid (ov = 0) := by have h := HO.out; simp only [h1, h2, h3, if_true, if_false] at h; exact hov.trans h
                clear hov HO
                obtain rfl : q1 = p1 := by omega
                go_wp2
                go_quiet (fail)
                go_wp2
                go_quiet (fail)
                go_wp2
                all_goals go_roundg (la + (lb - 1))
                all_goals first
                  | (rw [HN.out.2.2]; omega)
                  | exact ⟨_ :: X', Y', _, _, la, lb - 1, _, _, _, acc + ov, _, rfl, HD.out.2.2.2.2.2.2.1, (by have h := HD.out.2.2.2.2.2.2.2.1; simp at h; omega), hca, (by omega), hna, (by omega), rfl, rfl, rfl, (by have h4 := HN.out.1; have h5 := HV.out; (try simp only [IntKind.wrap_u64]); omega), HD.out.2.2.2.2.1, (by first | exact HD.out.2.2.2.2.2.2.2.2.2 | exact Or.inl (List.eq_nil_of_length_eq_zero (by have h := HD.out.2.2.2.2.2.2.2.1; simp at h; omega))), HD.out.1, HD.out.2.1.2.2, HD.out.2.2.1, (fun p hp => HD.out.2.2.2.1 p (by simp [hp])), HS.out, rfl⟩

end Go.Proofs.Qxb6602067aMods
