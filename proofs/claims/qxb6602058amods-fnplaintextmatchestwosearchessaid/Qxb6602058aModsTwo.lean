import Derived.Test.Qxb6602058aModsZzText
import Derived.Test.Qxb6602058aModsClone
import Derived.Test.Qxb6602058aModsEsc
namespace Go.Proofs.Qxb6602058aMods
open Go.RowKit
set_option linter.unusedSimpArgs false
set_option linter.unusedVariables false

/-- The first stop is the nearer of the first quote and the first unplain byte. -/
theorem two_law {X : List Int} {f q bad r : Nat} (hq : IsFirst (fun c => c == 34) X f q) (hb : IsFirst unplain X f bad) (hr : IsFirst stops X f r) :
    (q < bad → r = q ∧ X.getD r 0 = 34 ∧ r < X.length) ∧ (¬ q < bad → r = bad ∧ (r < X.length → X.getD r 0 ≠ 34)) := by
  have split : ∀ c : Int, stops c = ((c == 34) || unplain c) := fun c => by simp [stops, unplain, Bool.or_assoc]
  have u34 : ∀ c : Int, unplain c = true → c ≠ 34 := fun c h => by simp [unplain] at h; omega
  have h1 := hq.lo; have h2 := hq.hi; have h3 := hb.lo; have h4 := hb.hi; have h5 := hr.lo; have h6 := hr.hi
  have rq : r ≤ q := by
    refine Nat.le_of_not_lt fun h => ?_
    have a := hr.no q h1 h
    have b := hq.yes (by omega)
    rw [split, b] at a
    cases a
  have rb : r ≤ bad := by
    refine Nat.le_of_not_lt fun h => ?_
    have a := hr.no bad h3 h
    have b := hb.yes (by omega)
    rw [split, b] at a
    simp at a
  refine ⟨fun h => ?_, fun h => ?_⟩
  · have e : r = q := by
      by_cases hlt : r < q
      · have a := hr.yes (by omega)
        rw [split, hb.no r h5 (by omega), Bool.or_false] at a
        have b := hq.no r h5 hlt
        rw [a] at b
        cases b
      · omega
    subst e
    have b := hq.yes (by omega)
    exact ⟨rfl, by simpa using b, by omega⟩
  · have e : r = bad := by
      by_cases hlt : r < bad
      · have a := hr.yes (by omega)
        rw [split, hb.no r h5 hlt, Bool.or_false] at a
        by_cases hlq : r < q
        · have b := hq.no r h5 hlq
          rw [a] at b
          cases b
        · omega
      · omega
    subst e
    exact ⟨rfl, fun hl => u34 _ (hb.yes hl)⟩

set_option maxHeartbeats 400000 in
theorem zz10 (a0 : Option Addr) (n0 c0 : Nat) (i : Int) (w : World) (h : n0 ≤ 1048576) :
    Calls Trym.prog 10 #[.slice a0 n0 c0, .int .i64 i] w fun e w' => e = .returned (.bool true) ∧ w = w' := by
  go_enter Trym.func10, Trym.ntmps10
  go_wp2
  go_ret
  exact ⟨rfl, rfl⟩

set_option maxHeartbeats 400000 in
theorem zz10_no (a0 : Option Addr) (n0 c0 : Nat) (i : Int) (w : World) (h : ¬ n0 ≤ 1048576) :
    Calls Trym.prog 10 #[.slice a0 n0 c0, .int .i64 i] w fun e w' => e = .returned (.bool false) ∧ w = w' := by
  go_enter Trym.func10, Trym.ntmps10
  go_wp2
  go_ret
  exact ⟨rfl, rfl⟩

theorem first_succ (n cap i B : Nat) (a : Option Addr) (q : Int) (xs : List Int) (w : World) (hn : n ≤ maxLen) (hx : xs.length = n) (hr : Row w B a xs) (hf : i < n) :
    Calls Trym.prog 13 #[.slice a n cap, .int .i64 ((i : Int) + 1), .int .u8 q] w fun e w' => ∃ r, IsFirst (fun c => c == q) xs (i + 1) r ∧ e = .returned (.int .i64 (r : Int)) ∧ w = w' :=
  first_any n cap (i + 1) B a q xs w hn hx hr hf

theorem unplain_succ (n cap i B : Nat) (a : Option Addr) (xs : List Int) (w : World) (hn : n ≤ maxLen) (hx : xs.length = n) (hr : Row w B a xs) (hf : i < n) :
    Calls Trym.prog 14 #[.slice a n cap, .int .i64 ((i : Int) + 1)] w fun e w' => ∃ r, IsFirst unplain xs (i + 1) r ∧ e = .returned (.int .i64 (r : Int)) ∧ w = w' :=
  unplain_any n cap (i + 1) B a xs w hn hx hr hf

theorem Row.get {w : World} {B n k : Nat} {a : Option Addr} {xs : List Int} (h : Row w B a xs) (hl : xs.length = n) (hk : k < n) :
    ∃ b o, a = some ⟨b, o, none⟩ ∧ b < B ∧ w.cell? ⟨b, o + k, none⟩ = some (.int .u8 (xs.getD k 0)) ∧ ∀ j, j < n → w.cell? ⟨b, o + j, none⟩ = some (.int .u8 (xs.getD j 0)) := by
  rcases h with rfl | ⟨b, o, rfl, hb, hc⟩
  · simp at hl; omega
  · exact ⟨b, o, rfl, hb, hc k (by omega), fun j hj => hc j (by omega)⟩

set_option maxHeartbeats 1000000 in
/-- i lies past the end. -/
theorem walk3_end (a : Option Addr) (n c i : Nat) (X : List Int) (w : World) (hx : X.length = n) (hz : a = none → n = 0 ∧ c = 0) (hr : Row w w.heap.size a X) (hn : n ≤ 1048576)
    (hi : ¬ i < n) :
    Calls Trym.prog 3 #[.slice a n c, .int .i64 i] w fun e w' => e = .returned (.bool true) ∧ Below w.heap.size w w' := by
  have L : Hid (X.length = n) := hx
  clear hx
  have hnil := fun (wx : World) => Lib.run_eql_slice_nil (P := Trym.prog) wx 22 5 none 0 0 0 0 Trym.underlying22
  go_enter Trym.func3, Trym.ntmps3
  go_wp2_with (first
    | (go_at_call 10; refine (zz10 _ _ _ _ _ hn).mono ?_; rintro e w' ⟨rfl, rfl⟩)
    | (go_at_call 11; refine (clone_any a n c X _ hz hn L.out hr).mono ?_; rintro e w1 ⟨a', cap', rfl, hcap, hr1, hb1⟩)
    | (go_at_call 12; refine (zztext_no n cap' i _ a' X _ L.out hr1 (fun h => absurd h hi)).mono ?_; rintro e w2 ⟨rfl, hb2⟩))
  go_ret
  exact ⟨rfl, hb1.trans (hb2.mono hb1.size)⟩

set_option maxHeartbeats 1000000 in
/-- Another byte stands at i. -/
theorem walk3_other (a : Option Addr) (n c i : Nat) (d : Int) (X : List Int) (w : World) (hx : X.length = n) (hz : a = none → n = 0 ∧ c = 0) (hr : Row w w.heap.size a X) (hn : n ≤ 1048576)
    (hi : i < n) (hd : X.getD i 0 = d) (hno : (d == 34) = false) :
    Calls Trym.prog 3 #[.slice a n c, .int .i64 i] w fun e w' => e = .returned (.bool true) ∧ Below w.heap.size w w' := by
  have L : Hid (X.length = n ∧ X.getD i 0 = d) := ⟨hx, hd⟩
  have hno2 : (d != 34) = true := by simp [bne, hno]
  clear hx hd
  have hnil := fun (wx : World) => Lib.run_eql_slice_nil (P := Trym.prog) wx 22 5 none 0 0 0 0 Trym.underlying22
  go_enter Trym.func3, Trym.ntmps3
  go_wp2_with (first
    | (go_at_call 10; refine (zz10 _ _ _ _ _ hn).mono ?_; rintro e w' ⟨rfl, rfl⟩)
    | (go_at_call 11; refine (clone_any a n c X _ hz hn L.out.1 hr).mono ?_; rintro e w1 ⟨a', cap', rfl, hcap, hr1, hb1⟩)
    | (go_at_call 12; refine (zztext_no n cap' i _ a' X _ L.out.1 hr1 (fun _ => by rw [L.out.2]; exact hno)).mono ?_; rintro e w2 ⟨rfl, hb2⟩; obtain ⟨b, o, rfl, hbb, hc, hall⟩ := (hr1.below hb2).get L.out.1 hi; rw [L.out.2] at hc; clear hall))
  go_ret
  exact ⟨rfl, hb1.trans (hb2.mono hb1.size)⟩

theorem sub_row {w : World} {B b o i r n : Nat} {X : List Int} (hx : X.length = n) (hb : b < B) (hi : i + 1 ≤ r) (hr : r ≤ n) (hall : ∀ j, j < n → w.cell? ⟨b, o + j, none⟩ = some (.int .u8 (X.getD j 0))) :
    ((X.drop (i + 1)).take (r - (i + 1))).length = r - (i + 1) ∧ Row w B (some ⟨b, o + (i + 1), none⟩) ((X.drop (i + 1)).take (r - (i + 1))) := by
  have hl : ((X.drop (i + 1)).take (r - (i + 1))).length = r - (i + 1) := by simp; omega
  refine ⟨hl, Row.of_cells hb fun j hj => ?_⟩
  rw [hl] at hj
  have h1 := hall (i + 1 + j) (by omega)
  rw [← Nat.add_assoc] at h1
  rw [h1]
  simp [List.getD, hj]

set_option maxHeartbeats 1000000 in
/-- A quote stands at i. -/
theorem walk3_yes (a : Option Addr) (n c i : Nat) (X : List Int) (w : World) (hx : X.length = n) (hz : a = none → n = 0 ∧ c = 0) (hr : Row w w.heap.size a X) (hn : n ≤ 1048576)
    (hi : i < n) (hq : X.getD i 0 = 34) :
    Calls Trym.prog 3 #[.slice a n c, .int .i64 i] w fun e w' => e = .returned (.bool true) ∧ Below w.heap.size w w' := by
  have L : Hid (X.length = n ∧ X.getD i 0 = 34) := ⟨hx, hq⟩
  clear hx hq
  have hm : n ≤ maxLen := by unfold maxLen; omega
  have hnil := fun (wx : World) => Lib.run_eql_slice_nil (P := Trym.prog) wx 22 5 none 0 0 0 0 Trym.underlying22
  go_enter Trym.func3, Trym.ntmps3
  go_wp2_with (first
    | (go_at_call 10; refine (zz10 _ _ _ _ _ hn).mono ?_; rintro e w' ⟨rfl, rfl⟩)
    | (go_at_call 11; refine (clone_any a n c X _ hz hn L.out.1 hr).mono ?_; rintro e w1 ⟨a', cap', rfl, hcap, hr1, hb1⟩; obtain ⟨b, o, rfl, hbb, hc1, hall⟩ := hr1.get L.out.1 hi))
  refine (zztext_yes b o n cap' i X w1 hm hcap hbb L.out.1 hall hi L.out.2).mono ?_
  rintro e w2 ⟨r, hF, hb2, h⟩
  have B2 : Below w.heap.size w w2 := hb1.trans (hb2.mono hb1.size)
  have R2 : Row w2 w1.heap.size (some ⟨b, o, none⟩) X := hr1.below hb2
  have hc2 : w2.cell? ⟨b, o + i, none⟩ = some (.int .u8 34) := by rw [hb2.cell (p := ⟨b, o + i, none⟩) hbb, hc1, L.out.2]
  have hall2 : Hid (∀ j, j < n → w2.cell? ⟨b, o + j, none⟩ = some (.int .u8 (X.getD j 0))) := fun j hj => (hb2.cell (p := ⟨b, o + j, none⟩) hbb).trans (hall j hj)
  have HF : Hid (IsFirst stops X (i + 1) r) := hF
  have hlo := hF.lo
  have hhi := hF.hi
  rw [L.out.1] at hhi
  clear hall hF hb1 hb2 hr1 hc1 hr hz
  rcases h with ⟨h1, h2, rfl⟩ | ⟨h1, rfl⟩
  · have H : Hid (r < n ∧ X.getD r 0 = 34) := ⟨h1, h2⟩
    clear h2
    go_wp2_with (first
      | (go_at_call 13; refine (first_succ _ _ i _ _ _ X _ hm L.out.1 R2 hi).mono ?_; rintro e w' ⟨q, hq, rfl, rfl⟩)
      | (go_at_call 14; refine (unplain_succ _ _ i _ _ X _ hm L.out.1 R2 hi).mono ?_; rintro e w' ⟨bad, hbad, rfl, rfl⟩; have hqb : q < bad := (by refine Nat.lt_of_not_le fun hle => ?_; have := (two_law hq hbad HF.out).2 (by omega); exact this.2 (by rw [L.out.1]; exact H.out.1) H.out.2); obtain rfl : r = q := ((two_law hq hbad HF.out).1 hqb).1)
      | (go_at_call 15; refine (same_eq2 _ _ _ _ _ _ w1.heap.size ((X.drop (i + 1)).take (r - (i + 1))) _ ?_ ?_ ?_ ?_ ?_).mono ?_; rotate_right; rintro e w' ⟨rfl, m7, rfl⟩))
    · go_ret
      exact ⟨rfl, drewN_below B2 _⟩
    · exact (sub_row L.out.1 hbb hlo hhi hall2.out).1
    · exact (sub_row L.out.1 hbb hlo hhi hall2.out).1
    · unfold maxLen; omega
    · exact (sub_row L.out.1 hbb hlo hhi hall2.out).2
    · exact (sub_row L.out.1 hbb hlo hhi hall2.out).2
  · have H : Hid (r < n → X.getD r 0 ≠ 34) := h1
    clear h1
    go_wp2_with (first
      | (go_at_call 13; refine (first_succ _ _ i _ _ _ X _ hm L.out.1 R2 hi).mono ?_; rintro e w' ⟨q, hq, rfl, rfl⟩)
      | (go_at_call 14; refine (unplain_succ _ _ i _ _ X _ hm L.out.1 R2 hi).mono ?_; rintro e w' ⟨bad, hbad, rfl, rfl⟩; have hqb : ¬ q < bad := (by intro hlt; have := (two_law hq hbad HF.out).1 hlt; exact H.out (by have := this.2.2; rw [L.out.1] at this; exact this) this.2.1); obtain rfl : r = bad := ((two_law hq hbad HF.out).2 hqb).1))
    go_ret
    exact ⟨rfl, B2⟩

set_option maxHeartbeats 400000 in
theorem walk3_big (a : Option Addr) (n c : Nat) (i : Int) (w : World) (h : ¬ n ≤ 1048576) :
    Calls Trym.prog 3 #[.slice a n c, .int .i64 i] w fun e w' => e = .returned (.bool true) ∧ Below w.heap.size w w' := by
  go_enter Trym.func3, Trym.ntmps3
  go_wp2_with (go_at_call 10; refine (zz10_no _ _ _ _ _ h).mono ?_; rintro e w' ⟨rfl, rfl⟩)
  go_ret
  exact ⟨rfl, Below.refl _ _⟩

set_option maxHeartbeats 400000 in
theorem walk3_neg (a : Option Addr) (n c : Nat) (i : Int) (w : World) (h : n ≤ 1048576) (hi : i < 0) :
    Calls Trym.prog 3 #[.slice a n c, .int .i64 i] w fun e w' => e = .returned (.bool true) ∧ Below w.heap.size w w' := by
  go_enter Trym.func3, Trym.ntmps3
  go_wp2_with (go_at_call 10; refine (zz10 _ _ _ _ _ h).mono ?_; rintro e w' ⟨rfl, rfl⟩)
  go_ret
  exact ⟨rfl, Below.refl _ _⟩

theorem walk3_all (a : Option Addr) (n c : Nat) (i : Int) (X : List Int) (w : World) (hx : X.length = n) (hz : a = none → n = 0 ∧ c = 0) (hr : Row w w.heap.size a X) :
    Calls Trym.prog 3 #[.slice a n c, .int .i64 i] w fun e w' => e = .returned (.bool true) ∧ Below w.heap.size w w' := by
  by_cases h : n ≤ 1048576
  · by_cases hi : i < 0
    · exact walk3_neg a n c i w h hi
    · obtain ⟨k, rfl⟩ : ∃ k : Nat, i = k := ⟨i.toNat, by omega⟩
      by_cases hk : k < n
      · by_cases hq : X.getD k 0 = 34
        · exact walk3_yes a n c k X w hx hz hr h hk hq
        · exact walk3_other a n c k _ X w hx hz hr h hk rfl (by simpa using hq)
      · exact walk3_end a n c k X w hx hz hr h hk
  · exact walk3_big a n c i w h

end Go.Proofs.Qxb6602058aMods
