import Derived.Test.Qxb6602058aModsShape
namespace Go.Proofs.Qxb6602058aMods
open Go.RowKit
set_option linter.unusedSimpArgs false
set_option linter.unusedVariables false

/-- How many commas. -/
def cnt : List Int → Nat
  | [] => 0
  | c :: t => (if c = 44 then 1 else 0) + cnt t

theorem cnt_le (l : List Int) : cnt l ≤ l.length := by
  induction l with
  | nil => simp [cnt]
  | cons c t ih => simp only [cnt, List.length_cons]; split <;> omega

theorem cnt_append (a b : List Int) : cnt (a ++ b) = cnt a + cnt b := by
  induction a with
  | nil => simp [cnt]
  | cons c t ih => simp only [List.cons_append, cnt, ih]; omega

theorem cnt_take_succ {X : List Int} {k : Nat} (h : k < X.length) : cnt (X.take (k + 1)) = cnt (X.take k) + (if X.getD k 0 = 44 then 1 else 0) := by
  rw [List.take_succ_eq_append_getElem h, cnt_append]
  simp [cnt, List.getD, h]

theorem cnt_drop {X : List Int} {k : Nat} (h : k < X.length) : cnt (X.drop k) = (if X.getD k 0 = 44 then 1 else 0) + cnt (X.drop (k + 1)) := by
  rw [List.drop_eq_getElem_cons h]
  simp [cnt, List.getD, h]

theorem cnt_drop_white {X : List Int} {i r : Nat} (hr : r ≤ X.length) (h : ∀ k, i ≤ k → k < r → white (X.getD k 0) = true) (hi : i ≤ r) : cnt (X.drop i) = cnt (X.drop r) := by
  obtain ⟨d, rfl⟩ : ∃ d, r = i + d := ⟨r - i, by omega⟩
  clear hi
  induction d generalizing i with
  | zero => rfl
  | succ d ih =>
    rw [cnt_drop (by omega), if_neg (white_44 (h i (Nat.le_refl _) (by omega)))]
    rw [ih (i := i + 1) (by omega) (fun k h1 h2 => h k (by omega) (by omega))]
    rw [Nat.zero_add, Nat.add_assoc, Nat.add_comm 1 d]

/-- Where next answers yes it passes one comma. -/
theorem cnt_yes {X : List Int} {i ni r : Nat} (h : Passed X i true ni r) : cnt (X.drop i) = 1 + cnt (X.drop ni) ∧ i < ni := by
  obtain ⟨h1, h2⟩ := h.yes rfl
  have hhi := h.hi
  refine ⟨?_, by omega⟩
  rw [cnt_drop_white (r := r) (by omega) (fun k a b => h.off k a (by omega) (by omega)) h1]
  rw [cnt_drop (by omega), if_pos (h.at_ r h1 h2 rfl)]
  rw [cnt_drop_white (i := r + 1) (r := ni) hhi (fun k a b => h.off k (by omega) b (by omega)) (by omega)]

/-- Where it answers no, in a body of white space and commas, none is left. -/
theorem cnt_no {X : List Int} {i ni r : Nat} (h : Passed X i false ni r) (ha : ∀ k, k < X.length → X.getD k 0 = 44 ∨ white (X.getD k 0) = true) : cnt (X.drop i) = 0 ∧ ni = X.length := by
  have hr := h.no rfl
  have hhi := h.hi
  have e : ni = X.length := by
    refine Nat.le_antisymm hhi (Nat.le_of_not_lt fun hlt => ?_)
    rcases ha ni hlt with h1 | h1
    · exact h.fin rfl hlt h1
    · rw [h.stop hlt] at h1; cases h1
  refine ⟨?_, e⟩
  rw [cnt_drop_white (r := ni) hhi (fun k a b => h.off k a b (by omega)) h.lo, e]
  simp [cnt]

set_option maxHeartbeats 400000 in
theorem zz25 (a0 : Option Addr) (n0 c0 : Nat) (w : World) (h : n0 ≤ 1048576) :
    Calls Trym.prog 25 #[.slice a0 n0 c0] w fun e w' => e = .returned (.bool true) ∧ w = w' := by
  go_enter Trym.func25, Trym.ntmps25
  go_wp2
  go_ret
  exact ⟨rfl, rfl⟩

set_option maxHeartbeats 400000 in
theorem zz25_no (a0 : Option Addr) (n0 c0 : Nat) (w : World) (h : ¬ n0 ≤ 1048576) :
    Calls Trym.prog 25 #[.slice a0 n0 c0] w fun e w' => e = .returned (.bool false) ∧ w = w' := by
  go_enter Trym.func25, Trym.ntmps25
  go_wp2
  go_ret
  exact ⟨rfl, rfl⟩

set_option maxHeartbeats 400000 in
theorem walk9_big (a : Option Addr) (n c : Nat) (w : World) (h : ¬ n ≤ 1048576) :
    Calls Trym.prog 9 #[.slice a n c] w fun e w' => e = .returned (.bool true) ∧ Below w.heap.size w w' := by
  go_enter Trym.func9, Trym.ntmps9
  go_wp2_with (go_at_call 25; refine (zz25_no _ _ _ _ h).mono ?_; rintro e w' ⟨rfl, rfl⟩)
  go_ret
  exact ⟨rfl, Below.refl _ _⟩

set_option maxHeartbeats 1000000 in
theorem walk9 (a : Option Addr) (n c : Nat) (X : List Int) (w : World) (hx : X.length = n) (hz : a = none → n = 0 ∧ c = 0) (hr : Row w w.heap.size a X) (hn : n ≤ 1048576) :
    Calls Trym.prog 9 #[.slice a n c] w fun e w' => e = .returned (.bool true) ∧ Below w.heap.size w w' := by
  have L : Hid (X.length = n) := hx
  clear hx
  have hm : n ≤ maxLen := by unfold maxLen; omega
  go_enter Trym.func9, Trym.ntmps9
  go_wp2_with (go_at_call 25; refine (zz25 _ _ _ _ hn).mono ?_; rintro e w' ⟨rfl, rfl⟩)
  go_loopg [3, 4, 5] n (fun gn cm kk _ wr => ∃ k m : Nat, gn = n - k ∧ k ≤ n ∧ kk = .int .i64 k ∧ m = cnt (X.take k) ∧ cm = .int .i64 m ∧ wr = w ∧ ∀ j, j < k → X.getD j 0 = 44 ∨ white (X.getD j 0) = true)
  case atStart => exact ⟨0, 0, rfl, Nat.zero_le _, rfl, rfl, rfl, rfl, fun j hj => by omega⟩
  case round =>
    obtain ⟨k, m, hgk, hkn, rfl, hmv, rfl, hwr, hall⟩ := hrel
    subst hwr
    have HA : Hid (gk = n - k ∧ m = cnt (X.take k) ∧ ∀ j, j < k → X.getD j 0 = 44 ∨ white (X.getD j 0) = true) := ⟨hgk, hmv, hall⟩
    have hmk : m ≤ k := by rw [hmv]; exact Nat.le_trans (cnt_le _) (List.length_take_le _ _)
    clear hgk hmv hall
    by_cases hlt : k < n
    · obtain ⟨b, o, hae, hcell⟩ : ∃ b o, a = some ⟨b, o, none⟩ ∧ wr.cell? ⟨b, o + k, none⟩ = some (.int .u8 (X.getD k 0)) := by
        rcases hr with rfl | ⟨b, o, rfl, _, hc⟩
        · have := L.out; simp at this; omega
        · exact ⟨b, o, rfl, hc k (by rw [L.out]; exact hlt)⟩
      subst hae
      have hcs := cnt_take_succ (X := X) (k := k) (by rw [L.out]; exact hlt)
      obtain ⟨d, hd⟩ : ∃ d, X.getD k 0 = d := ⟨_, rfl⟩
      rw [hd] at hcell hcs
      have HD : Hid (X.getD k 0 = d ∧ cnt (X.take (k + 1)) = cnt (X.take k) + (if d = 44 then 1 else 0)) := ⟨hd, hcs⟩
      clear hd hcs
      by_cases h44 : d = 44
      · subst h44
        go_wp2
        go_roundg (n - (k + 1))
        case measure => rw [HA.out.1]; omega
        case rel =>
          refine ⟨k + 1, m + 1, rfl, by omega, by go_num, by rw [HD.out.2, HA.out.2.1]; simp, by go_num, rfl, fun j hj => ?_⟩
          by_cases e : j = k
          · subst e; exact .inl HD.out.1
          · exact HA.out.2.2 j (by omega)
      · have h44' : (d == 44) = false := by simpa using h44
        have H44 : Hid (¬ d = 44) := h44
        clear h44
        cases hw : white d
        · have hcon : ∀ wx, Calls Trym.prog 24 #[.int .u8 d] wx fun e w' => e = .returned (.bool false) ∧ wx = w' := fun wx => by rw [← hw]; exact bwhite_any d wx
          clear hw
          go_wp2_with (go_at_call 24; refine (hcon _).mono ?_; rintro e w' ⟨rfl, rfl⟩)
          go_ret
          exact ⟨rfl, Below.refl _ _⟩
        · have hcon : ∀ wx, Calls Trym.prog 24 #[.int .u8 d] wx fun e w' => e = .returned (.bool true) ∧ wx = w' := fun wx => by rw [← hw]; exact bwhite_any d wx
          have HW : Hid (white d = true) := hw
          clear hw
          go_wp2_with (go_at_call 24; refine (hcon _).mono ?_; rintro e w' ⟨rfl, rfl⟩)
          go_roundg (n - (k + 1))
          case measure => rw [HA.out.1]; omega
          case rel =>
            refine ⟨k + 1, m, rfl, by omega, by go_num, by rw [HD.out.2, HA.out.2.1]; simp [H44.out], rfl, rfl, fun j hj => ?_⟩
            by_cases e : j = k
            · subst e; exact .inr (by rw [HD.out.1]; exact HW.out)
            · exact HA.out.2.2 j (by omega)
    · have hke : k = n := by omega
      subst hke
      have hmX : m = cnt X := by rw [HA.out.2.1, List.take_of_length_le (by rw [L.out]; omega)]
      have HM : Hid (m = cnt X ∧ ∀ j, j < X.length → X.getD j 0 = 44 ∨ white (X.getD j 0) = true) := ⟨hmX, fun j hj => HA.out.2.2 j (by rw [L.out] at hj; exact hj)⟩
      clear hmX HA
      go_wp2_with (go_at_call 11; refine (clone_any a k c X _ hz hn L.out hr).mono ?_; rintro e w1 ⟨a', cap', rfl, hcap, hr1, hb1⟩)
      go_loopg [6, 7, 8, 9, 10] (k + 1) (fun gn ps ct st _ _ wr2 => ∃ p s : Nat, gn = k + 1 - s ∧ p ≤ k ∧ s ≤ k ∧ ps = .int .i64 p ∧ ct = .int .i64 s ∧ st = .int .i64 s ∧ s + cnt (X.drop p) = m ∧ Below w1.heap.size w1 wr2)
      case atStart => exact ⟨0, 0, rfl, Nat.zero_le _, Nat.zero_le _, rfl, rfl, rfl, by simpa using HM.out.1.symm, Below.refl _ _⟩
      case round =>
        obtain ⟨p, s, hgk, hpk, hsk, rfl, rfl, rfl, hsum, hb2⟩ := hrel
        have HS : Hid (gk = k + 1 - s ∧ s + cnt (X.drop p) = m) := ⟨hgk, hsum⟩
        clear hgk hsum
        have r2 : Row wr wr.heap.size a' X := (hr1.below hb2).mono hb2.size
        go_wp2_with fail
        refine (zznext_any k cap' p a' X wr hm L.out r2).mono ?_
        rintro e w3 ⟨ok, ni, hnx, rfl, hb3⟩
        obtain ⟨r, hp⟩ := passed_of hnx (by rw [L.out]; omega)
        have b3 : Below w1.heap.size w1 w3 := hb2.trans (hb3.mono hb2.size)
        have hhi := hp.hi
        rw [L.out] at hhi
        clear hnx hb2 hb3 r2
        cases ok
        · obtain ⟨h1, h2⟩ := cnt_no hp HM.out.2
          have hms : s = m := by have := HS.out.2; omega
          have hni : ni = k := by rw [h2, L.out]
          subst hms hni
          clear h1 h2 hp
          go_wp2
          go_ret
          exact ⟨rfl, hb1.trans (b3.mono hb1.size)⟩
        · obtain ⟨h1, h2⟩ := cnt_yes hp
          have hs1 : s + 1 + cnt (X.drop ni) = m := by have := HS.out.2; omega
          have hsm : s + 1 ≤ k := by omega
          have HS1 : Hid (s + 1 + cnt (X.drop ni) = m) := hs1
          have d1 : decide (ni ≤ p) = false := by simpa using h2
          have d2 : decide (k < ni) = false := by simpa using hhi
          clear h1 hp hs1
          go_wp2
          go_roundg (k + 1 - (s + 1))
          case measure => rw [HS.out.1]; omega
          case rel => exact ⟨ni, s + 1, rfl, hhi, hsm, rfl, by go_num, by go_num, HS1.out, b3⟩

theorem walk9_all (a : Option Addr) (n c : Nat) (X : List Int) (w : World) (hx : X.length = n) (hz : a = none → n = 0 ∧ c = 0) (hr : Row w w.heap.size a X) :
    Calls Trym.prog 9 #[.slice a n c] w fun e w' => e = .returned (.bool true) ∧ Below w.heap.size w w' := by
  by_cases h : n ≤ 1048576
  · exact walk9 a n c X w hx hz hr h
  · exact walk9_big a n c w h

end Go.Proofs.Qxb6602058aMods
