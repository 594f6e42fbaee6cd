import Derived.Test.Qxb6602058aModsNext
import Derived.Test.Qxb6602058aModsClone
namespace Go.Proofs.Qxb6602058aMods
open Go.RowKit
set_option linter.unusedSimpArgs false
set_option linter.unusedVariables false

theorem white_44 {c : Int} (h : white c = true) : c ≠ 44 := by simp [white] at h; omega

/-- What next passed: r is the comma's place (the end where there is none). -/
structure Passed (xs : List Int) (i : Nat) (ok : Bool) (ni r : Nat) : Prop where
  lo : i ≤ ni
  hi : ni ≤ xs.length
  at_ : ∀ k, i ≤ k → k < ni → k = r → xs.getD k 0 = 44
  off : ∀ k, i ≤ k → k < ni → k ≠ r → white (xs.getD k 0) = true
  yes : ok = true → i ≤ r ∧ r < ni
  no : ok = false → r = ni
  stop : ni < xs.length → white (xs.getD ni 0) = false
  fin : ok = false → ni < xs.length → xs.getD ni 0 ≠ 44

theorem passed_of {xs : List Int} {i ni : Nat} {ok : Bool} (h : NextTo xs i ok ni) (hi : i ≤ xs.length) : ∃ r, Passed xs i ok ni r := by
  obtain ⟨r, hs, ⟨h1, h2, rfl, h3⟩ | ⟨h1, rfl, rfl⟩⟩ := h
  · have a1 := hs.lo
    have a2 := h3.lo
    have hn : ni ≤ xs.length := by
      by_cases e : ni = r + 1
      · omega
      · have := (h3.all (ni - 1) (by omega) (by omega)).1; omega
    refine ⟨r, by omega, hn, fun k _ _ e => by rw [e]; exact h2, fun k hk1 hk2 e => ?_, fun _ => ⟨a1, by omega⟩, (fun h => by cases h), h3.stop, (fun h => by cases h)⟩
    by_cases hkr : k < r
    · exact (hs.all k hk1 hkr).2
    · exact (h3.all k (by omega) hk2).2
  · have a1 := hs.lo
    have hn : ni ≤ xs.length := by
      by_cases e : ni = i
      · omega
      · have := (hs.all (ni - 1) (by omega) (by omega)).1; omega
    exact ⟨ni, a1, hn, fun k _ hk e => by omega, fun k hk1 hk2 e => (hs.all k hk1 hk2).2, (fun h => by cases h), fun _ => rfl, hs.stop, fun _ => h1⟩

theorem past_end {xs : List Int} {i ni : Nat} {ok : Bool} (h : NextTo xs i ok ni) (hi : ¬ i < xs.length) : ok = false ∧ ni = i := by
  obtain ⟨r, hs, ⟨h1, h2, rfl, h3⟩ | ⟨h1, rfl, rfl⟩⟩ := h
  · have := hs.lo; omega
  · refine ⟨rfl, ?_⟩
    have := hs.lo
    by_cases e : ni = i
    · exact e
    · have := (hs.all i (Nat.le_refl _) (by omega)).1; omega

set_option maxHeartbeats 400000 in
theorem zz22 (a0 : Option Addr) (n0 c0 : Nat) (i : Int) (w : World) (h : n0 ≤ 1048576) :
    Calls Trym.prog 22 #[.slice a0 n0 c0, .int .i64 i] w fun e w' => e = .returned (.bool true) ∧ w = w' := by
  go_enter Trym.func22, Trym.ntmps22
  go_wp2
  go_ret
  exact ⟨rfl, rfl⟩

set_option maxHeartbeats 400000 in
theorem zz22_no (a0 : Option Addr) (n0 c0 : Nat) (i : Int) (w : World) (h : ¬ n0 ≤ 1048576) :
    Calls Trym.prog 22 #[.slice a0 n0 c0, .int .i64 i] w fun e w' => e = .returned (.bool false) ∧ w = w' := by
  go_enter Trym.func22, Trym.ntmps22
  go_wp2
  go_ret
  exact ⟨rfl, rfl⟩

set_option maxHeartbeats 400000 in
theorem walk8_big (a : Option Addr) (n c : Nat) (i : Int) (w : World) (h : ¬ n ≤ 1048576) :
    Calls Trym.prog 8 #[.slice a n c, .int .i64 i] w fun e w' => e = .returned (.bool true) ∧ Below w.heap.size w w' := by
  go_enter Trym.func8, Trym.ntmps8
  go_wp2_with (go_at_call 22; refine (zz22_no _ _ _ _ _ h).mono ?_; rintro e w' ⟨rfl, rfl⟩)
  go_ret
  exact ⟨rfl, Below.refl _ _⟩

set_option maxHeartbeats 400000 in
theorem walk8_neg (a : Option Addr) (n c : Nat) (i : Int) (w : World) (h : n ≤ 1048576) (hi : i < 0) :
    Calls Trym.prog 8 #[.slice a n c, .int .i64 i] w fun e w' => e = .returned (.bool true) ∧ Below w.heap.size w w' := by
  go_enter Trym.func8, Trym.ntmps8
  go_wp2_with (go_at_call 22; refine (zz22 _ _ _ _ _ h).mono ?_; rintro e w' ⟨rfl, rfl⟩)
  go_ret
  exact ⟨rfl, Below.refl _ _⟩

set_option maxHeartbeats 1000000 in
theorem walk8_end (a : Option Addr) (n c i : Nat) (X : List Int) (w : World) (hx : X.length = n) (hz : a = none → n = 0 ∧ c = 0) (hr : Row w w.heap.size a X) (hn : n ≤ 1048576)
    (hi : ¬ i < n) :
    Calls Trym.prog 8 #[.slice a n c, .int .i64 i] w fun e w' => e = .returned (.bool true) ∧ Below w.heap.size w w' := by
  have L : Hid (X.length = n) := hx
  clear hx
  have hm : n ≤ maxLen := by unfold maxLen; omega
  go_enter Trym.func8, Trym.ntmps8
  go_wp2_with (first
    | (go_at_call 22; refine (zz22 _ _ _ _ _ hn).mono ?_; rintro e w' ⟨rfl, rfl⟩)
    | (go_at_call 11; refine (clone_any a n c X _ hz hn L.out hr).mono ?_; rintro e w1 ⟨a', cap', rfl, hcap, hr1, hb1⟩)
    | (go_at_call 23; refine (zznext_any n cap' i a' X _ hm L.out hr1).mono ?_; rintro e w2 ⟨ok, ni, hnx, rfl, hb2⟩; obtain ⟨rfl, rfl⟩ := past_end hnx (by rw [L.out]; exact hi)))
  go_ret
  exact ⟨rfl, hb1.trans (hb2.mono hb1.size)⟩

set_option maxHeartbeats 1000000 in
theorem walk8_in (a : Option Addr) (n c i : Nat) (X : List Int) (w : World) (hx : X.length = n) (hz : a = none → n = 0 ∧ c = 0) (hr : Row w w.heap.size a X) (hn : n ≤ 1048576)
    (hi : i < n) :
    Calls Trym.prog 8 #[.slice a n c, .int .i64 i] w fun e w' => e = .returned (.bool true) ∧ Below w.heap.size w w' := by
  have L : Hid (X.length = n) := hx
  clear hx
  have hm : n ≤ maxLen := by unfold maxLen; omega
  go_enter Trym.func8, Trym.ntmps8
  go_wp2_with (first
    | (go_at_call 22; refine (zz22 _ _ _ _ _ hn).mono ?_; rintro e w' ⟨rfl, rfl⟩)
    | (go_at_call 11; refine (clone_any a n c X _ hz hn L.out hr).mono ?_; rintro e w1 ⟨a', cap', rfl, hcap, hr1, hb1⟩))
  refine (zznext_any n cap' i a' X _ hm L.out hr1).mono ?_
  rintro e w2 ⟨ok, ni, hnx, rfl, hb2⟩
  obtain ⟨r, hp⟩ := passed_of hnx (by rw [L.out]; omega)
  have B2 : Below w.heap.size w w2 := hb1.trans (hb2.mono hb1.size)
  obtain ⟨b, o, hae, hcells⟩ : ∃ b o, a' = some ⟨b, o, none⟩ ∧ ∀ j, j < n → w2.cell? ⟨b, o + j, none⟩ = some (.int .u8 (X.getD j 0)) := by
    rcases hr1.below hb2 with rfl | ⟨b, o, rfl, _, hc⟩
    · have := L.out; simp at this; omega
    · exact ⟨b, o, rfl, fun j hj => hc j (by rw [L.out]; exact hj)⟩
  subst hae
  have HP : Hid (Passed X i ok ni r) := hp
  have HCs : Hid (∀ j, j < n → w2.cell? ⟨b, o + j, none⟩ = some (.int .u8 (X.getD j 0))) := hcells
  have hlo := hp.lo
  have hhi := hp.hi
  rw [L.out] at hhi
  clear hnx hp hcells hb1 hb2 hr1 hr hz
  have d1 : decide (ni < i) = false := by simpa using hlo
  have d2 : decide (n < ni) = false := by simpa using hhi
  have d3 : decide (n ≤ i) = false := by simpa using hi
  go_wp2
  go_loopg [7, 8, 9] (ni - i) (fun gn cm kk _ wr => ∃ k m : Nat, gn = ni - k ∧ i ≤ k ∧ k ≤ ni ∧ kk = .int .i64 k ∧ m = (if r < k then 1 else 0) ∧ cm = .int .i64 m ∧ wr = w2)
  case atStart => 
    have hir : i ≤ r := by
      cases ok
      · have := HP.out.no rfl; omega
      · exact (HP.out.yes rfl).1
    exact ⟨i, 0, rfl, Nat.le_refl _, hlo, rfl, by rw [if_neg (by omega)], rfl, rfl⟩
  case round =>
    obtain ⟨k, m, hgk, hik, hkn, rfl, hmv, rfl, hwr⟩ := hrel
    subst hwr
    have HG : Hid (gk = ni - k) := hgk
    clear hgk
    have HM : Hid (m = (if r < k then 1 else 0)) := hmv
    have hm1 : m ≤ 1 := by rw [hmv]; split <;> omega
    clear hmv
    by_cases hlt : k < ni
    · have hcell := HCs.out k (by omega)
      by_cases hkr : k = r
      · rw [HP.out.at_ k hik hlt hkr] at hcell
        have hm0 : m = 0 := by rw [HM.out, if_neg (by omega)]
        subst hm0
        subst hkr
        go_wp2
        go_roundg (ni - (k + 1))
        case rel => exact ⟨k + 1, 1, rfl, by omega, by omega, by go_num, by rw [if_pos (by omega)], by go_num, rfl⟩
        case measure => rw [HG.out]; omega
      · have hw := HP.out.off k hik hlt hkr
        generalize X.getD k 0 = d at hcell hw
        have h44 : (d == 44) = false := by simpa using white_44 hw
        have hcon : ∀ wx, Calls Trym.prog 24 #[.int .u8 d] wx fun e w' => e = .returned (.bool true) ∧ wx = w' := fun wx => by rw [← hw]; exact bwhite_any d wx
        clear hw
        go_wp2_with (go_at_call 24; refine (hcon _).mono ?_; rintro e w' ⟨rfl, rfl⟩)
        go_roundg (ni - (k + 1))
        case rel => exact ⟨k + 1, m, rfl, by omega, by omega, by go_num, by rw [HM.out]; congr 1; simp; omega, rfl, rfl⟩
        case measure => rw [HG.out]; omega
    · have hke : k = ni := by omega
      subst hke
      cases ok
      · have hm0 : m = 0 := by rw [HM.out, if_neg (by have := HP.out.no rfl; omega)]
        subst hm0
        by_cases hend : k < n
        · have hcell := HCs.out k hend
          have hw := HP.out.stop (by rw [L.out]; exact hend)
          have hf := HP.out.fin rfl (by rw [L.out]; exact hend)
          generalize X.getD k 0 = d at hcell hw hf
          have h44 : (d == 44) = false := by simpa using hf
          have hcon : ∀ wx, Calls Trym.prog 24 #[.int .u8 d] wx fun e w' => e = .returned (.bool false) ∧ wx = w' := fun wx => by rw [← hw]; exact bwhite_any d wx
          clear hw hf
          go_wp2_with (go_at_call 24; refine (hcon _).mono ?_; rintro e w' ⟨rfl, rfl⟩)
          go_ret
          exact ⟨rfl, B2⟩
        · have hd : decide ((k : Int) < (n : Int)) = false := by simpa using hend
          go_wp2
          go_ret
          exact ⟨rfl, B2⟩
      · have hm0 : m = 1 := by rw [HM.out, if_pos (HP.out.yes rfl).2]
        subst hm0
        by_cases hend : k < n
        · have hcell := HCs.out k hend
          have hw := HP.out.stop (by rw [L.out]; exact hend)
          generalize X.getD k 0 = d at hcell hw
          have hcon : ∀ wx, Calls Trym.prog 24 #[.int .u8 d] wx fun e w' => e = .returned (.bool false) ∧ wx = w' := fun wx => by rw [← hw]; exact bwhite_any d wx
          clear hw
          go_wp2_with (go_at_call 24; refine (hcon _).mono ?_; rintro e w' ⟨rfl, rfl⟩)
          go_ret
          exact ⟨rfl, B2⟩
        · have hd : decide ((k : Int) < (n : Int)) = false := by simpa using hend
          go_wp2
          go_ret
          exact ⟨rfl, B2⟩

theorem walk8_all (a : Option Addr) (n c : Nat) (i : Int) (X : List Int) (w : World) (hx : X.length = n) (hz : a = none → n = 0 ∧ c = 0) (hr : Row w w.heap.size a X) :
    Calls Trym.prog 8 #[.slice a n c, .int .i64 i] w fun e w' => e = .returned (.bool true) ∧ Below w.heap.size w w' := by
  by_cases h : n ≤ 1048576
  · by_cases hi : i < 0
    · exact walk8_neg a n c i w h hi
    · obtain ⟨k, rfl⟩ : ∃ k : Nat, i = k := ⟨i.toNat, by omega⟩
      by_cases hk : k < n
      · exact walk8_in a n c k X w hx hz hr h hk
      · exact walk8_end a n c k X w hx hz hr h hk
  · exact walk8_big a n c i w h

end Go.Proofs.Qxb6602058aMods
