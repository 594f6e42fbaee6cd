import Derived.Test.Qxb6602058aModsTake
namespace Go.Proofs.Qxb6602058aMods
open Go.RowKit
set_option linter.unusedSimpArgs false
set_option linter.unusedVariables false

def white (c : Int) : Bool := c == 32 || c == 9 || c == 10 || c == 13

theorem ret_bool {a b : Bool} (h : a = b) : Ending.returned (.bool a) = .returned (.bool b) := by rw [h]

theorem white_cases {c : Int} (P : Bool → Prop) (h : ∀ b, (b = white c) → P b) : P (white c) := h _ rfl

set_option maxHeartbeats 400000 in
theorem space_yes (c : Int) (w : World) (h : c = 32 ∨ c = 9 ∨ c = 10 ∨ c = 13) :
    Calls Trym.prog 31 #[.int .u8 c] w fun e w' => e = .returned (.bool true) ∧ w' = w := by
  rcases h with rfl | rfl | rfl | rfl
  all_goals
    go_enter Trym.func31, Trym.ntmps31
    go_wp2
    go_ret
    exact ⟨rfl, rfl⟩

set_option maxHeartbeats 400000 in
theorem space_no (c : Int) (w : World) (h1 : (c == 32) = false) (h2 : (c == 9) = false) (h3 : (c == 10) = false) (h4 : (c == 13) = false) :
    Calls Trym.prog 31 #[.int .u8 c] w fun e w' => e = .returned (.bool false) ∧ w' = w := by
  go_enter Trym.func31, Trym.ntmps31
  go_wp2
  go_ret
  exact ⟨rfl, rfl⟩

theorem isspace_any (c : Int) (w : World) : Calls Trym.prog 31 #[.int .u8 c] w fun e w' => e = .returned (.bool (white c)) ∧ w' = w := by
  by_cases h : c = 32 ∨ c = 9 ∨ c = 10 ∨ c = 13
  · have e : white c = true := by simp [white]; omega
    rw [e]; exact space_yes c w h
  · have e : white c = false := by simp [white]; omega
    rw [e]; exact space_no c w (by simp; omega) (by simp; omega) (by simp; omega) (by simp; omega)

set_option maxHeartbeats 400000 in
theorem bwhite_yes (c : Int) (w : World) (h : c = 32 ∨ c = 9 ∨ c = 10 ∨ c = 13) :
    Calls Trym.prog 24 #[.int .u8 c] w fun e w' => e = .returned (.bool true) ∧ w = w' := by
  rcases h with rfl | rfl | rfl | rfl
  all_goals
    go_enter Trym.func24, Trym.ntmps24
    go_wp2
    go_ret
    exact ⟨rfl, rfl⟩

set_option maxHeartbeats 400000 in
theorem bwhite_no (c : Int) (w : World) (h1 : (c == 32) = false) (h2 : (c == 9) = false) (h3 : (c == 10) = false) (h4 : (c == 13) = false) :
    Calls Trym.prog 24 #[.int .u8 c] w fun e w' => e = .returned (.bool false) ∧ w = w' := by
  go_enter Trym.func24, Trym.ntmps24
  go_wp2
  go_ret
  exact ⟨rfl, rfl⟩

theorem bwhite_any (c : Int) (w : World) : Calls Trym.prog 24 #[.int .u8 c] w fun e w' => e = .returned (.bool (white c)) ∧ w = w' := by
  by_cases h : c = 32 ∨ c = 9 ∨ c = 10 ∨ c = 13
  · have e : white c = true := by simp [white]; omega
    rw [e]; exact bwhite_yes c w h
  · have e : white c = false := by simp [white]; omega
    rw [e]; exact bwhite_no c w (by simp; omega) (by simp; omega) (by simp; omega) (by simp; omega)

/-- From i on white space alone stands up to r, where it ends. -/
structure SpaceTo (xs : List Int) (i r : Nat) : Prop where
  lo : i ≤ r
  all : ∀ j, i ≤ j → j < r → j < xs.length ∧ white (xs.getD j 0) = true
  stop : r < xs.length → white (xs.getD r 0) = false

set_option maxHeartbeats 1000000 in
theorem scanspace_any (R n cap i B : Nat) (a : Option Addr) (xs : List Int) (w : World) (hn : n ≤ maxLen) (hx : xs.length = n) (hB : B ≤ R) (hr : Row w B a xs)
    (hsc : Scan w R (.slice a n cap) i) :
    Calls Trym.prog 30 #[.pointer (some ⟨R, 0, none⟩)] w fun e w' => ∃ r, SpaceTo xs i r ∧ e = .returned (.tuple #[]) ∧ Scan w' R (.slice a n cap) (r : Int) ∧ Below R w w' := by
  unfold maxLen at hn
  have HX : Hid (xs.length = n) := hx
  clear hx
  go_enter Trym.func30, Trym.ntmps30
  go_wp2
  go_loopg [] (n - i) (fun k wr => ∃ p : Nat, k = n - p ∧ i ≤ p ∧ (∀ j, i ≤ j → j < p → j < xs.length ∧ white (xs.getD j 0) = true) ∧ Scan wr R (.slice a n cap) (p : Int) ∧ Below R w wr)
  case atStart => exact ⟨i, rfl, Nat.le_refl _, fun j h1 h2 => by omega, hsc, Below.refl _ _⟩
  case round =>
    obtain ⟨p, hk, hip, hall, hsr, hbr⟩ := hrel
    have HK : Hid (gk = n - p ∧ ∀ j, i ≤ j → j < p → j < xs.length ∧ white (xs.getD j 0) = true) := ⟨hk, hall⟩
    clear hk hall
    obtain ⟨c0, c1, f1⟩ := id hsr
    by_cases hlt : p < n
    · obtain ⟨b, o, hae, hc⟩ : ∃ b o, a = some ⟨b, o, none⟩ ∧ wr.cell? ⟨b, o + p, none⟩ = some (.int .u8 (xs.getD p 0)) := by
        rcases hr with rfl | ⟨b, o, rfl, hb, hc⟩
        · have := HX.out; simp at this; omega
        · exact ⟨b, o, rfl, (hbr.cell (p := ⟨b, o + p, none⟩) (Nat.lt_of_lt_of_le hb hB)).trans (hc p (by rw [HX.out]; omega))⟩
      subst hae
      clear hr
      obtain ⟨c, hce⟩ : ∃ c, xs.getD p 0 = c := ⟨_, rfl⟩
      have HC : Hid (xs.getD p 0 = c) := hce
      rw [hce] at hc
      clear hce
      cases hwc : white c
      · have hcon : ∀ wx, Calls Trym.prog 31 #[.int .u8 c] wx fun e w' => e = .returned (.bool false) ∧ w' = wx := fun wx => by rw [← hwc]; exact isspace_any c wx
        have HW : Hid (white c = false) := hwc
        clear hwc
        go_wp2
        go_quiet ((go_at_call 31; exact Calls.quiet_of_same (hcon _)))
        go_wp2
        go_end0
        exact ⟨p, ⟨hip, HK.out.2, fun _ => by rw [HC.out]; exact HW.out⟩, rfl, hsr.drewN _, drewN_below hbr _⟩
      · have hcon : ∀ wx, Calls Trym.prog 31 #[.int .u8 c] wx fun e w' => e = .returned (.bool true) ∧ w' = wx := fun wx => by rw [← hwc]; exact isspace_any c wx
        have HW : Hid (white c = true) := hwc
        clear hwc
        go_wp2
        go_quiet ((go_at_call 31; exact Calls.quiet_of_same (hcon _)))
        go_wp2
        go_roundg (n - (p + 1))
        case measure => rw [HK.out.1]; omega
        case rel =>
          refine ⟨p + 1, rfl, by omega, ?_, ((hsr.drewN _).set _).as (by omega), (drewN_below hbr _).setCell (p := ⟨R, 1, none⟩) (Nat.le_refl _) _⟩
          intro j h1 h2
          by_cases hj : j = p
          · subst hj; exact ⟨by rw [HX.out]; exact hlt, by rw [HC.out]; exact HW.out⟩
          · exact HK.out.2 j h1 (by omega)
    · have hd : decide ((p : Int) < (n : Int)) = false := by simpa using hlt
      go_wp2
      go_quiet (fail)
      go_wp2
      go_end0
      exact ⟨p, ⟨hip, HK.out.2, fun h => by rw [HX.out] at h; exact absurd h hlt⟩, rfl, hsr.drewN _, drewN_below hbr _⟩

/-- What plainWalk.next does from i: the white space, a comma if it stands there, the white space behind it. -/
def NextTo (xs : List Int) (i : Nat) (ok : Bool) (ni : Nat) : Prop :=
  ∃ r, SpaceTo xs i r ∧ ((r < xs.length ∧ xs.getD r 0 = 44 ∧ ok = true ∧ SpaceTo xs (r + 1) ni) ∨ ((r < xs.length → xs.getD r 0 ≠ 44) ∧ ok = false ∧ ni = r))

set_option maxHeartbeats 1000000 in
theorem next_any (R n cap i B : Nat) (a : Option Addr) (xs : List Int) (w : World) (hn : n ≤ maxLen) (hx : xs.length = n) (hB : B ≤ R) (hr : Row w B a xs)
    (hsc : Scan w R (.slice a n cap) i) :
    Calls Trym.prog 28 #[.pointer (some ⟨R, 0, none⟩)] w fun e w' => ∃ ok ni, NextTo xs i ok ni ∧ e = .returned (.bool ok) ∧ Scan w' R (.slice a n cap) (ni : Int) ∧ Below R w w' := by
  have HX : Hid (xs.length = n) := hx
  clear hx
  go_enter Trym.func28, Trym.ntmps28
  go_wp2_with fail
  refine (scanspace_any R n cap i B a xs _ hn HX.out hB hr hsc).mono ?_
  rintro e w1 ⟨r, hsp, rfl, hs1, hb1⟩
  have HS : Hid (SpaceTo xs i r) := hsp
  have r1 : Row w1 B a xs := hr.below (hb1.mono hB)
  clear hsp
  by_cases hq : r < n ∧ xs.getD r 0 = 44
  · obtain ⟨hlt, h44⟩ := hq
    obtain ⟨b, o, hae, hc⟩ : ∃ b o, a = some ⟨b, o, none⟩ ∧ w1.cell? ⟨b, o + r, none⟩ = some (.int .u8 44) := by
      rcases r1 with rfl | ⟨b, o, rfl, hb, hc⟩
      · have := HX.out; simp at this; omega
      · exact ⟨b, o, rfl, by rw [hc r (by rw [HX.out]; omega), h44]⟩
    subst hae
    have H44 : Hid (xs.getD r 0 = 44) := h44
    clear h44
    go_wp2_with fail
    refine (take_yes R b o n cap r 44 _ hn hlt hc hs1).mono ?_
    rintro e w2 ⟨rfl, hs2, hb2⟩
    have r2 : Row w2 B (some ⟨b, o, none⟩) xs := r1.below (hb2.mono hB)
    go_wp2_with fail
    refine (scanspace_any R n cap (r + 1) B _ xs _ hn HX.out hB r2 hs2).mono ?_
    rintro e w3 ⟨r3, hsp3, rfl, hs3, hb3⟩
    have HS3 : Hid (SpaceTo xs (r + 1) r3) := hsp3
    clear hsp3
    go_wp2
    go_ret
    exact ⟨true, r3, ⟨r, HS.out, .inl ⟨by rw [HX.out]; exact hlt, H44.out, rfl, HS3.out⟩⟩, rfl, hs3, (hb1.trans hb2).trans hb3⟩
  · have H : Hid (r < n → xs.getD r 0 ≠ 44) := fun h1 h2 => hq ⟨h1, h2⟩
    clear hq
    go_wp2_with fail
    refine (take_no R n cap r a xs 44 _ B HX.out r1 (fun h => by simpa using H.out h) hs1).mono ?_
    rintro e w2 ⟨rfl, hs2, hb2⟩
    go_wp2
    go_ret
    exact ⟨false, r, ⟨r, HS.out, .inr ⟨fun h => H.out (by rw [HX.out] at h; exact h), rfl, rfl⟩⟩, rfl, hs2, hb1.trans hb2⟩

set_option maxHeartbeats 1000000 in
theorem zznext_any (n cap i : Nat) (a : Option Addr) (xs : List Int) (w : World) (hn : n ≤ maxLen) (hx : xs.length = n) (hr : Row w w.heap.size a xs) :
    Calls Trym.prog 23 #[.slice a n cap, .int .i64 i] w fun e w' => ∃ ok ni, NextTo xs i ok ni ∧ e = .returned (.tuple #[.bool ok, .int .i64 ((ni : Nat) : Int)]) ∧ Below w.heap.size w w' := by
  have HX : Hid (xs.length = n) := hx
  clear hx
  go_enter Trym.func23, Trym.ntmps23
  go_wp2_with fail
  refine (next_any w.heap.size n cap i _ a xs _ hn HX.out (Nat.le_refl _) (hr.below ((Below.refl _ _).alloc (Nat.le_refl _) _)) (Scan.new2 _ _ _ _)).mono ?_
  rintro e w' ⟨ok, ni, hnx, rfl, hsc, hbel⟩
  have H : Hid (NextTo xs i ok ni) := hnx
  clear hnx
  obtain ⟨c0, c1, f1⟩ := id hsc
  go_wp2
  go_quiet (fail)
  go_wp2
  go_ret2
  exact ⟨ok, ni, H.out, rfl, drewN_below (((Below.refl _ w).alloc (Nat.le_refl _) _).trans hbel) _⟩

end Go.Proofs.Qxb6602058aMods
