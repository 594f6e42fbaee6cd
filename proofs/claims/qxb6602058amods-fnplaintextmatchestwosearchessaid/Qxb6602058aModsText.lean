import Derived.Test.Qxb6602058aModsTake
namespace Go.Proofs.Qxb6602058aMods
open Go.RowKit
set_option linter.unusedSimpArgs false
set_option linter.unusedVariables false

/-- What plainWalk.text stops at: a quote, a backslash, a control byte. -/
def stops (c : Int) : Bool := c == 34 || c == 92 || decide (c < 32)

set_option maxHeartbeats 400000 in
theorem text_no (R n cap i : Nat) (a : Option Addr) (xs : List Int) (w : World) (B : Nat) (hx : xs.length = n) (hr : Row w B a xs)
    (hno : i < n → (xs.getD i 0 == 34) = false) (hsc : Scan w R (.slice a n cap) i) :
    Calls Trym.prog 26 #[.pointer (some ⟨R, 0, none⟩)] w fun e w' =>
      e = .returned (.tuple #[.slice none 0 0, .bool false]) ∧ Scan w' R (.slice a n cap) i ∧ Below R w w' := by
  have HX : Hid (xs.length = n) := hx
  clear hx
  go_enter Trym.func26, Trym.ntmps26
  go_wp2_with (go_at_call 29; refine (take_no R n cap i a xs 34 _ B HX.out hr hno hsc).mono ?_; rintro e w' ⟨rfl, hsc', hbel'⟩)
  go_ret2
  exact ⟨rfl, hsc', hbel'⟩

set_option maxHeartbeats 1000000 in
theorem text_yes (R b off n cap i : Nat) (xs : List Int) (w : World) (hn : n ≤ maxLen) (hcap : n ≤ cap) (hb : b < R) (hx : xs.length = n)
    (hrow : ∀ j, j < n → w.cell? ⟨b, off + j, none⟩ = some (.int .u8 (xs.getD j 0)))
    (hi : i < n) (hq : xs.getD i 0 = 34) (hsc : Scan w R (.slice (some ⟨b, off, none⟩) n cap) i) :
    Calls Trym.prog 26 #[.pointer (some ⟨R, 0, none⟩)] w fun e w' => ∃ r, IsFirst stops xs (i + 1) r ∧ Below R w w' ∧
      ((r < n ∧ xs.getD r 0 = 34 ∧ e = .returned (.tuple #[.slice (some ⟨b, off + (i + 1), none⟩) (r - (i + 1)) (cap - (i + 1)), .bool true]) ∧ Scan w' R (.slice (some ⟨b, off, none⟩) n cap) ((r + 1 : Nat) : Int)) ∨
       ((r < n → xs.getD r 0 ≠ 34) ∧ e = .returned (.tuple #[.slice none 0 0, .bool false]) ∧ Scan w' R (.slice (some ⟨b, off, none⟩) n cap) (r : Int))) := by
  have hn' := hn
  unfold maxLen at hn
  have HX : Hid (xs.length = n) := hx
  have hqc : w.cell? ⟨b, off + i, none⟩ = some (.int .u8 34) := by rw [hrow i hi, hq]
  clear hx hq
  go_enter Trym.func26, Trym.ntmps26
  go_wp2_with (go_at_call 29; refine (take_yes R b off n cap i 34 _ hn' hi hqc hsc).mono ?_; rintro e w1 ⟨rfl, hsc1, hbel1⟩; obtain ⟨c0, c1, f1⟩ := id hsc1)
  clear c0 c1 f1
  go_loopg [5] (n - (i + 1)) (fun k _ wr => ∃ p : Nat, k + p = n ∧ i + 1 ≤ p ∧ (∀ j, i + 1 ≤ j → j < p → stops (xs.getD j 0) = false) ∧
    Scan wr R (.slice (some ⟨b, off, none⟩) n cap) (p : Int) ∧ Below R w wr)
  case atStart => exact ⟨i + 1, by omega, Nat.le_refl _, fun j h1 h2 => by omega, hsc1, hbel1⟩
  case round =>
    obtain ⟨p, hk, hip, hno, hsr, hbr⟩ := hrel
    have HK : Hid (gk + p = n) := hk
    have HNo : Hid (∀ j, i + 1 ≤ j → j < p → stops (xs.getD j 0) = false) := hno
    have hpn : p ≤ n := by omega
    have hcp : p < n → wr.cell? ⟨b, off + p, none⟩ = some (.int .u8 (xs.getD p 0)) := fun h => (hbr.cell (p := ⟨b, off + p, none⟩) hb).trans (hrow p h)
    clear hk hno hrow hqc
    obtain ⟨c0, c1, f1⟩ := id hsr
    by_cases hlt : p < n
    · have hc := hcp hlt
      clear hcp
      obtain ⟨c, hce⟩ : ∃ c, xs.getD p 0 = c := ⟨_, rfl⟩
      have HC : Hid (xs.getD p 0 = c) := hce
      rw [hce] at hc
      clear hce
      by_cases h34 : c = 34
      · subst h34
        go_wp2
        go_quiet (fail)
        go_wp2
        go_quiet (fail)
        go_wp2
        go_quiet (fail)
        go_wp2
        go_ret2
        refine ⟨p, ⟨hip, by rw [HX.out]; omega, HNo.out, fun _ => by rw [HC.out]; rfl⟩, ?_, .inl ⟨hlt, HC.out, ?_, ?_⟩⟩
        · exact drewN_below ((drewN_below hbr _).setCell (p := ⟨R, 1, none⟩) (Nat.le_refl _) _) _
        · show Ending.returned (.tuple #[.slice _ _ _, .bool true]) = _
          rfl
        · exact (((hsr.drewN _).set _).drewN _).as (by omega)
      · have h34' : (c == 34) = false := by simpa using h34
        have hst : Hid (c ≠ 34) := h34
        clear h34
        by_cases h92 : c = 92
        · subst h92
          go_wp2
          go_quiet (fail)
          go_wp2
          go_quiet (fail)
          go_wp2
          go_ret2
          refine ⟨p, ⟨hip, by rw [HX.out]; omega, HNo.out, fun _ => by rw [HC.out]; rfl⟩, ?_, .inr ⟨fun _ => by rw [HC.out]; decide, rfl, ?_⟩⟩
          · exact drewN_below hbr _
          · exact hsr.drewN _
        · have h92' : (c == 92) = false := by simpa using h92
          clear h92
          by_cases h32 : c < 32
          · go_wp2
            go_quiet (fail)
            go_wp2
            go_quiet (fail)
            go_wp2
            go_ret2
            refine ⟨p, ⟨hip, by rw [HX.out]; omega, HNo.out, fun _ => by rw [HC.out]; simp [stops, h32]⟩, ?_, .inr ⟨fun _ => by rw [HC.out]; exact hst.out, rfl, ?_⟩⟩
            · exact drewN_below hbr _
            · exact hsr.drewN _
          · go_wp2
            go_quiet (fail)
            go_wp2
            go_quiet (fail)
            go_wp2
            go_roundg (gk - 1)
            case measure => have := HK.out; omega
            case rel =>
              have := HK.out
              refine ⟨p + 1, by omega, by omega, ?_, ((hsr.drewN _).set _).as (by omega), (drewN_below hbr _).setCell (p := ⟨R, 1, none⟩) (Nat.le_refl _) _⟩
              intro j h1 h2
              by_cases hj : j = p
              · subst hj; rw [HC.out]; simp [stops, h34', h92', h32]
              · exact HNo.out j h1 (by omega)
    · have hpe : p = n := by omega
      subst hpe
      clear hcp hpn
      go_wp2
      go_quiet (fail)
      go_wp2
      go_ret2
      refine ⟨p, ⟨hip, by rw [HX.out]; omega, HNo.out, fun h => by rw [HX.out] at h; omega⟩, drewN_below hbr _, .inr ⟨fun h => by omega, rfl, hsr.drewN _⟩⟩

end Go.Proofs.Qxb6602058aMods
