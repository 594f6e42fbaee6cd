import Derived.Test.Qxb6602058aModsBase
import Derived.Test.Qxb6602058aModsEsc
namespace Go.Proofs.Qxb6602058aMods
open Go.RowKit
set_option linter.unusedSimpArgs false
set_option linter.unusedVariables false

set_option maxHeartbeats 1000000 in
theorem mtext_any (R b off n cap i : Nat) (body s suf : List Int) (w : World) (hn : n ≤ maxLen) (hcap : n ≤ cap) (hb : b < R) (hbody : body.length = n)
    (hrow : ∀ j, j < n → w.cell? ⟨b, off + j, none⟩ = some (.int .u8 (body.getD j 0)))
    (hd : body.drop (i + 1) = esc s ++ 34 :: suf)
    (hsc : Scan w R (.slice (some ⟨b, off, none⟩) n cap) i) :
    Calls Trym.prog 27 #[.pointer (some ⟨R, 0, none⟩)] w fun e w' =>
      e = .returned (.tuple #[.slice (some ⟨b, off + i, none⟩) ((esc s).length + 2) (cap - i), .bool (needs s)]) ∧
      Scan w' R (.slice (some ⟨b, off, none⟩) n cap) ((i + ((esc s).length + 2) : Nat) : Int) ∧ Below R w w' := by
  unfold maxLen at hn
  have HD : Hid (body.drop (i + 1) = esc s ++ 34 :: suf) := hd
  have hi : i + (esc s).length + 1 < n := by
    have := lt_drop hd (j := (esc s).length) (by simp); omega
  have HB : Hid (body.length = n) := hbody
  clear hd hbody
  obtain ⟨c0, c1, f1⟩ := id hsc
  go_enter Trym.func27, Trym.ntmps27
  go_wp2
  clear c0 c1 f1
  go_loopg [3] s.length (fun k e wr => ∃ (p : Nat) (pre t : List Int), s = pre ++ t ∧ k = t.length ∧ p = i + 1 + (esc pre).length ∧ e = .bool (needs pre) ∧
    Scan wr R (.slice (some ⟨b, off, none⟩) n cap) (p : Int) ∧ Below R w wr)
  case atStart => exact ⟨i + 1, [], s, rfl, rfl, rfl, rfl, by simpa using hsc.set ((i : Int) + 1), (Below.refl R w).setCell (p := ⟨R, 1, none⟩) (Nat.le_refl _) _⟩
  case round =>
    obtain ⟨p, pre, t, hs, hk, hp, rfl, hsr, hbel⟩ := hrel
    have hel : (esc s).length = (esc pre).length + (esc t).length := by rw [hs, esc_append]; simp
    have hat : ∀ j, body.getD (p + j) 0 = (esc t ++ 34 :: suf).getD j 0 := by
      intro j
      have h1 := HD.out
      rw [hs, esc_append, List.append_assoc] at h1
      have := getD_drop (drop_more _ h1) j
      rwa [← hp] at this
    have hcell : ∀ j, p + j < n → wr.cell? ⟨b, off + (p + j), none⟩ = some (.int .u8 ((esc t ++ 34 :: suf).getD j 0)) := fun j hj =>
      (hbel.cell (p := ⟨b, off + (p + j), none⟩) hb).trans ((hrow _ hj).trans (by rw [hat]))
    have hpn : p + (esc t).length < n := by omega
    obtain ⟨c0, c1, f1⟩ := id hsr
    cases t with
    | nil =>
      have k0 := hcell 0 (by omega)
      simp [esc] at k0
      have hsE : s = pre := by simpa using hs
      have HP : Hid (p = i + 1 + (esc pre).length) := hp
      have hpi : (i : Int) ≤ p := by omega
      have hpn' : p < n := by omega
      clear hcell hat hrow hel hp hi hpn hs hk
      go_wp2
      go_quiet (fail)
      go_wp2
      go_quiet (fail)
      go_wp2
      go_ret2
      have e1 : p + 1 - i = (esc s).length + 2 := by have := HP.out; rw [hsE]; omega
      have e2 : ((i + ((esc s).length + 2) : Nat) : Int) = p + 1 := by omega
      refine ⟨?_, ?_, ?_⟩
      · show Ending.returned (.tuple #[.slice _ (p + 1 - i) _, .bool (needs pre)]) = _
        rw [e1, hsE]
      · rw [e2]; exact ((hsr.drewN _).set _).drewN _
      · exact drewN_below ((drewN_below hbel _).setCell (p := ⟨R, 1, none⟩) (Nat.le_refl _) _) _
    | cons c t =>
      by_cases hq : isq c = true
      · have k0 := hcell 0 (by omega)
        simp [esc, hq] at k0
        have hpi : (i : Int) ≤ p := by omega
        have hpn' : p + 2 < n := by simp [esc, hq] at hpn; omega
        have HP : Hid (p = i + 1 + (esc pre).length ∧ s = pre ++ c :: t ∧ gk = (c :: t).length) := ⟨hp, hs, hk⟩
        clear hcell hat hrow hel hp hi hpn hs hk
        go_wp2
        go_quiet (fail)
        go_wp2
        go_quiet (fail)
        go_wp2
        go_roundg t.length
        case measure => have := HP.out.2.2; simp at this; omega
        case rel =>
          obtain ⟨hp, hs, hk⟩ := HP.out
          refine ⟨p + 2, pre ++ [c], t, by simp [hs], rfl, by rw [esc_snoc_q _ hq]; simp; omega, by rw [needs_snoc, hq]; simp, ?_, ?_⟩
          · exact (((hsr.drewN _).set _).set _).as (by omega)
          · exact ((drewN_below hbel _).setCell (p := ⟨R, 1, none⟩) (Nat.le_refl _) _).setCell (p := ⟨R, 1, none⟩) (Nat.le_refl _) _
      · have hq' : isq c = false := by simpa using hq
        have k0 := hcell 0 (by omega)
        simp [esc, hq'] at k0
        have hc1 : (c == 34) = false := by simp [isq] at hq'; simpa using hq'.1
        have hc2 : (c == 92) = false := by simp [isq] at hq'; simpa using hq'.2
        have hpi : (i : Int) ≤ p := by omega
        have hpn' : p + 1 < n := by simp [esc, hq'] at hpn; omega
        have HP : Hid (p = i + 1 + (esc pre).length ∧ s = pre ++ c :: t ∧ gk = (c :: t).length) := ⟨hp, hs, hk⟩
        clear hcell hat hrow hel hp hi hpn hs hk hq
        go_wp2
        go_quiet (fail)
        go_wp2
        go_quiet (fail)
        go_wp2
        go_roundg t.length
        case measure => have := HP.out.2.2; simp at this; omega
        case rel =>
          obtain ⟨hp, hs, hk⟩ := HP.out
          refine ⟨p + 1, pre ++ [c], t, by simp [hs], rfl, by rw [esc_snoc_p _ hq']; simp; omega, by rw [needs_snoc, hq']; simp, ?_, ?_⟩
          · exact ((hsr.drewN _).set _).as (by omega)
          · exact (drewN_below hbel _).setCell (p := ⟨R, 1, none⟩) (Nat.le_refl _) _

end Go.Proofs.Qxb6602058aMods
