import Derived.Test.Qxb6602067aModsSegs
namespace Go.Proofs.Qxb6602067aMods
open Go.RowKit
set_option linter.unusedSimpArgs false
set_option linter.unusedVariables false

theorem Trym.inf33 : (Trym.prog.info? 33).map (fun i => (i.zero, i.size, i.bytes)) = some (some (.agg #[.int .u64 0, .int .u64 0]), 2, 16) := by kernel_rfl

def flat (hs : List (Int × Int)) : List Value := hs.flatMap fun p => [.int .u64 p.1, .int .u64 p.2]

theorem flat_snoc (hs : List (Int × Int)) (p : Int × Int) : flat (hs ++ [p]) = flat hs ++ [.int .u64 p.1, .int .u64 p.2] := by simp [flat]

theorem flat_len (hs : List (Int × Int)) : (flat hs).length = hs.length * 2 := by
  induction hs with
  | nil => rfl
  | cons p t ih =>
    have e : flat (p :: t) = .int .u64 p.1 :: .int .u64 p.2 :: flat t := rfl
    rw [e, List.length_cons, List.length_cons, ih, List.length_cons]; omega

theorem flat_get {hs : List (Int × Int)} : ∀ {j : Nat}, j < hs.length → (flat hs)[j * 2]? = some (.int .u64 (hs.getD j (0, 0)).1) ∧ (flat hs)[j * 2 + 1]? = some (.int .u64 (hs.getD j (0, 0)).2) := by
  induction hs with
  | nil => intro j hj; simp at hj
  | cons p t ih =>
    intro j hj
    cases j with
    | zero => simp [flat]
    | succ j =>
      have := ih (j := j) (by simpa using hj)
      have e : flat (p :: t) = .int .u64 p.1 :: .int .u64 p.2 :: flat t := rfl
      rw [e, show (j + 1) * 2 = j * 2 + 1 + 1 by omega]
      simpa [List.getD] using this

theorem own_form {w : World} {base : Nat} {e : TypeId} {size : Nat} {v : Value} {n : Nat} {xs : List Value} (h : w.ownsRow base e size v n xs) (hv : v ≠ .slice none 0 0) :
    ∃ g cap, v = .slice (some ⟨g, 0, none⟩) n cap := by
  rcases h.2 with ⟨h1, _⟩ | ⟨g, cap, cur, h1, _⟩
  · exact absurd h1 hv
  · exact ⟨g, cap, h1⟩

theorem Sgs.get {w : World} {B n k : Nat} {a : Option Addr} {X : List (Int × Int)} (h : Sgs w B a X) (hl : X.length = n) (hk : k < n) :
    ∃ b o s, a = some ⟨b, o, none⟩ ∧ b < B ∧ w.cell? ⟨b, o + k * 3, none⟩ = some (.int .u64 (X.getD k (0, 0)).1) ∧ w.cell? ⟨b, o + k * 3 + 1, none⟩ = some (.int .u64 (X.getD k (0, 0)).2) ∧ w.cell? ⟨b, o + k * 3 + 2, none⟩ = some (.string s) := by
  rcases h with rfl | ⟨b, o, f, rfl, hb, hc⟩
  · simp at hl; omega
  · exact ⟨b, o, f k, rfl, hb, (hc k (by omega)).1, (hc k (by omega)).2.1, (hc k (by omega)).2.2⟩

theorem get64 {X : List (Int × Int)} (h : In64 X) {k : Nat} (hk : k < X.length) : 0 ≤ (X.getD k (0, 0)).1 ∧ (X.getD k (0, 0)).1 ≤ 18446744073709551615 ∧ 0 ≤ (X.getD k (0, 0)).2 ∧ (X.getD k (0, 0)).2 ≤ 18446744073709551615 := by
  have := h X[k] (List.getElem_mem hk)
  simpa [List.getD, hk] using this

set_option maxHeartbeats 1000000 in
theorem holes_any (pb : Int) (a1 : Option Addr) (n c1 : Nat) (X : List (Int × Int)) (w : World) (hx : X.length = n) (hn : n ≤ 65536) (hu : In64 X) (hpb : 0 ≤ pb) (hpb2 : pb ≤ 18446744073709551615)
    (r1 : Sgs w w.heap.size a1 X) :
    Calls Trym.prog 14 #[.int .u64 pb, .slice a1 n c1] w fun e w' => ∃ g cap, e = .returned (.slice (some ⟨g, 0, none⟩) (hol (if 1 < pb then pb else 0) X).length cap) ∧ Prs w' w'.heap.size (some ⟨g, 0, none⟩) (hol (if 1 < pb then pb else 0) X) ∧ Below w.heap.size w w' := by
  obtain ⟨i0, hi, hz0, hz1, hz2⟩ := info_parts Trym.inf33
  have HX : Hid (X.length = n ∧ In64 X) := ⟨hx, hu⟩
  clear hx hu
  obtain ⟨nx0, hnx0⟩ : ∃ nx0, nx0 = if 1 < pb then pb else 0 := ⟨_, rfl⟩
  rw [← hnx0]
  go_enter Trym.func14, Trym.ntmps14
  have hb0 : 0 ≤ nx0 ∧ nx0 ≤ 18446744073709551615 := by rw [hnx0]; split <;> omega
  have own0 : (w.alloc (Obj.cells #[] 33)).ownsRow w.heap.size 33 2 (.slice (some ⟨w.heap.size, 0, none⟩) 0 0) 0 [] := World.ownsRow_lit w #[] 0 (Nat.le_refl _) (Nat.zero_le _) rfl
  have B0 : Below w.heap.size w (w.alloc (Obj.cells #[] 33)) := (Below.refl _ _).alloc (Nat.le_refl _) _
  have HO : Hid ((w.alloc (Obj.cells #[] 33)).ownsRow w.heap.size 33 2 (.slice (some ⟨w.heap.size, 0, none⟩) 0 0) 0 []) := own0
  clear own0
  by_cases hp1 : 1 < pb
  · rw [if_pos hp1] at hnx0
    subst hnx0
    go_wp2
    go_loopg [5, 6, 8, 15] n (fun gn sh sn _ si wr => ∃ (k g cap nh : Nat) (nx : Int) (hs : List (Int × Int)), gn = n - k ∧ k ≤ n ∧ nh ≤ k ∧ si = .int .i64 k ∧ sn = .int .u64 nx ∧ 0 ≤ nx ∧ nx ≤ 18446744073709551615 ∧ nh = hs.length ∧ sh = .slice (some ⟨g, 0, none⟩) nh cap ∧
       wr.ownsRow w.heap.size 33 2 (.slice (some ⟨g, 0, none⟩) nh cap) nh (flat hs) ∧ hs ++ hol nx (X.drop k) = hol nx0 X ∧ Below w.heap.size w wr)
    case atStart => exact ⟨0, w.heap.size, 0, 0, nx0, [], rfl, Nat.zero_le _, Nat.le_refl _, rfl, rfl, hb0.1, hb0.2, rfl, rfl, HO.out, rfl, B0⟩
    case round =>
      clear HO B0
      obtain ⟨k, g, cap, nh, nx, hs, hg, hk, hnk, rfl, rfl, hx0, hx1, hnh, rfl, hown, hsum, hbel⟩ := hrel
      have HG : Hid (gk = n - k ∧ nh = hs.length ∧ hs ++ hol nx (X.drop k) = hol nx0 X) := ⟨hg, hnh, hsum⟩
      clear hg hnh hsum
      by_cases hlt : k < n
      · obtain ⟨b, o, s, hae, hbb, e0, e1, e2⟩ := r1.get HX.out.1 hlt
        subst hae
        clear r1
        have hdr := drop_cons' (X := X) (k := k) (by rw [HX.out.1]; exact hlt)
        have hpu := get64 HX.out.2 (k := k) (by rw [HX.out.1]; exact hlt)
        obtain ⟨p0, p1, hp⟩ : ∃ p0 p1, X.getD k (0, 0) = (p0, p1) := ⟨_, _, rfl⟩
        rw [hp] at e0 e1 hdr hpu
        have HP : Hid (X.drop k = (p0, p1) :: X.drop (k + 1)) := hdr
        have g0 : wr.cell? ⟨b, o + k * 3, none⟩ = some (.int .u64 p0) := (hbel.cell (p := ⟨b, o + k * 3, none⟩) hbb).trans e0
        have g1 : wr.cell? ⟨b, o + k * 3 + 1, none⟩ = some (.int .u64 p1) := (hbel.cell (p := ⟨b, o + k * 3 + 1, none⟩) hbb).trans e1
        have g2 : wr.cell? ⟨b, o + k * 3 + 2, none⟩ = some (.string s) := (hbel.cell (p := ⟨b, o + k * 3 + 2, none⟩) hbb).trans e2
        simp only [] at hpu
        obtain ⟨u0, u1, u2, u3⟩ := hpu
        have hsz := hbel.size
        clear hp hdr e0 e1 e2
        by_cases hemp : p1 < p0
        · go_wp2
          go_roundg (n - (k + 1))
          case measure => rw [HG.out.1]; omega
          case rel =>
            refine ⟨k + 1, g, cap, nh, nx, hs, rfl, by omega, by omega, by go_num, rfl, hx0, hx1, HG.out.2.1, rfl, hown.alloc _, ?_, hbel.alloc hsz _⟩
            rw [← HG.out.2.2, HP.out, hol_empty (show p1 < p0 by omega)]
        · by_cases hh : 0 < nx
          · by_cases hh2 : nx < p0
            · go_wp2_with (at_builtin; refine wpList_append_own _ rfl _ _ 28 rfl w.heap.size 33 i0 (.agg #[.int .u64 0, .int .u64 0]) 2 16 Trym.underlying28 hi hz0 hz1 hz2 rfl (by decide) _ nh _ rfl ((hown.alloc _).alloc _) ⟨_, 0, none⟩ 1 1 [.int .u64 nx, .int .u64 (p0 - 1)] rfl rfl ?c1 ?c2 ?c3 ?c4 ?c5 ?_)
              case c2 => exact ⟨rfl, rfl⟩
              case c3 => unfold maxLen; omega
              case c4 => omega
              case c5 => omega
              intro v2 w2 hown2 hgrow2 hv2
              obtain ⟨g2, cap2, hv2e⟩ := own_form hown2 hv2
              rw [hv2e] at hown2 ⊢
              have hgl : g < wr.heap.size := (hown.lt g rfl).2
              have hgb : w.heap.size ≤ g := (hown.lt g rfl).1
              have hc1 : w2.cell? ⟨wr.heap.size, 1, none⟩ = some (.int .u64 p1) := by
                refine hgrow2.cell ?_ ?_
                · rw [World.cell?_alloc_past _ _ _ (by simp), World.cell?_alloc_at _ _ _ _ rfl]; rfl
                · intro e; have h2 : wr.heap.size = g := Option.some.inj e; omega
              have hb2 : Below w.heap.size w w2 := ((hbel.alloc hsz _).alloc (by simp; omega) _).grown hgrow2 (by simp; omega) (fun k hk => by cases hk; exact hgb)
              clear hgrow2 hv2 hv2e hown
              go_wp2
              go_roundg (n - (k + 1))
              case measure => rw [HG.out.1]; omega
              case rel =>
                refine ⟨k + 1, g2, cap2, nh + 1, (p1 + 1) % 18446744073709551616, hs ++ [(nx, p0 - 1)], rfl, by omega, by omega, by go_num, by (try simp only [IntKind.wrap_u64]), by omega, by omega, by simp [HG.out.2.1], rfl, by rw [flat_snoc]; exact hown2, ?_, hb2⟩
                rw [← HG.out.2.2, HP.out, hol_yes (show ¬ p1 < p0 by omega) ⟨hh, hh2⟩]
                simp
            · go_wp2
              go_roundg (n - (k + 1))
              case measure => rw [HG.out.1]; omega
              case rel =>
                refine ⟨k + 1, g, cap, nh, (p1 + 1) % 18446744073709551616, hs, rfl, by omega, by omega, by go_num, by (try simp only [IntKind.wrap_u64]), by omega, by omega, HG.out.2.1, rfl, hown.alloc _, ?_, hbel.alloc hsz _⟩
                rw [← HG.out.2.2, HP.out, hol_no (show ¬ p1 < p0 by omega) (by show ¬ (0 < nx ∧ nx < p0); omega)]
          · go_wp2
            go_roundg (n - (k + 1))
            case measure => rw [HG.out.1]; omega
            case rel =>
              refine ⟨k + 1, g, cap, nh, (p1 + 1) % 18446744073709551616, hs, rfl, by omega, by omega, by go_num, by (try simp only [IntKind.wrap_u64]), by omega, by omega, HG.out.2.1, rfl, hown.alloc _, ?_, hbel.alloc hsz _⟩
              rw [← HG.out.2.2, HP.out, hol_no (show ¬ p1 < p0 by omega) (by show ¬ (0 < nx ∧ nx < p0); omega)]
      · have hke : k = n := by omega
        subst hke
        clear r1
        have he : hs = hol nx0 X := by
          have := HG.out.2.2
          rw [List.drop_eq_nil_of_le (by rw [HX.out.1]; omega)] at this
          simpa [hol] using this
        have hnn : nh = (hol nx0 X).length := by rw [HG.out.2.1, he]
        have HN : Hid (nh = (hol nx0 X).length ∧ hs = hol nx0 X) := ⟨hnn, he⟩
        clear hnn he
        go_wp2
        go_ret
        refine ⟨g, cap, ?_, ?_, hbel⟩
        · show Ending.returned (.slice _ nh _) = _
          rw [HN.out.1]
        · refine .inr ⟨g, 0, rfl, (hown.lt g rfl).2, fun j hj => ?_⟩
          rw [← HN.out.2] at hj ⊢
          have h1 := flat_get hj
          have hj' : j < nh := by rw [HG.out.2.1]; exact hj
          rw [Nat.zero_add, hown.cellAt (j * 2) (by omega), hown.cellAt (j * 2 + 1) (by omega)]
          exact h1
  · rw [if_neg hp1] at hnx0
    subst hnx0
    go_wp2
    go_loopg [5, 6, 8, 15] n (fun gn sh sn _ si wr => ∃ (k g cap nh : Nat) (nx : Int) (hs : List (Int × Int)), gn = n - k ∧ k ≤ n ∧ nh ≤ k ∧ si = .int .i64 k ∧ sn = .int .u64 nx ∧ 0 ≤ nx ∧ nx ≤ 18446744073709551615 ∧ nh = hs.length ∧ sh = .slice (some ⟨g, 0, none⟩) nh cap ∧
       wr.ownsRow w.heap.size 33 2 (.slice (some ⟨g, 0, none⟩) nh cap) nh (flat hs) ∧ hs ++ hol nx (X.drop k) = hol 0 X ∧ Below w.heap.size w wr)
    case atStart => exact ⟨0, w.heap.size, 0, 0, 0, [], rfl, Nat.zero_le _, Nat.le_refl _, rfl, rfl, hb0.1, hb0.2, rfl, rfl, HO.out, rfl, B0⟩
    case round =>
      clear HO B0
      obtain ⟨k, g, cap, nh, nx, hs, hg, hk, hnk, rfl, rfl, hx0, hx1, hnh, rfl, hown, hsum, hbel⟩ := hrel
      have HG : Hid (gk = n - k ∧ nh = hs.length ∧ hs ++ hol nx (X.drop k) = hol 0 X) := ⟨hg, hnh, hsum⟩
      clear hg hnh hsum
      by_cases hlt : k < n
      · obtain ⟨b, o, s, hae, hbb, e0, e1, e2⟩ := r1.get HX.out.1 hlt
        subst hae
        clear r1
        have hdr := drop_cons' (X := X) (k := k) (by rw [HX.out.1]; exact hlt)
        have hpu := get64 HX.out.2 (k := k) (by rw [HX.out.1]; exact hlt)
        obtain ⟨p0, p1, hp⟩ : ∃ p0 p1, X.getD k (0, 0) = (p0, p1) := ⟨_, _, rfl⟩
        rw [hp] at e0 e1 hdr hpu
        have HP : Hid (X.drop k = (p0, p1) :: X.drop (k + 1)) := hdr
        have g0 : wr.cell? ⟨b, o + k * 3, none⟩ = some (.int .u64 p0) := (hbel.cell (p := ⟨b, o + k * 3, none⟩) hbb).trans e0
        have g1 : wr.cell? ⟨b, o + k * 3 + 1, none⟩ = some (.int .u64 p1) := (hbel.cell (p := ⟨b, o + k * 3 + 1, none⟩) hbb).trans e1
        have g2 : wr.cell? ⟨b, o + k * 3 + 2, none⟩ = some (.string s) := (hbel.cell (p := ⟨b, o + k * 3 + 2, none⟩) hbb).trans e2
        simp only [] at hpu
        obtain ⟨u0, u1, u2, u3⟩ := hpu
        have hsz := hbel.size
        clear hp hdr e0 e1 e2
        by_cases hemp : p1 < p0
        · go_wp2
          go_roundg (n - (k + 1))
          case measure => rw [HG.out.1]; omega
          case rel =>
            refine ⟨k + 1, g, cap, nh, nx, hs, rfl, by omega, by omega, by go_num, rfl, hx0, hx1, HG.out.2.1, rfl, hown.alloc _, ?_, hbel.alloc hsz _⟩
            rw [← HG.out.2.2, HP.out, hol_empty (show p1 < p0 by omega)]
        · by_cases hh : 0 < nx
          · by_cases hh2 : nx < p0
            · go_wp2_with (at_builtin; refine wpList_append_own _ rfl _ _ 28 rfl w.heap.size 33 i0 (.agg #[.int .u64 0, .int .u64 0]) 2 16 Trym.underlying28 hi hz0 hz1 hz2 rfl (by decide) _ nh _ rfl ((hown.alloc _).alloc _) ⟨_, 0, none⟩ 1 1 [.int .u64 nx, .int .u64 (p0 - 1)] rfl rfl ?d1 ?d2 ?d3 ?d4 ?d5 ?_)
              case d2 => exact ⟨rfl, rfl⟩
              case d3 => unfold maxLen; omega
              case d4 => omega
              case d5 => omega
              intro v2 w2 hown2 hgrow2 hv2
              obtain ⟨g2, cap2, hv2e⟩ := own_form hown2 hv2
              rw [hv2e] at hown2 ⊢
              have hgl : g < wr.heap.size := (hown.lt g rfl).2
              have hgb : w.heap.size ≤ g := (hown.lt g rfl).1
              have hc1 : w2.cell? ⟨wr.heap.size, 1, none⟩ = some (.int .u64 p1) := by
                refine hgrow2.cell ?_ ?_
                · rw [World.cell?_alloc_past _ _ _ (by simp), World.cell?_alloc_at _ _ _ _ rfl]; rfl
                · intro e; have h2 : wr.heap.size = g := Option.some.inj e; omega
              have hb2 : Below w.heap.size w w2 := ((hbel.alloc hsz _).alloc (by simp; omega) _).grown hgrow2 (by simp; omega) (fun k hk => by cases hk; exact hgb)
              clear hgrow2 hv2 hv2e hown
              go_wp2
              go_roundg (n - (k + 1))
              case measure => rw [HG.out.1]; omega
              case rel =>
                refine ⟨k + 1, g2, cap2, nh + 1, (p1 + 1) % 18446744073709551616, hs ++ [(nx, p0 - 1)], rfl, by omega, by omega, by go_num, by (try simp only [IntKind.wrap_u64]), by omega, by omega, by simp [HG.out.2.1], rfl, by rw [flat_snoc]; exact hown2, ?_, hb2⟩
                rw [← HG.out.2.2, HP.out, hol_yes (show ¬ p1 < p0 by omega) ⟨hh, hh2⟩]
                simp
            · go_wp2
              go_roundg (n - (k + 1))
              case measure => rw [HG.out.1]; omega
              case rel =>
                refine ⟨k + 1, g, cap, nh, (p1 + 1) % 18446744073709551616, hs, rfl, by omega, by omega, by go_num, by (try simp only [IntKind.wrap_u64]), by omega, by omega, HG.out.2.1, rfl, hown.alloc _, ?_, hbel.alloc hsz _⟩
                rw [← HG.out.2.2, HP.out, hol_no (show ¬ p1 < p0 by omega) (by show ¬ (0 < nx ∧ nx < p0); omega)]
          · go_wp2
            go_roundg (n - (k + 1))
            case measure => rw [HG.out.1]; omega
            case rel =>
              refine ⟨k + 1, g, cap, nh, (p1 + 1) % 18446744073709551616, hs, rfl, by omega, by omega, by go_num, by (try simp only [IntKind.wrap_u64]), by omega, by omega, HG.out.2.1, rfl, hown.alloc _, ?_, hbel.alloc hsz _⟩
              rw [← HG.out.2.2, HP.out, hol_no (show ¬ p1 < p0 by omega) (by show ¬ (0 < nx ∧ nx < p0); omega)]
      · have hke : k = n := by omega
        subst hke
        clear r1
        have he : hs = hol 0 X := by
          have := HG.out.2.2
          rw [List.drop_eq_nil_of_le (by rw [HX.out.1]; omega)] at this
          simpa [hol] using this
        have hnn : nh = (hol 0 X).length := by rw [HG.out.2.1, he]
        have HN : Hid (nh = (hol 0 X).length ∧ hs = hol 0 X) := ⟨hnn, he⟩
        clear hnn he
        go_wp2
        go_ret
        refine ⟨g, cap, ?_, ?_, hbel⟩
        · show Ending.returned (.slice _ nh _) = _
          rw [HN.out.1]
        · refine .inr ⟨g, 0, rfl, (hown.lt g rfl).2, fun j hj => ?_⟩
          rw [← HN.out.2] at hj ⊢
          have h1 := flat_get hj
          have hj' : j < nh := by rw [HG.out.2.1]; exact hj
          rw [Nat.zero_add, hown.cellAt (j * 2) (by omega), hown.cellAt (j * 2 + 1) (by omega)]
          exact h1

end Go.Proofs.Qxb6602067aMods
