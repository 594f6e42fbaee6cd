import Derived.Test.Qxb6602058aModsText
namespace Go.Proofs.Qxb6602058aMods
open Go.RowKit
set_option linter.unusedSimpArgs false
set_option linter.unusedVariables false

theorem Row.alloc {w : World} {B : Nat} {a : Option Addr} {xs : List Int} (h : Row w B a xs) (o : Obj) : Row (w.alloc o) B a xs := by
  rcases h with h | ⟨b, off, rfl, hB, hc⟩
  · exact .inl h
  · exact .inr ⟨b, off, rfl, hB, fun i hi => cell_alloc (hc i hi) o⟩

set_option maxHeartbeats 1000000 in
theorem zztext_no (n cap i B : Nat) (a : Option Addr) (xs : List Int) (w : World) (hx : xs.length = n) (hr : Row w B a xs)
    (hno : i < n → (xs.getD i 0 == 34) = false) :
    Calls Trym.prog 12 #[.slice a n cap, .int .i64 i] w fun e w' =>
      e = .returned (.tuple #[.slice none 0 0, .bool false, .int .i64 (i : Int)]) ∧ Below w.heap.size w w' := by
  have HX : Hid (xs.length = n) := hx
  clear hx
  go_enter Trym.func12, Trym.ntmps12
  go_wp2_with fail
  refine (text_no w.heap.size n cap i a xs _ B HX.out (hr.alloc _) hno (Scan.new2 _ _ _ _)).mono ?_
  rintro e w' ⟨rfl, hsc, hbel⟩
  obtain ⟨c0, c1, f1⟩ := id hsc
  go_wp2
  go_quiet (fail)
  go_wp2
  go_ret3
  exact ⟨rfl, drewN_below (((Below.refl _ w).alloc (Nat.le_refl _) _).trans hbel) _⟩

set_option maxHeartbeats 1000000 in
theorem zztext_yes (b off n cap i : Nat) (xs : List Int) (w : World) (hn : n ≤ maxLen) (hcap : n ≤ cap) (hb : b < w.heap.size) (hx : xs.length = n)
    (hrow : ∀ j, j < n → w.cell? ⟨b, off + j, none⟩ = some (.int .u8 (xs.getD j 0)))
    (hi : i < n) (hq : xs.getD i 0 = 34) :
    Calls Trym.prog 12 #[.slice (some ⟨b, off, none⟩) n cap, .int .i64 i] w fun e w' => ∃ r, IsFirst stops xs (i + 1) r ∧ Below w.heap.size w w' ∧
      ((r < n ∧ xs.getD r 0 = 34 ∧ e = .returned (.tuple #[.slice (some ⟨b, off + (i + 1), none⟩) (r - (i + 1)) (cap - (i + 1)), .bool true, .int .i64 ((r + 1 : Nat) : Int)])) ∨
       ((r < n → xs.getD r 0 ≠ 34) ∧ e = .returned (.tuple #[.slice none 0 0, .bool false, .int .i64 (r : Int)]))) := by
  have HX : Hid (xs.length = n ∧ xs.getD i 0 = 34) := ⟨hx, hq⟩
  clear hx hq
  go_enter Trym.func12, Trym.ntmps12
  go_wp2_with fail
  refine (text_yes w.heap.size b off n cap i xs _ hn hcap hb HX.out.1 (fun j hj => cell_alloc (hrow j hj) _) hi HX.out.2 (Scan.new2 _ _ _ _)).mono ?_
  rintro e w' ⟨r, hf, hbel, h⟩
  have HF : Hid (IsFirst stops xs (i + 1) r) := hf
  have hB : Below w.heap.size w w' := ((Below.refl _ w).alloc (Nat.le_refl _) _).trans hbel
  clear hf hbel hrow
  rcases h with ⟨h1, h2, rfl, hsc⟩ | ⟨h1, rfl, hsc⟩
  · have H : Hid (r < n ∧ xs.getD r 0 = 34) := ⟨h1, h2⟩
    clear h1 h2
    obtain ⟨c0, c1, f1⟩ := id hsc
    go_wp2
    go_quiet (fail)
    go_wp2
    go_ret3
    exact ⟨r, HF.out, drewN_below hB _, .inl ⟨H.out.1, H.out.2, rfl⟩⟩
  · have H : Hid (r < n → xs.getD r 0 ≠ 34) := h1
    clear h1
    obtain ⟨c0, c1, f1⟩ := id hsc
    go_wp2
    go_quiet (fail)
    go_wp2
    go_ret3
    exact ⟨r, HF.out, drewN_below hB _, .inr ⟨H.out, rfl⟩⟩

theorem first_loop {p : Int → Bool} {xs : List Int} {f k : Nat} (h : ∀ j, f ≤ j → j < k → p (xs.getD j 0) = false) (hk : p (xs.getD k 0) = false) : ∀ j, f ≤ j → j < k + 1 → p (xs.getD j 0) = false := by
  intro j h1 h2
  by_cases hj : j = k
  · subst hj; exact hk
  · exact h j h1 (by omega)

set_option maxHeartbeats 400000 in
theorem first_any (n cap f B : Nat) (a : Option Addr) (q : Int) (xs : List Int) (w : World) (hn : n ≤ maxLen) (hx : xs.length = n) (hr : Row w B a xs) (hf : f ≤ n) :
    Calls Trym.prog 13 #[.slice a n cap, .int .i64 f, .int .u8 q] w fun e w' => ∃ r, IsFirst (fun c => c == q) xs f r ∧ e = .returned (.int .i64 (r : Int)) ∧ w = w' := by
  unfold maxLen at hn
  have HX : Hid (xs.length = n) := hx
  clear hx
  go_enter Trym.func13, Trym.ntmps13
  go_wp2
  go_loop [7] (fun i => ∃ k : Nat, f ≤ k ∧ k ≤ n ∧ i = .int .i64 k ∧ (∀ j, f ≤ j → j < k → (xs.getD j 0 == q) = false)) (fun i => n - (intOf i).toNat)
  case atStart => exact ⟨f, Nat.le_refl _, hf, rfl, fun j h1 h2 => by omega⟩
  case round =>
    obtain ⟨k, hfk, hk, rfl, hno⟩ := hrel
    have HNo : Hid (∀ j, f ≤ j → j < k → (xs.getD j 0 == q) = false) := hno
    clear hno
    by_cases hlt : k < n
    · obtain ⟨b, o, rfl, hc⟩ : ∃ b o, a = some ⟨b, o, none⟩ ∧ w.cell? ⟨b, o + k, none⟩ = some (.int .u8 (xs.getD k 0)) := by
        rcases hr with rfl | ⟨b, o, rfl, _, hc⟩
        · have := HX.out; simp at this; omega
        · exact ⟨b, o, rfl, hc k (by rw [HX.out]; omega)⟩
      clear hr
      obtain ⟨c, hce⟩ : ∃ c, xs.getD k 0 = c := ⟨_, rfl⟩
      have HC : Hid (xs.getD k 0 = c) := hce
      rw [hce] at hc
      clear hce
      cases hcq : (c == q)
      · go_wp2
        go_round
        case rel => exact ⟨k + 1, by omega, by omega, by go_num, first_loop (p := fun c => c == q) HNo.out (by rw [HC.out]; exact hcq)⟩
        case measure => simp [intOf]; omega
      · go_wp2
        go_ret
        exact ⟨k, ⟨hfk, by rw [HX.out]; omega, HNo.out, fun _ => by rw [HC.out]; exact hcq⟩, rfl, rfl⟩
    · have hke : k = n := by omega
      subst hke
      go_wp2
      go_ret
      exact ⟨k, ⟨hfk, by rw [HX.out]; omega, HNo.out, fun h => by rw [HX.out] at h; omega⟩, rfl, rfl⟩

def unplain (c : Int) : Bool := c == 92 || decide (c < 32)

set_option maxHeartbeats 400000 in
theorem unplain_any (n cap f B : Nat) (a : Option Addr) (xs : List Int) (w : World) (hn : n ≤ maxLen) (hx : xs.length = n) (hr : Row w B a xs) (hf : f ≤ n) :
    Calls Trym.prog 14 #[.slice a n cap, .int .i64 f] w fun e w' => ∃ r, IsFirst unplain xs f r ∧ e = .returned (.int .i64 (r : Int)) ∧ w = w' := by
  unfold maxLen at hn
  have HX : Hid (xs.length = n) := hx
  clear hx
  go_enter Trym.func14, Trym.ntmps14
  go_wp2
  go_loop [5] (fun i => ∃ k : Nat, f ≤ k ∧ k ≤ n ∧ i = .int .i64 k ∧ (∀ j, f ≤ j → j < k → unplain (xs.getD j 0) = false)) (fun i => n - (intOf i).toNat)
  case atStart => exact ⟨f, Nat.le_refl _, hf, rfl, fun j h1 h2 => by omega⟩
  case round =>
    obtain ⟨k, hfk, hk, rfl, hno⟩ := hrel
    have HNo : Hid (∀ j, f ≤ j → j < k → unplain (xs.getD j 0) = false) := hno
    clear hno
    by_cases hlt : k < n
    · obtain ⟨b, o, rfl, hc⟩ : ∃ b o, a = some ⟨b, o, none⟩ ∧ w.cell? ⟨b, o + k, none⟩ = some (.int .u8 (xs.getD k 0)) := by
        rcases hr with rfl | ⟨b, o, rfl, _, hc⟩
        · have := HX.out; simp at this; omega
        · exact ⟨b, o, rfl, hc k (by rw [HX.out]; omega)⟩
      clear hr
      obtain ⟨c, hce⟩ : ∃ c, xs.getD k 0 = c := ⟨_, rfl⟩
      have HC : Hid (xs.getD k 0 = c) := hce
      rw [hce] at hc
      clear hce
      by_cases h92 : c = 92
      · subst h92
        go_wp2
        go_ret
        exact ⟨k, ⟨hfk, by rw [HX.out]; omega, HNo.out, fun _ => by rw [HC.out]; rfl⟩, rfl, rfl⟩
      · have h92' : (c == 92) = false := by simpa using h92
        clear h92
        by_cases h32 : c < 32
        · go_wp2
          go_ret
          exact ⟨k, ⟨hfk, by rw [HX.out]; omega, HNo.out, fun _ => by rw [HC.out]; simp [unplain, h32]⟩, rfl, rfl⟩
        · go_wp2
          go_round
          case rel => exact ⟨k + 1, by omega, by omega, by go_num, first_loop HNo.out (by rw [HC.out]; simp [unplain, h92', h32])⟩
          case measure => simp [intOf]; omega
    · have hke : k = n := by omega
      subst hke
      go_wp2
      go_ret
      exact ⟨k, ⟨hfk, by rw [HX.out]; omega, HNo.out, fun h => by rw [HX.out] at h; omega⟩, rfl, rfl⟩

end Go.Proofs.Qxb6602058aMods
