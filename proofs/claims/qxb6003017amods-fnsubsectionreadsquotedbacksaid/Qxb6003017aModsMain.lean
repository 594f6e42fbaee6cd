import Derived.Test.Qxb6003017aModsSub
namespace Go.Proofs.Qxb6003017aMods
open Go.RowKit
set_option linter.unusedSimpArgs false
set_option linter.unusedVariables false

set_option maxHeartbeats 400000 in
theorem zz11 (s0 s1 : ByteArray) (w : World) (h : s0.size + s1.size ≤ 1048576) :
    Calls Trym.prog 11 #[.string s0, .string s1] w fun e w' => e = .returned (.bool true) ∧ w = w' := by
  go_enter Trym.func11, Trym.ntmps11
  go_wp2
  go_ret
  exact ⟨rfl, rfl⟩

set_option maxHeartbeats 400000 in
theorem zz11_no (s0 s1 : ByteArray) (w : World) (m0 : s0.size ≤ maxLen) (m1 : s1.size ≤ maxLen) (h : ¬ s0.size + s1.size ≤ 1048576) :
    Calls Trym.prog 11 #[.string s0, .string s1] w fun e w' => e = .returned (.bool false) ∧ w = w' := by
  unfold maxLen at m0 m1
  go_enter Trym.func11, Trym.ntmps11
  go_wp2
  all_goals go_ret
  all_goals exact ⟨rfl, rfl⟩

set_option maxHeartbeats 1000000 in
theorem zzsub (text sec : ByteArray) (sub : List UInt8) (w : World) (ht : text.data.toList = hdrText sub) (hsec : sec.size ≤ 65536) (hsub : sub.length ≤ 65536) (hnl : ∀ c ∈ sub, c ≠ 10) :
    Calls Trym.prog 12 #[.string text, .int .i64 0, .string sec] w fun e w' => e = .returned (.tuple #[.string ⟨(sec.data.toList ++ [46] ++ sub).toArray⟩, .int .i64 (((esc sub).length + 5 : Nat) : Int), .bool true]) ∧ w.keptBut w' (fun _ => False) := by
  have H : Hid (text.data.toList = hdrText sub ∧ ∀ c ∈ sub, c ≠ 10) := ⟨ht, hnl⟩
  clear ht hnl
  go_enter Trym.func12, Trym.ntmps12
  go_wp2_with fail
  refine (subsec text sec sub w H.out.1 hsec hsub H.out.2).mono ?_
  rintro e w' ⟨rfl, hk⟩
  go_wp2
  go_ret3
  refine ⟨?_, hk⟩
  show Ending.returned (.tuple #[.string _, .int .i64 _, .bool true]) = _
  simp

theorem cell_three_new (w : World) (a b c : Value) (t : TypeId) : ∀ j u, [a, b, c][j]? = some u → (w.alloc (.cells #[a, b, c] t)).cell? ((⟨w.heap.size, 0, none⟩ : Addr).add j) = some u := by
  intro j u hj
  match j, hj with
  | 0, hj => simp at hj; subst hj; simp [Addr.add]
  | 1, hj => simp at hj; subst hj; simp [Addr.add]
  | 2, hj => simp at hj; subst hj; simp [Addr.add]

theorem take_byte {l : List UInt8} {k : Nat} (h : k < l.length) : l.take (k + 1) = l.take k ++ [l[k]] := by
  rw [List.take_succ_eq_append_getElem h]

theorem own_back {w : World} {B g n cap : Nat} {xs : List Value} {l : List UInt8} (h : w.ownsRow B 5 1 (.slice (some ⟨g, 0, none⟩) n cap) n xs) (hx : xs = cellsOf l) :
    (convert 26 9 (.slice (some ⟨g, 0, none⟩) n cap)).run Trym.prog w = .ok (.string ⟨l.toArray⟩) w := by
  subst hx
  have hl : l.length = n := by have := h.1; rw [cells_length] at this; omega
  refine back_bytes w g 0 n cap l hl fun j hj => ?_
  rw [Nat.zero_add, h.cellAt j (by omega)]

theorem hdr_cells (l : List UInt8) : cellsOf (32 :: 9 :: 34 :: esc l) ++ [Value.int .u8 34, .int .u8 93] ++ [Value.int .u8 32, .int .u8 120] = cellsOf (hdrText l) := by
  simp [cellsOf, hdrText]

theorem join_is (s0 s1 : ByteArray) : (⟨(s0.data.toList ++ [46] ++ s1.data.toList).toArray⟩ : ByteArray) = s0 ++ ⟨#[46]⟩ ++ s1 := join_bytes s0 s1

set_option maxHeartbeats 2000000 in
theorem walk5 (s0 s1 : ByteArray) (w : World) (h0 : s0.size ≤ 65536) (h1 : s1.size ≤ 65536) :
    Calls Trym.prog 5 #[.string s0, .string s1] w fun e w' => e = .returned (.bool true) ∧ w.keptBut w' (fun _ => False) := by
  obtain ⟨i0, hi, hz0, hz1, hz2⟩ := info_parts Trym.info5
  have hl1 : s1.data.toList.length = s1.size := Array.length_toList
  have HL : Hid (s1.data.toList.length = s1.size) := hl1
  clear hl1
  go_enter Trym.func5, Trym.ntmps5
  go_wp2_with (go_at_call 11; refine (zz11 _ _ _ (by omega)).mono ?_; rintro e w' ⟨rfl, rfl⟩)
  go_loopg [5] s1.size (fun gn sk wr => ∃ k : Nat, gn = s1.size - k ∧ k ≤ s1.size ∧ sk = .int .i64 k ∧ wr = w ∧ ∀ c ∈ s1.data.toList.take k, c ≠ 10)
  case atStart => exact ⟨0, rfl, Nat.zero_le _, rfl, rfl, by simp⟩
  case round =>
    obtain ⟨k, hg, hk, rfl, hw, hall⟩ := hrel
    have hw2 : w = wr := hw.symm
    subst hw2
    clear hw
    have HG : Hid (gk = s1.size - k ∧ ∀ c ∈ s1.data.toList.take k, c ≠ 10) := ⟨hg, hall⟩
    clear hg hall
    by_cases hlt : k < s1.size
    · have hlt' : k < s1.data.toList.length := by rw [HL.out]; exact hlt
      obtain ⟨c, hc⟩ : ∃ c, s1.data.toList[k] = c := ⟨_, rfl⟩
      have bc : (s1[k]'hlt).toNat = c.toNat := byte_is rfl hlt (by rw [List.getElem?_eq_getElem hlt', hc])
      have HC : Hid (s1.data.toList.take (k + 1) = s1.data.toList.take k ++ [c]) := by show _ = _; rw [take_byte hlt', hc]
      clear hc hlt'
      by_cases h10 : c = 10
      · subst h10
        have bc' : (s1[k]'hlt).toNat = 10 := bc
        clear bc
        go_wp2
        go_ret
        exact ⟨rfl, World.keptBut_refl _ _⟩
      · have hn10 : ((c.toNat : Int) == 10) = false := by have h : c.toNat ≠ 10 := toNat_ne h10; simp; omega
        have H10 : Hid (c ≠ 10) := h10
        clear h10
        go_wp2
        go_roundg (s1.size - (k + 1))
        case measure => rw [HG.out.1]; omega
        case rel =>
          refine ⟨k + 1, rfl, by omega, by go_num, rfl, ?_⟩
          rw [HC.out]
          intro d hd
          rcases List.mem_append.1 hd with hd | hd
          · exact HG.out.2 d hd
          · simp at hd; subst hd; exact H10.out
    · have hke : k = s1.size := by omega
      subst hke
      have HN : Hid (∀ c ∈ s1.data.toList, c ≠ 10) := by
        have h := HG.out.2
        rw [List.take_of_length_le (by rw [HL.out]; exact Nat.le_refl _)] at h
        exact h
      clear HG hk hlt
      go_wp2_with (at_make; refine wpList_make_own _ rfl _ _ 26 rfl _ 5 i0 (.int .u8 0) 1 Trym.underlying26 hi hz0 hz1 _ _ _ (2 * s1.size + 12) rfl rfl (by omega) ?b2 ?b3 (Nat.le_refl _) ?_)
      case b2 => rw [hz2]; omega
      case b3 => unfold maxLen; omega
      intro w0 hown0 hgrow0
      have b0 : Below w.heap.size w w0 := (Below.refl _ _).grown hgrow0 (Nat.le_refl _) (fun k h => by cases h)
      go_wp2_with (at_builtin; refine wpList_append_fits _ rfl (.tmp 40) (.tmp 41) 26 rfl _ 5 i0 1 Trym.underlying26 hi hz1 _ 0 _ _ rfl (hown0.alloc _) ⟨_, 0, none⟩ 3 3 [.int .u8 32, .int .u8 9, .int .u8 34] rfl rfl (cell_three_new _ _ _ _ _) (by intro u hu; simp at hu; rcases hu with rfl | rfl | rfl <;> rfl) (by omega) ?_; intro w1 hown1 hgrow1; simp only [Nat.zero_add, List.nil_append] at hown1)
      have b1 : Below w.heap.size w w1 := (b0.alloc b0.size _).grown hgrow1 (by have := b0.size; simp; omega) (fun k hk => by cases hk; exact Nat.le_refl _)
      have O1 : Hid (w1.ownsRow w.heap.size 5 1 (.slice (some ⟨w.heap.size, 0, none⟩) 3 (2 * s1.size + 12)) 3 (cellsOf (32 :: 9 :: 34 :: esc (s1.data.toList.take 0)))) := by
        show w1.ownsRow _ _ _ _ _ _
        simpa [cellsOf, esc] using hown1
      clear hown0 hown1 hgrow0 hgrow1 b0
      go_loopg [6, 7, 8] s1.size (fun gn sb sk _ wr => ∃ (k n : Nat), gn = s1.size - k ∧ k ≤ s1.size ∧ sk = .int .i64 k ∧ n = 3 + (esc (s1.data.toList.take k)).length ∧ sb = .slice (some ⟨w.heap.size, 0, none⟩) n (2 * s1.size + 12) ∧
        wr.ownsRow w.heap.size 5 1 (.slice (some ⟨w.heap.size, 0, none⟩) n (2 * s1.size + 12)) n (cellsOf (32 :: 9 :: 34 :: esc (s1.data.toList.take k))) ∧ Below w.heap.size w wr)
      case atStart => exact ⟨0, 3, rfl, Nat.zero_le _, rfl, by simp [esc], rfl, O1.out, b1⟩
      case round =>
        clear O1 b1
        obtain ⟨k, n, hg, hk, rfl, hn, rfl, hown, hbel⟩ := hrel
        have hel := esc_len (s1.data.toList.take k)
        have htl : (s1.data.toList.take k).length ≤ k := List.length_take_le _ _
        have hnn : n ≤ 3 + 2 * k := by omega
        have HG : Hid (gk = s1.size - k ∧ n = 3 + (esc (s1.data.toList.take k)).length) := ⟨hg, hn⟩
        clear hg hn hel htl
        by_cases hlt : k < s1.size
        · have hlt' : k < s1.data.toList.length := by rw [HL.out]; exact hlt
          obtain ⟨c, hc⟩ : ∃ c, s1.data.toList[k] = c := ⟨_, rfl⟩
          have bc : (s1[k]'hlt).toNat = c.toNat := byte_is rfl hlt (by rw [List.getElem?_eq_getElem hlt', hc])
          have HC : Hid (s1.data.toList.take (k + 1) = s1.data.toList.take k ++ [c]) := by show _ = _; rw [take_byte hlt', hc]
          clear hc hlt'
          cases hq : isq c
          · have hc92 : ((c.toNat : Int) == 92) = false := by
              have h92 : c ≠ 92 := by intro e; subst e; simp [isq] at hq
              have h : c.toNat ≠ 92 := toNat_ne h92
              simp; omega
            have hc34 : ((c.toNat : Int) == 34) = false := by
              have h34 : c ≠ 34 := by intro e; subst e; simp [isq] at hq
              have h : c.toNat ≠ 34 := toNat_ne h34
              simp; omega
            have HQ : Hid (isq c = false) := hq
            clear hq
            go_wp2_with (at_builtin; refine wpList_append_fits _ rfl (.tmp 62) (.tmp 64) 26 rfl _ 5 i0 1 Trym.underlying26 hi hz1 _ n _ _ rfl (hown.alloc _) ⟨_, 0, none⟩ 1 1 [.int .u8 (c.toNat : Int)] rfl rfl (cell_one_new _ _ _) (by intro u hu; simp at hu; subst hu; rfl) (by omega) ?_; intro w3 hown3 hgrow3)
            go_roundg (s1.size - (k + 1))
            case measure => rw [HG.out.1]; omega
            case rel =>
              refine ⟨k + 1, n + 1, rfl, by omega, by go_num, ?_, rfl, ?_, ?_⟩
              · rw [HC.out, esc_snoc_p _ HQ.out, HG.out.2]; simp; omega
              · rw [HC.out, esc_snoc_p _ HQ.out]
                simpa [cellsOf] using hown3
              · exact (hbel.alloc hbel.size _).grown hgrow3 (by have := hbel.size; simp; omega) (fun k hk => by cases hk; exact Nat.le_refl _)
          · have HQ : Hid (isq c = true) := hq
            have hcv : c = 92 ∨ c = 34 := by simpa [isq] using hq
            clear hq
            rcases hcv with rfl | rfl
            · have bc' : (s1[k]'hlt).toNat = 92 := bc
              clear bc
              go_wp2_with (at_builtin; refine wpList_append_fits _ rfl (.tmp 58) (.tmp 60) 26 rfl _ 5 i0 1 Trym.underlying26 hi hz1 _ n _ _ rfl (hown.alloc _) ⟨_, 0, none⟩ 2 2 [.int .u8 92, .int .u8 92] rfl rfl (cell_two_new _ _ _ _) (by intro u hu; simp at hu; subst hu; rfl) (by omega) ?_; intro w3 hown3 hgrow3)
              go_roundg (s1.size - (k + 1))
              case measure => rw [HG.out.1]; omega
              case rel =>
                refine ⟨k + 1, n + 2, rfl, by omega, by go_num, ?_, rfl, ?_, ?_⟩
                · rw [HC.out, esc_snoc_q _ HQ.out, HG.out.2]; simp; omega
                · rw [HC.out, esc_snoc_q _ HQ.out]
                  simpa [cellsOf] using hown3
                · exact (hbel.alloc hbel.size _).grown hgrow3 (by have := hbel.size; simp; omega) (fun k hk => by cases hk; exact Nat.le_refl _)
            · have bc' : (s1[k]'hlt).toNat = 34 := bc
              clear bc
              go_wp2_with (at_builtin; refine wpList_append_fits _ rfl (.tmp 58) (.tmp 60) 26 rfl _ 5 i0 1 Trym.underlying26 hi hz1 _ n _ _ rfl (hown.alloc _) ⟨_, 0, none⟩ 2 2 [.int .u8 92, .int .u8 34] rfl rfl (cell_two_new _ _ _ _) (by intro u hu; simp at hu; rcases hu with rfl | rfl <;> rfl) (by omega) ?_; intro w3 hown3 hgrow3)
              go_roundg (s1.size - (k + 1))
              case measure => rw [HG.out.1]; omega
              case rel =>
                refine ⟨k + 1, n + 2, rfl, by omega, by go_num, ?_, rfl, ?_, ?_⟩
                · rw [HC.out, esc_snoc_q _ HQ.out, HG.out.2]; simp; omega
                · rw [HC.out, esc_snoc_q _ HQ.out]
                  simpa [cellsOf] using hown3
                · exact (hbel.alloc hbel.size _).grown hgrow3 (by have := hbel.size; simp; omega) (fun k hk => by cases hk; exact Nat.le_refl _)
        · have hke : k = s1.size := by omega
          subst hke
          have hX : s1.data.toList.take s1.size = s1.data.toList := List.take_of_length_le (by rw [HL.out]; exact Nat.le_refl _)
          have HX : Hid (n = 3 + (esc s1.data.toList).length) := by have h := HG.out.2; rw [hX] at h; exact h
          rw [hX] at hown
          clear HG hX hlt hk
          go_wp2_with (first
            | (at_builtin; refine wpList_append_fits _ rfl (.tmp 66) (.tmp 67) 26 rfl _ 5 i0 1 Trym.underlying26 hi hz1 _ n _ _ rfl (hown.alloc _) ⟨_, 0, none⟩ 2 2 [.int .u8 34, .int .u8 93] rfl rfl (cell_two_new _ _ _ _) (by intro u hu; simp at hu; rcases hu with rfl | rfl <;> rfl) (by omega) ?_; intro w3 hown3 hgrow3)
            | (at_builtin; refine wpList_append_fits _ rfl (.tmp 71) (.tmp 72) 26 rfl _ 5 i0 1 Trym.underlying26 hi hz1 _ (n + 2) _ _ rfl (hown3.alloc _) ⟨_, 0, none⟩ 2 2 [.int .u8 32, .int .u8 120] rfl rfl (cell_two_new _ _ _ _) (by intro u hu; simp at hu; rcases hu with rfl | rfl <;> rfl) (by omega) ?_; intro w4 hown4 hgrow4; have hback := own_back hown4 (hdr_cells s1.data.toList)))
          have b3 : Below w.heap.size w w3 := (hbel.alloc hbel.size _).grown hgrow3 (by have := hbel.size; simp; omega) (fun k hk => by cases hk; exact Nat.le_refl _)
          have b4 : Below w.heap.size w w4 := (b3.alloc b3.size _).grown hgrow4 (by have := b3.size; simp; omega) (fun k hk => by cases hk; exact Nat.le_refl _)
          refine (zzsub ⟨(hdrText s1.data.toList).toArray⟩ s0 s1.data.toList w4 rfl h0 (by rw [HL.out]; exact h1) HN.out).mono ?_
          rintro e w5 ⟨rfl, hk5⟩
          have hn2 : (((esc s1.data.toList).length + 5 : Nat) : Int) = (n : Int) + 2 := by have := HX.out; omega
          rw [join_is, hn2]
          go_wp2
          go_ret
          exact ⟨rfl, World.keptBut_trans (b4.frame _) hk5⟩

set_option maxHeartbeats 400000 in
theorem walk5_big (s0 s1 : ByteArray) (w : World) (m0 : s0.size ≤ maxLen) (m1 : s1.size ≤ maxLen) (h : ¬ s0.size + s1.size ≤ 1048576) :
    Calls Trym.prog 5 #[.string s0, .string s1] w fun e w' => e = .returned (.bool true) ∧ w.keptBut w' (fun _ => False) := by
  go_enter Trym.func5, Trym.ntmps5
  go_wp2_with (go_at_call 11; refine (zz11_no _ _ _ m0 m1 h).mono ?_; rintro e w' ⟨rfl, rfl⟩)
  go_ret
  exact ⟨rfl, World.keptBut_refl _ _⟩

set_option maxHeartbeats 400000 in
theorem walk5_long (s0 s1 : ByteArray) (w : World) (hs : s0.size + s1.size ≤ 1048576) (h : ¬ (s0.size ≤ 65536 ∧ s1.size ≤ 65536)) :
    Calls Trym.prog 5 #[.string s0, .string s1] w fun e w' => e = .returned (.bool true) ∧ w.keptBut w' (fun _ => False) := by
  by_cases h0 : s0.size ≤ 65536
  · have h1 : ¬ s1.size ≤ 65536 := fun h1 => h ⟨h0, h1⟩
    clear h
    go_enter Trym.func5, Trym.ntmps5
    go_wp2_with (go_at_call 11; refine (zz11 _ _ _ hs).mono ?_; rintro e w' ⟨rfl, rfl⟩)
    go_ret
    exact ⟨rfl, World.keptBut_refl _ _⟩
  · clear h
    go_enter Trym.func5, Trym.ntmps5
    go_wp2_with (go_at_call 11; refine (zz11 _ _ _ hs).mono ?_; rintro e w' ⟨rfl, rfl⟩)
    go_ret
    exact ⟨rfl, World.keptBut_refl _ _⟩

theorem walk5_all (s0 s1 : ByteArray) (w : World) (m0 : s0.size ≤ maxLen) (m1 : s1.size ≤ maxLen) :
    Calls Trym.prog 5 #[.string s0, .string s1] w fun e w' => e = .returned (.bool true) ∧ w.keptBut w' (fun _ => False) := by
  by_cases hs : s0.size + s1.size ≤ 1048576
  · by_cases h : s0.size ≤ 65536 ∧ s1.size ≤ 65536
    · exact walk5 s0 s1 w h.1 h.2
    · exact walk5_long s0 s1 w hs h
  · exact walk5_big s0 s1 w m0 m1 hs

end Go.Proofs.Qxb6003017aMods
