import Derived.Test.Qxb6003017aModsRows
import Derived.Test.Qxb6003017aModsPlain
import Derived.WalkKit
import Derived.WalkSpells
import Derived.WalkLawsBesides
import Derived.Deep.LoopGhost
import Derived.Deep.Onto
import Derived.Laws.IdiomStrings
import Derived.OpenShut
namespace Go.Proofs.Qxb6003017aMods
open Go.RowKit
set_option linter.unusedSimpArgs false
set_option linter.unusedVariables false

theorem Trym.info5 : (Trym.prog.info? 5).map (fun i => (i.zero, i.size, i.bytes)) = some (some (.int .u8 0), 1, 1) := by kernel_rfl

set_option maxHeartbeats 400000 in
theorem blank_yes (c : Int) (w : World) (h : c = 32 ∨ c = 9) :
    Calls Trym.prog 25 #[.int .u8 c] w fun e w' => e = .returned (.bool true) ∧ w = w' := by
  rcases h with rfl | rfl
  all_goals
    go_enter Trym.func25, Trym.ntmps25
    go_wp2
    go_ret
    exact ⟨rfl, rfl⟩

set_option maxHeartbeats 400000 in
theorem blank_no (w : World) :
    Calls Trym.prog 25 #[.int .u8 34] w fun e w' => e = .returned (.bool false) ∧ w = w' := by
  go_enter Trym.func25, Trym.ntmps25
  go_wp2
  go_ret
  exact ⟨rfl, rfl⟩

def cellsOf (l : List UInt8) : List Value := l.map fun c => Value.int .u8 (c.toNat : Int)

theorem cells_append (a b : List UInt8) : cellsOf (a ++ b) = cellsOf a ++ cellsOf b := by simp [cellsOf]
theorem cells_length (a : List UInt8) : (cellsOf a).length = a.length := by simp [cellsOf]

theorem bytesRow_size (s : ByteArray) (C : Nat) (h : s.size ≤ C) : (bytesRow s C).size = C := by
  have e : s.data.size = s.size := rfl
  simp [bytesRow, e]; omega

/-- What '[]byte(s)' has laid, as a slice that came in. -/
theorem came_bytes (w : World) (s : ByteArray) (C : Nat) (h : s.size ≤ C) :
    Came (w.alloc (.cells (bytesRow s C) 5 ((bytesRow s C).size, (bytesRow s C).size + 1))).drew 1 (some ⟨w.heap.size, 0, none⟩) w.heap.size 0 s.size C (cellsOf s.data.toList) := by
  have hN := bytesRow_size s C h
  have hcell : ∀ j, (w.alloc (.cells (bytesRow s C) 5 ((bytesRow s C).size, (bytesRow s C).size + 1))).drew.cell? ⟨w.heap.size, j, none⟩ = (bytesRow s C)[j]? := fun j => World.cell?_alloc_mark w _ _ _ j
  have hfr : ∀ j, (w.alloc (.cells (bytesRow s C) 5 ((bytesRow s C).size, (bytesRow s C).size + 1))).drew.frozen? ⟨w.heap.size, j, none⟩ = (decide ((bytesRow s C).size ≤ j) && decide (j < (bytesRow s C).size + 1)) := fun j => World.frozen?_alloc_mark w _ _ _ _ j
  have hds : s.data.size = s.size := rfl
  refine ⟨h, fun _ => rfl, fun _ => ?_, by rw [cells_length, Array.length_toList, hds]; omega, fun j u hj => ?_, fun j hj => ?_⟩
  · show w.heap.size < (w.alloc _).heap.size
    simp
  · have hjl : j < s.data.size := by
      have := (List.getElem?_eq_some_iff.1 hj).1
      rwa [cells_length, Array.length_toList] at this
    rw [Nat.zero_add, hcell, bytesRow_at s C j hjl]
    rw [← hj]
    simp only [cellsOf, List.getElem?_map, Array.getElem?_toList]
    rw [Array.getElem?_eq_getElem hjl]; rfl
  · refine ⟨?_, ?_⟩
    · rw [hcell]
      have : 0 + s.size * 1 + j < (bytesRow s C).size := by rw [hN]; omega
      rw [Array.getElem?_eq_getElem this]; rfl
    · rw [hfr]
      have : ¬ (bytesRow s C).size ≤ 0 + s.size * 1 + j := by rw [hN]; omega
      rw [decide_eq_false this]; rfl

theorem u8_lt (c : UInt8) : (c.toNat : Int) ≤ 255 := by have := c.toNat_lt; omega

/-- What is let go of lies in no old block: nothing old is let go of. -/
theorem kept_far {w w' : World} {may : MemPlace → Prop} (h : w.keptBut w' may) (hf : ∀ i, i < w.heap.size → (∀ j, ¬ may (.cell i j)) ∧ ¬ may (.map i)) : w.keptBut w' (fun _ => False) := by
  refine ⟨h.1, h.2.1, fun i hi => ?_⟩
  have h1 := h.2.2 i hi
  obtain ⟨f1, f2⟩ := hf i hi
  revert h1
  split
  · rintro ⟨a, b, c, d⟩
    exact ⟨a, b, c, fun j _ => d j (f1 j)⟩
  · rintro (a | a)
    · exact absurd a f2
    · exact .inr a
  · exact fun a => a

/-- 'string(b)' over cells that are told as a list. -/
theorem back_bytes (w : World) (g o n cap : Nat) (l : List UInt8) (hn : l.length = n) (hc : ∀ j, j < n → w.cell? ⟨g, o + j, none⟩ = (cellsOf l)[j]?) :
    (convert 26 9 (.slice (some ⟨g, o, none⟩) n cap)).run Trym.prog w = .ok (.string ⟨l.toArray⟩) w := by
  subst hn
  refine run_convert_bytes_back (P := Trym.prog) w 26 9 5 ⟨g, o, none⟩ cap l Trym.underlying26 Trym.underlying5 Trym.underlying9 fun j hj => ?_
  rw [Addr.add_lit, hc j hj]
  simp [cellsOf, hj]

theorem byte_is {text : ByteArray} {l : List UInt8} (h : text.data.toList = l) {p : Nat} {c : UInt8} (hp : p < text.size) (hl : l[p]? = some c) : (text[p]'hp).toNat = c.toNat := by
  have := byte_at h hp
  rw [hl] at this
  rw [Option.some.inj this]

set_option maxHeartbeats 1000000 in
theorem subsec (text sec : ByteArray) (sub : List UInt8) (w : World) (ht : text.data.toList = hdrText sub) (hsec : sec.size ≤ 65536) (hsub : sub.length ≤ 65536) (hnl : ∀ c ∈ sub, c ≠ 10) :
    Calls Trym.prog 22 #[.string text, .int .i64 0, .string sec] w fun e w' => e = .returned (.tuple #[.string ⟨(sec.data.toList ++ [46] ++ sub).toArray⟩, .int .i64 (((esc sub).length + 5 : Nat) : Int), .bool true]) ∧ w.keptBut w' (fun _ => False) := by
  have hsz : text.size = (esc sub).length + 7 := by rw [size_of ht, hdr_len]
  have hel := esc_len sub
  have HT : Hid (text.data.toList = hdrText sub ∧ ∀ c ∈ sub, c ≠ 10) := ⟨ht, hnl⟩
  have hs7 : 7 ≤ text.size := by omega
  have hs8 : text.size ≤ 200000 := by omega
  have t0 : (text[0]'(Nat.lt_of_lt_of_le (by decide) hs7)).toNat = 32 := by have := byte_at ht (p := 0) (Nat.lt_of_lt_of_le (by decide) hs7); simp [hdrText] at this; rw [this]; rfl
  have t1 : (text[1]'(Nat.lt_of_lt_of_le (by decide) hs7)).toNat = 9 := by have := byte_at ht (p := 1) (Nat.lt_of_lt_of_le (by decide) hs7); simp [hdrText] at this; rw [this]; rfl
  have t2 : (text[2]'(Nat.lt_of_lt_of_le (by decide) hs7)).toNat = 34 := by have := byte_at ht (p := 2) (Nat.lt_of_lt_of_le (by decide) hs7); simp [hdrText] at this; rw [this]; rfl
  clear ht hnl
  have HS : Hid (text.size = (esc sub).length + 7) := hsz
  clear hsz
  have hcv := fun (wx : World) (s : ByteArray) => run_bytes_of_string (P := Trym.prog) wx 9 26 5 s Trym.underlying9 Trym.underlying26 Trym.underlying5
  obtain ⟨i0, hi, hz0, hz1, hz2⟩ := info_parts Trym.info5
  go_enter Trym.func22, Trym.ntmps22
  go_wp2
  go_loopg [1] 2 (fun gn si wr => ∃ k : Nat, gn = 2 - k ∧ k ≤ 2 ∧ si = .int .i64 k ∧ wr = w)
  case atStart => exact ⟨0, rfl, by omega, rfl, rfl⟩
  case round =>
    obtain ⟨k, hg, hk, rfl, hw⟩ := hrel
    subst hw
    have HG : Hid (gk = 2 - k) := hg
    clear hg
    by_cases h0 : k = 0
    · subst h0
      go_wp2_with (go_at_call 25; refine (blank_yes _ _ (by simp)).mono ?_; rintro e w' ⟨rfl, rfl⟩)
      go_roundg 1
      case measure => rw [HG.out]; omega
      case rel => exact ⟨1, rfl, by omega, rfl, rfl⟩
    · by_cases h1 : k = 1
      · subst h1
        go_wp2_with (go_at_call 25; refine (blank_yes _ _ (by simp)).mono ?_; rintro e w' ⟨rfl, rfl⟩)
        go_roundg 0
        case measure => rw [HG.out]; omega
        case rel => exact ⟨2, rfl, by omega, rfl, rfl⟩
      · have h2 : k = 2 := by omega
        subst h2
        clear h0 h1 hk
        have hd2 : ((2 : Int) == (text.size : Int)) = false := by simp; omega
        have hC := grownCap_ge wr (sec.size + 1) 0 5
        have hCm := grownCap_le_maxLen wr (sec.size + 1) 0 5 (by unfold maxLen; omega)
        go_wp2_with (go_at_call 25; refine (blank_no _).mono ?_; rintro e w' ⟨rfl, rfl⟩)
        generalize grownCap wr (sec.size + 1) 0 5 = C at hC hCm ⊢
        have hss : (sec ++ (⟨#[46]⟩ : ByteArray)).size = sec.size + 1 := by simp [ByteArray.size_append]; rfl
        have hcame := came_bytes wr (sec ++ ⟨#[46]⟩) C (by rw [hss]; exact hC)
        rw [hss] at hcame
        have hk0 : wr.keptBut (wr.alloc (.cells (bytesRow (sec ++ ⟨#[46]⟩) C) 5 ((bytesRow (sec ++ ⟨#[46]⟩) C).size, (bytesRow (sec ++ ⟨#[46]⟩) C).size + 1))).drew (fun _ => False) := (((Below.refl _ wr).alloc (Nat.le_refl _) _).drew).frame _
        generalize hW : (wr.alloc (.cells (bytesRow (sec ++ ⟨#[46]⟩) C) 5 ((bytesRow (sec ++ ⟨#[46]⟩) C).size, (bytesRow (sec ++ ⟨#[46]⟩) C).size + 1))).drew = W at hcame hk0 ⊢
        clear hW
        clear t0 t1 t2 hd2 HG
        have hss2 : (cellsOf (sec ++ (⟨#[46]⟩ : ByteArray)).data.toList) = cellsOf (sec.data.toList ++ [46]) := by simp [ByteArray.data_append]
        rw [hss2] at hcame
        go_loopg [1, 9] sub.length (fun gn si sb wr2 => ∃ (pre t : List UInt8) (p m : Nat), sub = pre ++ t ∧ gn = t.length ∧ p = 3 + (esc pre).length ∧ m = pre.length ∧ si = .int .i64 p ∧
          Onto W 5 1 (some ⟨wr.heap.size, 0, none⟩) wr.heap.size 0 (sec.size + 1) C (cellsOf (sec.data.toList ++ [46])) wr2 sb m (cellsOf pre))
        case atStart => exact ⟨[], sub, 3, 0, rfl, rfl, by simp [esc], rfl, rfl, Onto.start hcame⟩
        case round =>
          obtain ⟨pre, t, p, m, hsplit, hgk, hp, hm, rfl, honto⟩ := hrel
          have hel2 : (esc sub).length = (esc pre).length + (esc t).length := by rw [hsplit, esc_append]; simp
          have hml : m + t.length = sub.length := by rw [hsplit, hm]; simp
          have hpn : p + (esc t).length + 4 = text.size := by rw [HS.out]; omega
          have hbyte : ∀ j (c : UInt8) (hj : p + j < text.size), (esc t ++ [34, 93, 32, 120])[j]? = some c → (text[p + j]'hj).toNat = c.toNat := fun j c hj hc => by
            refine byte_is HT.out.1 hj ?_
            rw [hsplit, hp, hdr_at]; exact hc
          have hbytes : (sec.size + 1 + m + 1) * 1 ≤ 140737488355328 := by omega
          cases t with
          | nil =>
            simp only [esc, List.length_nil] at hpn hml
            have hl0 : p < text.size := by omega
            have hl1 : p + 1 < text.size := by omega
            have b0 : (text[p]'hl0).toNat = 34 := hbyte 0 34 hl0 rfl
            have b1 : (text[p + 1]'hl1).toNat = 93 := hbyte 1 93 hl1 rfl
            have hpre : sub = pre := by simpa using hsplit
            obtain ⟨g, o', cap', hv, _, _, hcells⟩ := honto.value hcame hCm (.inl (by omega))
            have hback : (convert 26 9 (.slice (some ⟨g, o', none⟩) (sec.size + 1 + m) cap')).run Trym.prog wr = .ok (.string ⟨(sec.data.toList ++ [46] ++ sub).toArray⟩) wr := by
              have hds : sec.data.toList.length = sec.size := Array.length_toList
              refine back_bytes wr g o' _ cap' _ ?_ fun j hj => ?_
              · simp only [List.length_append, List.length_cons, List.length_nil, hds]; omega
              · rw [hcells j (by omega), ← cells_append, hpre]
            have HK : Hid (_ ∧ _) := ⟨hk0, honto.kept⟩
            have HPm : Hid (p = 3 + (esc sub).length) := by rw [hpre]; exact hp
            have hp2 : p + 1 < text.size := by omega
            subst hv
            clear hsplit hgk hp hm honto hel2 hml hpn hbyte hbytes hcells hpre hk0 hcame
            go_wp2
            go_ret3
            refine ⟨?_, ?_⟩
            · show Ending.returned (.tuple #[.string _, .int .i64 ((p : Int) + 2), .bool true]) = _
              have e : ((p : Int) + 2) = (((esc sub).length + 5 : Nat) : Int) := by have := HPm.out; omega
              rw [e, List.append_assoc]; rfl
            · have h1 : World.keptBut _ wr _ := World.keptBut_trans (World.keptBut_mono (fun _ h => absurd h id) HK.out.1) HK.out.2
              refine kept_far h1 fun i hi => ⟨fun j => ?_, ?_⟩
              · rintro ⟨j', _, _, e⟩
                simp at e
                omega
              · rintro ⟨j', _, _, e⟩
                simp at e
          | cons c t =>
            have hne : c ≠ 10 := HT.out.2 c (by rw [hsplit]; simp)
            have hne10 : ((c.toNat : Int) == 10) = false := by have h : c.toNat ≠ 10 := toNat_ne hne; simp; omega
            have HW : Hid (_ ∧ sub = pre ++ c :: t ∧ gk = (c :: t).length ∧ p = 3 + (esc pre).length ∧ m = pre.length) := ⟨hk0, hsplit, hgk, hp, hm⟩
            simp only [List.length_cons] at hml
            have hlm : sec.size + 1 + m + 1 ≤ maxLen := by unfold maxLen; omega
            cases hq : isq c
            · have hl0 : p < text.size := by omega
              have b0 : (text[p]'hl0).toNat = c.toNat := hbyte 0 c hl0 (by simp [esc, hq])
              have hc92 : ((c.toNat : Int) == 92) = false := by
                have h92 : c ≠ 92 := by intro e; subst e; simp [isq] at hq
                have h : c.toNat ≠ 92 := toNat_ne h92
                simp; omega
              have hc34 : ((c.toNat : Int) == 34) = false := by
                have h34 : c ≠ 34 := by intro e; subst e; simp [isq] at hq
                have h : c.toNat ≠ 34 := toNat_ne h34
                simp; omega
              have HQ : Hid (isq c = false) := hq
              have hpt : ((p : Int) == (text.size : Int)) = false := by simp; omega
              clear hsplit hgk hp hm hel2 hml hpn hbyte hk0 hne hq
              go_wp2_with (at_builtin; refine wpList_append_onto _ rfl (.tmp 65) (.tmp 69) 26 rfl hcame i0 (.int .u8 0) 1 Trym.underlying26 hi hz0 hz1 hz2 rfl (by decide) rfl (honto.alloc hcame _) ⟨_, 0, none⟩ 1 [.int .u8 (c.toNat : Int)] rfl rfl ?d1 ?d2 ?d3 ?d4 ?_)
              case d1 => exact cell_one_new _ _ _
              case d2 => intro u hu; simp at hu; subst hu; rfl
              case d3 => exact hlm
              case d4 => exact hbytes
              intro v2 w2 honto2
              go_wp2
              go_roundg t.length
              case measure => rw [HW.out.2.2.1]; simp
              case rel =>
                obtain ⟨_, hs, _, hp, hm⟩ := HW.out
                refine ⟨pre ++ [c], t, p + 1, m + 1, by simp [hs], rfl, by rw [esc_snoc_p _ HQ.out, hp]; simp; omega, by simp [hm], by go_num, ?_⟩
                rw [cells_append pre [c]]; exact honto2
            · have hl0 : p < text.size := by omega
              have hl1 : p + 1 < text.size := by omega
              have b0 : (text[p]'hl0).toNat = 92 := hbyte 0 92 hl0 (by simp [esc, hq])
              have b1 : (text[p + 1]'hl1).toNat = c.toNat := hbyte 1 c hl1 (by simp [esc, hq])
              have HQ : Hid (isq c = true) := hq
              clear hsplit hgk hp hm hel2 hml hpn hbyte hk0 hne hq
              go_wp2_with (at_builtin; refine wpList_append_onto _ rfl (.tmp 65) (.tmp 69) 26 rfl hcame i0 (.int .u8 0) 1 Trym.underlying26 hi hz0 hz1 hz2 rfl (by decide) rfl (honto.alloc hcame _) ⟨_, 0, none⟩ 1 [.int .u8 (c.toNat : Int)] rfl rfl ?c1 ?c2 ?c3 ?c4 ?_)
              case c1 => exact cell_one_new _ _ _
              case c2 => intro u hu; simp at hu; subst hu; rfl
              case c3 => exact hlm
              case c4 => exact hbytes
              intro v2 w2 honto2
              go_wp2
              go_roundg t.length
              case measure => rw [HW.out.2.2.1]; simp
              case rel =>
                obtain ⟨_, hs, _, hp, hm⟩ := HW.out
                refine ⟨pre ++ [c], t, p + 2, m + 1, by simp [hs], rfl, by rw [esc_snoc_q _ HQ.out, hp]; simp; omega, by simp [hm], by go_num, ?_⟩
                rw [cells_append pre [c]]; exact honto2

end Go.Proofs.Qxb6003017aMods
