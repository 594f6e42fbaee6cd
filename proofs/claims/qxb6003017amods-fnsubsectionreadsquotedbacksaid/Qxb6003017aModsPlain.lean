/- Plain bytes: a backslash ahead of every backslash and quote. -/
import Derived.WalkKit
namespace Go.Proofs.Qxb6003017aMods
set_option linter.unusedSimpArgs false
set_option linter.unusedVariables false

def isq (c : UInt8) : Bool := c == 92 || c == 34
def esc : List UInt8 → List UInt8
  | [] => []
  | c :: t => if isq c then 92 :: c :: esc t else c :: esc t

theorem esc_append (a b : List UInt8) : esc (a ++ b) = esc a ++ esc b := by
  induction a with
  | nil => rfl
  | cons c t ih => simp only [List.cons_append, esc]; split <;> simp [ih]
theorem esc_len (a : List UInt8) : a.length ≤ (esc a).length ∧ (esc a).length ≤ 2 * a.length := by
  induction a with
  | nil => simp [esc]
  | cons c t ih => simp only [esc]; split <;> simp <;> omega
theorem esc_snoc_q {c : UInt8} (a : List UInt8) (h : isq c = true) : esc (a ++ [c]) = esc a ++ [92, c] := by
  rw [esc_append]; simp [esc, h]
theorem esc_snoc_p {c : UInt8} (a : List UInt8) (h : isq c = false) : esc (a ++ [c]) = esc a ++ [c] := by
  rw [esc_append]; simp [esc, h]

/-- The header that the law writes. -/
def hdrText (sub : List UInt8) : List UInt8 := 32 :: 9 :: 34 :: (esc sub ++ [34, 93, 32, 120])

theorem hdr_len (sub : List UInt8) : (hdrText sub).length = (esc sub).length + 7 := by simp [hdrText]

/-- What stands at place j. -/
theorem byte_at {text : ByteArray} {l : List UInt8} (h : text.data.toList = l) {p : Nat} (hp : p < text.size) : some (text[p]'hp) = l[p]? := by
  subst h
  rw [Array.getElem?_toList]
  exact (Array.getElem?_eq_getElem (xs := text.data) hp).symm

theorem size_of {text : ByteArray} {l : List UInt8} (h : text.data.toList = l) : text.size = l.length := by
  subst h; exact (Array.length_toList).symm

/-- Behind the first three bytes and what was read of sub. -/
theorem hdr_at (pre t : List UInt8) (j : Nat) : (hdrText (pre ++ t))[3 + (esc pre).length + j]? = (esc t ++ [34, 93, 32, 120])[j]? := by
  simp only [hdrText, esc_append, List.append_assoc]
  rw [show 3 + (esc pre).length + j = (esc pre).length + j + 1 + 1 + 1 by omega]
  simp only [List.getElem?_cons_succ]
  rw [List.getElem?_append_right (by omega), Nat.add_sub_cancel_left]

theorem toNat_ne {c d : UInt8} (h : c ≠ d) : c.toNat ≠ d.toNat := fun e => h (UInt8.toNat_inj.1 e)

theorem join_bytes (sec sub : ByteArray) : (⟨(sec.data.toList ++ [46] ++ sub.data.toList).toArray⟩ : ByteArray) = sec ++ ⟨#[46]⟩ ++ sub := by
  apply ByteArray.ext
  simp [ByteArray.data_append]

end Go.Proofs.Qxb6003017aMods
