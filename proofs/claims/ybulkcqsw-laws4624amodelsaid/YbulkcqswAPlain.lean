/-
  PLAIN: which bytes and runes a group name may hold; where strings.IndexFunc finds the first that it may not; and that it finds none just where every BYTE is an allowed one.
-/
import Derived.Lib.DecodeN
namespace Go.Proofs.Ybulkcqsw
open Go.Lib

/-- An ASCII letter, a digit, '.', '-' or '_'. -/
def okN (r : Nat) : Bool := decide ((97 ≤ r ∧ r ≤ 122) ∨ (65 ≤ r ∧ r ≤ 90) ∨ (48 ≤ r ∧ r ≤ 57) ∨ r = 46 ∨ r = 45 ∨ r = 95)

theorem okN_iff (r : Nat) : okN r = true ↔ (97 ≤ r ∧ r ≤ 122) ∨ (65 ≤ r ∧ r ≤ 90) ∨ (48 ≤ r ∧ r ≤ 57) ∨ r = 46 ∨ r = 45 ∨ r = 95 := by
  unfold okN; rw [decide_eq_true_iff]
theorem okN_lt (r : Nat) (h : okN r = true) : r < 128 := by rw [okN_iff] at h; omega

def okAll (l : List UInt8) : Bool := l.all fun c => okN c.toNat

/-- From place pos on, by at most so many runes: where the first rune begins that is not allowed; -1. -/
def idxFrom (s : ByteArray) : Nat → Nat → Int
  | 0, _ => -1
  | f + 1, pos => if pos < s.size then (if okN (Utf8.decode s pos).1 = false then (pos : Int) else idxFrom s f (pos + (Utf8.decode s pos).2)) else -1

def idxBad (s : ByteArray) : Int := idxFrom s s.size 0

theorem idxFrom_end (s : ByteArray) (f pos : Nat) (h : ¬ pos < s.size) : idxFrom s f pos = -1 := by cases f <;> simp [idxFrom, h]

theorem decodeN_low (n b0 b1 b2 b3 : Nat) (h : b0 < 128) : decodeN n b0 b1 b2 b3 = (b0, 1) := by simp [decodeN, h]
theorem decodeN_high (n b0 b1 b2 b3 : Nat) (h : ¬ b0 < 128) : 128 ≤ (decodeN n b0 b1 b2 b3).1 := by
  unfold decodeN
  repeat' split
  all_goals first | omega | (simp only; omega)

theorem get_at (s : ByteArray) (pos : Nat) (h : pos < s.size) : s.get! pos = s.data.toList[pos]'(by simpa using h) := by
  have h' : pos < s.data.size := h
  show s.data[pos]! = _
  rw [getElem!_pos s.data pos h']
  simp

theorem idxFrom_iff (s : ByteArray) : ∀ (f pos : Nat), s.size ≤ pos + f → (idxFrom s f pos < 0 ↔ okAll (s.data.toList.drop pos) = true) := by
  intro f
  induction f with
  | zero =>
    intro pos h
    rw [List.drop_eq_nil_of_le (by simpa using h)]
    simp [idxFrom, okAll]
  | succ f ih =>
    intro pos h
    by_cases hp : pos < s.size
    · have hl : pos < s.data.toList.length := by simpa using hp
      rw [List.drop_eq_getElem_cons hl]
      have hg := get_at s pos hp
      by_cases hb : (s.data.toList[pos]).toNat < 128
      · have hd : Utf8.decode s pos = ((s.data.toList[pos]).toNat, 1) := by rw [decode_at, hg]; exact decodeN_low _ _ _ _ _ hb
        simp only [idxFrom, hp, if_true, hd, okAll, List.all_cons]
        by_cases ho : okN (s.data.toList[pos]).toNat = true
        · rw [if_neg (by rw [ho]; simp), ho, Bool.true_and]
          exact ih (pos + 1) (by omega)
        · have ho' : okN (s.data.toList[pos]).toNat = false := by simpa using ho
          rw [if_pos ho', ho', Bool.false_and]
          constructor
          · intro hh; omega
          · intro hh; cases hh
      · have hd : 128 ≤ (Utf8.decode s pos).1 := by rw [decode_at, hg]; exact decodeN_high _ _ _ _ _ hb
        have ho : okN (Utf8.decode s pos).1 = false := by
          cases he : okN (Utf8.decode s pos).1
          · rfl
          · exact absurd (okN_lt _ he) (by omega)
        have ho' : okN (s.data.toList[pos]).toNat = false := by
          cases he : okN (s.data.toList[pos]).toNat
          · rfl
          · exact absurd (okN_lt _ he) hb
        simp only [idxFrom, hp, if_true, ho, okAll, List.all_cons, ho', Bool.false_and]
        constructor
        · intro hh; omega
        · intro hh; cases hh
    · rw [idxFrom_end s _ _ hp, List.drop_eq_nil_of_le (by simp; omega)]
      simp [okAll]

theorem idxBad_iff (s : ByteArray) : idxBad s < 0 ↔ okAll s.data.toList = true := by
  have := idxFrom_iff s s.size 0 (by omega)
  simpa [idxBad] using this

/-- WHAT validGroup ANSWERS. -/
def vg (s : ByteArray) : Bool := decide (1 ≤ s.size) && decide (s.size ≤ 64) && okAll s.data.toList

theorem take_snoc (s : ByteArray) (k : Nat) (h : k < s.size) : s.data.toList.take (k + 1) = s.data.toList.take k ++ [s[k]] := by
  rw [List.take_succ_eq_append_getElem (by simpa using h)]; rfl
theorem okAll_snoc (l : List UInt8) (c : UInt8) : okAll (l ++ [c]) = (okAll l && okN c.toNat) := by
  simp [okAll, List.all_append]
end Go.Proofs.Ybulkcqsw
