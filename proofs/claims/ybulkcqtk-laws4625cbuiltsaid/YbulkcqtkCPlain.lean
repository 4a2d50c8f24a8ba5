/-
  PLAIN: decimal digits among a string's bytes.
-/
import GoSem.Core.Utf8
namespace Go.Proofs.Ybulkcqtk

def digB (c : Nat) : Bool := decide (48 ≤ c ∧ c ≤ 57)
theorem digB_yes (c : Nat) (h : 48 ≤ c) (h' : c ≤ 57) : digB c = true := decide_eq_true ⟨h, h'⟩
theorem digB_no (c : Nat) (h : ¬ (48 ≤ c ∧ c ≤ 57)) : digB c = false := decide_eq_false h

/-- Byte i of s (0 past its end). -/
def bt (s : ByteArray) (i : Nat) : Nat := (s.data.toList.getD i 0).toNat
theorem bt_at (s : ByteArray) (i : Nat) (h : i < s.size) : (s[i]).toNat = bt s i := by
  have h' : i < s.data.toList.length := by simpa using h
  unfold bt
  rw [List.getD_eq_getElem?_getD, List.getElem?_eq_getElem h']
  rfl

/-- Is r where the digits from s[j] on end? -/
structure Ends (s : ByteArray) (j r : Nat) : Prop where
  le : j ≤ r
  all : ∀ i, j ≤ i → i < r → i < s.size ∧ digB (bt s i) = true
  stop : r < s.size → digB (bt s r) = false

theorem Ends.past {s : ByteArray} {j r : Nat} (h : Ends s j r) (hj : s.size ≤ j) : r = j := by
  have := h.le
  rcases Nat.lt_or_ge j r with hlt | hge
  · have := (h.all j (Nat.le_refl _) hlt).1; omega
  · omega
theorem Ends.le_size {s : ByteArray} {j r : Nat} (h : Ends s j r) (hj : j < s.size) : r ≤ s.size := by
  have := h.le
  rcases Nat.lt_or_ge j r with hlt | hge
  · have := (h.all (r - 1) (by omega) (by omega)).1; omega
  · omega
theorem Ends.unique {s : ByteArray} {j r r' : Nat} (h : Ends s j r) (h' : Ends s j r') : r = r' := by
  have h1 := h.le
  have h2 := h'.le
  rcases Nat.lt_trichotomy r r' with hlt | heq | hgt
  · obtain ⟨a, b⟩ := h'.all r h1 hlt
    rw [h.stop a] at b; cases b
  · exact heq
  · obtain ⟨a, b⟩ := h.all r' h2 hgt
    rw [h'.stop a] at b; cases b
end Go.Proofs.Ybulkcqtk
