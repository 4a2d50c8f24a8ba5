/-
  THE WALKS that LawS4624AModel and LawS4624ABuilt share: the byte test, validGroup's literal, strings.indexFunc and strings.IndexFunc at that literal, validGroup.
-/
import Derived.Test.YbulkcqswRows
import Derived.Test.YbulkcqswAPlain
import Derived.WalkKit
import Derived.WalkLawsBesides
import Derived.Lib.OthersKept
import Derived.Lib.TrimU
import Derived.Deep.LoopGhost
namespace Go.Proofs.Ybulkcqsw
open Go.RowKit

theorem ranges (r : Int) : r < 45 ∨ r = 45 ∨ r = 46 ∨ r = 47 ∨ (48 ≤ r ∧ r ≤ 57) ∨ (58 ≤ r ∧ r ≤ 64) ∨ (65 ≤ r ∧ r ≤ 90) ∨ (91 ≤ r ∧ r ≤ 94) ∨ r = 95 ∨ r = 96 ∨ (97 ≤ r ∧ r ≤ 122) ∨ 123 ≤ r := by omega
theorem ok_yes (r : Nat) (h : (97 ≤ r ∧ r ≤ 122) ∨ (65 ≤ r ∧ r ≤ 90) ∨ (48 ≤ r ∧ r ≤ 57) ∨ r = 46 ∨ r = 45 ∨ r = 95) : okN r = true := (okN_iff r).2 h
theorem ok_no (r : Nat) (h : ¬ ((97 ≤ r ∧ r ≤ 122) ∨ (65 ≤ r ∧ r ≤ 90) ∨ (48 ≤ r ∧ r ≤ 57) ∨ r = 46 ∨ r = 45 ∨ r = 95)) : okN r = false := by
  cases he : okN r
  · rfl
  · exact absurd ((okN_iff r).1 he) h
theorem eq_yes {a b : Int} (h : a = b) : (a == b) = true := by simpa using h
theorem eq_no {a b : Int} (h : ¬ a = b) : (a == b) = false := by simpa using h

set_option maxHeartbeats 1000000 in
/-- zzs4624aok -/
theorem ok_any (r : Nat) (w : World) :
    Calls Yba.prog 7 #[.int .u8 r] w fun e w' => e = .returned (.bool (okN r)) ∧ w' = w := by
  obtain ⟨z, hz⟩ : ∃ z : Int, z = (r : Int) := ⟨_, rfl⟩
  rcases ranges z with h | h | h | h | ⟨h, h'⟩ | ⟨h, h'⟩ | ⟨h, h'⟩ | ⟨h, h'⟩ | h | h | ⟨h, h'⟩ | h
  all_goals
    first | rw [ok_yes r (by omega)] | rw [ok_no r (by omega)]
    rw [← hz]
    clear hz
    first | (have e46 : (z == 46) = true := eq_yes (by omega)) | (have e46 : (z == 46) = false := eq_no (by omega))
    first | (have e45 : (z == 45) = true := eq_yes (by omega)) | (have e45 : (z == 45) = false := eq_no (by omega))
    first | (have e95 : (z == 95) = true := eq_yes (by omega)) | (have e95 : (z == 95) = false := eq_no (by omega))
    go_enter Yba.func7, Yba.ntmps7
    go_wp2
    go_ret
    exact ⟨rfl, rfl⟩

set_option maxHeartbeats 2000000 in
/-- validGroup's literal: is the rune NOT allowed? -/
theorem bad_any (r : Nat) (w : World) :
    Calls Yba.prog 13 #[.int .i32 r] w fun e w' => e = .returned (.bool (!okN r)) ∧ w' = w := by
  obtain ⟨z, hz⟩ : ∃ z : Int, z = (r : Int) := ⟨_, rfl⟩
  rcases ranges z with h | h | h | h | ⟨h, h'⟩ | ⟨h, h'⟩ | ⟨h, h'⟩ | ⟨h, h'⟩ | h | h | ⟨h, h'⟩ | h
  all_goals
    first | rw [ok_yes r (by omega)] | rw [ok_no r (by omega)]
    rw [← hz]
    clear hz
    first | (have e46 : (z == 46) = true := eq_yes (by omega)) | (have e46 : (z == 46) = false := eq_no (by omega))
    first | (have e45 : (z == 45) = true := eq_yes (by omega)) | (have e45 : (z == 45) = false := eq_no (by omega))
    first | (have e95 : (z == 95) = true := eq_yes (by omega)) | (have e95 : (z == 95) = false := eq_no (by omega))
    first | (have d57 : decide (z ≤ 57) = true := decide_eq_true (by omega)) | (have d57 : decide (z ≤ 57) = false := decide_eq_false (by omega))
    first | (have d90 : decide (z ≤ 90) = true := decide_eq_true (by omega)) | (have d90 : decide (z ≤ 90) = false := decide_eq_false (by omega))
    first | (have d122 : decide (z ≤ 122) = true := decide_eq_true (by omega)) | (have d122 : decide (z ≤ 122) = false := decide_eq_false (by omega))
    go_enter Yba.func13, Yba.ntmps13
    go_wp2
    go_ret
    exact ⟨rfl, rfl⟩


set_option maxHeartbeats 2000000 in
set_option maxRecDepth 1000000 in
/-- strings.indexFunc(s, <validGroup's literal>, true) -/
theorem index_any (s : ByteArray) (w : World) :
    Calls Yba.prog 17 #[.string s, .func (.func 13) #[] #[], .bool true] w fun e w' => e = .returned (.int .i64 (idxBad s)) ∧ Below w.heap.size w w' := by
  go_enter Yba.func17, Yba.ntmps17
  go_wp2
  go_loopg [] s.size (fun gf wx => ∃ pos : Nat, wx.heap[w.heap.size]? = some (.stringIter s pos) ∧ Below w.heap.size w wx ∧ idxFrom s gf pos = idxBad s ∧ s.size ≤ pos + gf)
  case atStart => exact ⟨0, World.iter_heap w s 0, (Below.refl _ w).alloc (Nat.le_refl _) _, rfl, by omega⟩
  case round =>
    obtain ⟨pos, hit, hbw, hleft, hfu⟩ := hrel
    by_cases hps : pos < s.size
    · obtain ⟨g', rfl⟩ : ∃ g', gk = g' + 1 := ⟨gk - 1, by omega⟩
      have hnx : ∀ ty, (Instr.next (.pointer (some ⟨w.heap.size, 0, none⟩)) true ty).run Yba.prog wr = _ := fun ty => Lib.run_next_any_at wr w.heap.size s pos ty hit hps
      have hwd := Lib.width_pos s pos
      obtain ⟨R, hR⟩ : ∃ R, (Utf8.decode s pos).1 = R := ⟨_, rfl⟩
      obtain ⟨K, hK⟩ : ∃ K, (Utf8.decode s pos).2 = K := ⟨_, rfl⟩
      simp only [idxFrom, hps, if_true, hR, hK] at hleft
      rw [hR, hK] at hnx
      rw [hK] at hwd
      have hit2 := Lib.iterAt_heap wr w.heap.size s pos (pos + K) hit
      have hbw2 := Lib.below_iterAt hbw (k := w.heap.size) (Nat.le_refl _) s (pos + K)
      obtain ⟨W, hWd⟩ : ∃ W, wr.iterAt w.heap.size s (pos + K) = W := ⟨_, rfl⟩
      rw [hWd] at hnx hit2 hbw2
      have cS := bad_any R W
      cases hsp : okN R <;> rw [hsp] at cS <;> simp only [hsp, if_true, Bool.true_eq_false, if_false] at hleft
      · go_wp2_with (go_at_call 13; refine cS.mono ?_; rintro e W' ⟨rfl, rfl⟩)
        go_ret
        exact ⟨by rw [← hleft] <;> rfl, hbw2⟩
      · go_wp2_with (go_at_call 13; refine cS.mono ?_; rintro e W' ⟨rfl, rfl⟩)
        go_roundg g'
        case measure => omega
        case rel => exact ⟨pos + K, hit2, hbw2, hleft, by omega⟩
    · have hnx : ∀ ty, (Instr.next (.pointer (some ⟨w.heap.size, 0, none⟩)) true ty).run Yba.prog wr = _ := fun ty => Lib.run_next_end_at wr w.heap.size s pos ty hit hps
      rw [idxFrom_end s gk pos hps] at hleft
      go_wp2
      go_ret
      exact ⟨by rw [← hleft] <;> rfl, hbw⟩

/-- strings.IndexFunc(s, <validGroup's literal>) -/
theorem Index_any (s : ByteArray) (w : World) :
    Calls Yba.prog 12 #[.string s, .func (.func 13) #[] #[]] w fun e w' => e = .returned (.int .i64 (idxBad s)) ∧ Below w.heap.size w w' := by
  go_enter Yba.func12, Yba.ntmps12
  go_wp2_with (go_at_call 17; refine (index_any s _).mono ?_; rintro e w' ⟨rfl, hb⟩)
  go_ret
  exact ⟨rfl, hb⟩

theorem vg_none (s : ByteArray) (h : ¬ 1 ≤ s.size) : vg s = false := by simp [vg, decide_eq_false h]
theorem vg_long (s : ByteArray) (h : ¬ s.size ≤ 64) : vg s = false := by simp [vg, decide_eq_false h]
theorem vg_yes (s : ByteArray) (h : 1 ≤ s.size) (h' : s.size ≤ 64) (hi : idxBad s < 0) : vg s = true := by simp [vg, h, h', (idxBad_iff s).1 hi]
theorem vg_no (s : ByteArray) (hi : ¬ idxBad s < 0) : vg s = false := by
  have : okAll s.data.toList = false := by
    cases he : okAll s.data.toList
    · rfl
    · exact absurd ((idxBad_iff s).2 he) hi
  simp [vg, this]

/-- validGroup -/
theorem vg_any (s : ByteArray) (hs : s.size ≤ maxLen) (w : World) :
    Calls Yba.prog 8 #[.string s] w fun e w' => e = .returned (.bool (vg s)) ∧ Below w.heap.size w w' := by
  unfold maxLen at hs
  by_cases h1 : 1 ≤ s.size
  · have h1' : (1 : Int) ≤ (s.size : Int) := by omega
    by_cases h2 : s.size ≤ 64
    · have h2' : (s.size : Int) ≤ 64 := by omega
      have h2d : decide ((s.size : Int) ≤ 64) = true := decide_eq_true h2'
      obtain ⟨i, hi⟩ : ∃ i, i = idxBad s := ⟨_, rfl⟩
      have hc := fun w => Index_any s w
      rw [← hi] at hc
      by_cases h3 : i < 0
      · rw [vg_yes s h1 h2 (by rw [← hi]; exact h3)]
        have h3d : decide (i < 0) = true := decide_eq_true h3
        clear hi
        go_enter Yba.func8, Yba.ntmps8
        go_wp2_with (go_at_call 12; refine (hc _).mono ?_; rintro e w' ⟨rfl, hb⟩)
        go_ret
        exact ⟨rfl, hb⟩
      · rw [vg_no s (by rw [← hi]; exact h3)]
        have h3d : decide (i < 0) = false := decide_eq_false h3
        clear hi
        go_enter Yba.func8, Yba.ntmps8
        go_wp2_with (go_at_call 12; refine (hc _).mono ?_; rintro e w' ⟨rfl, hb⟩)
        go_ret
        exact ⟨rfl, hb⟩
    · rw [vg_long s h2]
      have h2d : decide ((s.size : Int) ≤ 64) = false := decide_eq_false (by omega)
      have h2' : (64 : Int) < (s.size : Int) := by omega
      go_enter Yba.func8, Yba.ntmps8
      go_wp2
      go_ret
      exact ⟨rfl, Below.refl _ _⟩
  · rw [vg_none s h1]
    have h1d : decide ((1 : Int) ≤ (s.size : Int)) = false := decide_eq_false (by omega)
    have h1' : (s.size : Int) < 1 := by omega
    go_enter Yba.func8, Yba.ntmps8
    go_wp2
    go_ret
    exact ⟨rfl, Below.refl _ _⟩

end Go.Proofs.Ybulkcqsw
