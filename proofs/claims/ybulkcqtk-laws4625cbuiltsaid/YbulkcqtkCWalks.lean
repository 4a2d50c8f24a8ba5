/-
  THE WALKS that LawS4625CSpan and LawS4625CBuilt share: the two digit tests, digitsEnd.
-/
import Derived.Test.YbulkcqtkRows
import Derived.Test.YbulkcqtkCPlain
import Derived.WalkKit
import Derived.WalkLawsBesides
namespace Go.Proofs.Ybulkcqtk
open Go.RowKit

/-- zzs4625cdigit -/
theorem digit_any (c : Nat) (w : World) : Calls Yba.prog 14 #[.int .u8 c] w fun e w' => e = .returned (.bool (digB c)) ∧ w' = w := by
  obtain ⟨z, hz⟩ : ∃ z : Int, z = (c : Int) := ⟨_, rfl⟩
  by_cases h1 : 48 ≤ z
  · by_cases h2 : z ≤ 57
    · rw [digB_yes c (by omega) (by omega), ← hz]
      have d2 : decide (z ≤ 57) = true := decide_eq_true h2
      clear hz
      go_enter Yba.func14, Yba.ntmps14
      go_wp2
      go_ret
      exact ⟨rfl, rfl⟩
    · rw [digB_no c (by omega), ← hz]
      have d2 : decide (z ≤ 57) = false := decide_eq_false h2
      clear hz
      go_enter Yba.func14, Yba.ntmps14
      go_wp2
      go_ret
      exact ⟨rfl, rfl⟩
  · rw [digB_no c (by omega), ← hz]
    have d1 : decide (48 ≤ z) = false := decide_eq_false h1
    clear hz
    go_enter Yba.func14, Yba.ntmps14
    go_wp2
    go_ret
    exact ⟨rfl, rfl⟩

/-- isDigit -/
theorem isDigit_any (c : Nat) (w : World) : Calls Yba.prog 16 #[.int .u8 c] w fun e w' => e = .returned (.bool (digB c)) ∧ w' = w := by
  obtain ⟨z, hz⟩ : ∃ z : Int, z = (c : Int) := ⟨_, rfl⟩
  by_cases h1 : 48 ≤ z
  · by_cases h2 : z ≤ 57
    · rw [digB_yes c (by omega) (by omega), ← hz]
      have d2 : decide (z ≤ 57) = true := decide_eq_true h2
      clear hz
      go_enter Yba.func16, Yba.ntmps16
      go_wp2
      go_ret
      exact ⟨rfl, rfl⟩
    · rw [digB_no c (by omega), ← hz]
      have d2 : decide (z ≤ 57) = false := decide_eq_false h2
      clear hz
      go_enter Yba.func16, Yba.ntmps16
      go_wp2
      go_ret
      exact ⟨rfl, rfl⟩
  · rw [digB_no c (by omega), ← hz]
    have d1 : decide (48 ≤ z) = false := decide_eq_false h1
    clear hz
    go_enter Yba.func16, Yba.ntmps16
    go_wp2
    go_ret
    exact ⟨rfl, rfl⟩

/-- digitsEnd -/
theorem end_any (s : ByteArray) (j : Nat) (hs : s.size ≤ 100000) (hj : j ≤ 200000) (w : World) :
    Calls Yba.prog 13 #[.string s, .int .i64 j] w fun e w' => ∃ r : Nat, e = .returned (.int .i64 r) ∧ Ends s j r ∧ w' = w := by
  go_enter Yba.func13, Yba.ntmps13
  go_wp2
  go_loop [1] (fun v => ∃ k : Nat, j ≤ k ∧ k ≤ 200000 ∧ v = .int .i64 k ∧ ∀ i, j ≤ i → i < k → i < s.size ∧ digB (bt s i) = true) (fun v => 300000 - (intOf v).toNat)
  case atStart => exact ⟨j, Nat.le_refl _, hj, rfl, fun i h h' => absurd h' (by omega)⟩
  case round =>
    obtain ⟨k, hjk, hk, rfl, hall⟩ := hrel
    by_cases hlt : k < s.size
    · have cS := fun W => isDigit_any s[k].toNat W
      have HB : Hid ((s[k]).toNat = bt s k) := bt_at s k hlt
      cases hb : digB s[k].toNat
      · rw [hb] at cS
        have hE : Ends s j k := ⟨hjk, hall, fun _ => by rw [← HB.out]; exact hb⟩
        clear hb hall HB
        go_wp2_with (go_at_call 16; refine (cS _).mono ?_; rintro e w' ⟨rfl, rfl⟩)
        go_ret
        exact ⟨k, rfl, hE, rfl⟩
      · rw [hb] at cS
        have hall' : ∀ i, j ≤ i → i < k + 1 → i < s.size ∧ digB (bt s i) = true := fun i h h' => by
          by_cases e : i = k
          · subst e; exact ⟨hlt, by rw [← HB.out]; exact hb⟩
          · exact hall i h (by omega)
        clear hb hall HB
        go_wp2_with (go_at_call 16; refine (cS _).mono ?_; rintro e w' ⟨rfl, rfl⟩)
        go_round
        case rel => exact ⟨k + 1, by omega, by omega, by go_num, hall'⟩
        case measure => simp [intOf]; omega
    · have hE : Ends s j k := ⟨hjk, hall, fun h => absurd h hlt⟩
      clear hall
      go_wp2
      go_ret
      exact ⟨k, rfl, hE, rfl⟩
end Go.Proofs.Ybulkcqtk
