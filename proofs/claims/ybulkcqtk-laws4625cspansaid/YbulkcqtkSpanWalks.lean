/-
  THE WALKS of LawS4625CSpan.
-/
import Derived.Test.YbulkcqtkRows
import Derived.Test.YbulkcqtkCWalks
import Derived.WalkKit
namespace Go.Proofs.Ybulkcqtk
open Go.RowKit

theorem span_long (s : ByteArray) (k : Int) (hs : s.size ≤ maxLen) (h : 4096 < s.size) (w : World) :
    Calls Yba.prog 5 #[.string s, .int .u64 k] w fun e w' => e = .returned (.bool true) ∧ w' = w := by
  unfold maxLen at hs
  have h' : (4096 : Int) < (s.size : Int) := by omega
  go_enter Yba.func5, Yba.ntmps5
  go_wp2
  go_ret
  exact ⟨rfl, rfl⟩

set_option maxRecDepth 100000 in
theorem span_any (s : ByteArray) (k : Int) (hk : 0 ≤ k) (hk' : k ≤ 18446744073709551615) (h : s.size ≤ 4096) (w : World) :
    Calls Yba.prog 5 #[.string s, .int .u64 k] w fun e w' => e = .returned (.bool true) ∧ w' = w := by
  obtain ⟨j, hj⟩ : ∃ j : Nat, k % ((s.size : Int) + 2) = (j : Int) := ⟨(k % ((s.size : Int) + 2)).toNat, by have := Int.emod_nonneg k (b := (s.size : Int) + 2) (by omega); omega⟩
  have hjs : j < s.size + 2 := by have := Int.emod_lt_of_pos k (b := (s.size : Int) + 2) (by omega); omega
  have cE := fun W => end_any s j (by omega) (by omega) W
  go_enter Yba.func5, Yba.ntmps5
  go_wp2_with fail
  refine (cE _).mono ?_
  rintro e w' ⟨r, rfl, hE, rfl⟩
  clear cE hj
  have hle := hE.le
  by_cases hp : s.size ≤ j
  · have hr := hE.past hp
    clear hE
    subst hr
    go_wp2
    go_ret
    exact ⟨by simp, rfl⟩
  · have hr := hE.le_size (by omega)
    have hjlt : j < s.size := by omega
    clear hp
    have e1 : decide (r < j) = false := decide_eq_false (by omega)
    have e2 : decide (s.size < r) = false := decide_eq_false (by omega)
    have e3 : decide (s.size ≤ j) = false := decide_eq_false (by omega)
    go_wp2
    clear e1 e2 e3
    go_loop [7] (fun v => ∃ i : Nat, j ≤ i ∧ i ≤ r ∧ v = .int .i64 i) (fun v => r - (intOf v).toNat)
    case atStart => exact ⟨j, by omega, by omega, rfl⟩
    case round =>
      obtain ⟨i, hji, hir, rfl⟩ := hrel
      by_cases hlt : i < r
      · have his : i < s.size := by omega
        have cD := fun W => digit_any s[i].toNat W
        have hv : digB s[i].toNat = true := by rw [bt_at s i his]; exact (hE.all i hji hlt).2
        rw [hv] at cD
        clear hE hv
        go_wp2_with (go_at_call 14; refine (cD _).mono ?_; rintro e w'' ⟨rfl, rfl⟩)
        go_round
        case rel => exact ⟨i + 1, by omega, by omega, by go_num⟩
        case measure => simp [intOf]; omega
      · have hir' : i = r := by omega
        subst hir'
        by_cases hend : i = s.size
        · have hb : ((i : Int) == (s.size : Int)) = true := by simp; omega
          clear hE
          go_wp2
          go_ret
          exact ⟨rfl, rfl⟩
        · have his : i < s.size := by omega
          have hb : ((i : Int) == (s.size : Int)) = false := by simp; omega
          have cD := fun W => digit_any s[i].toNat W
          have hv : digB s[i].toNat = false := by rw [bt_at s i his]; exact hE.stop his
          rw [hv] at cD
          clear hE hv
          go_wp2_with (go_at_call 14; refine (cD _).mono ?_; rintro e w'' ⟨rfl, rfl⟩)
          go_ret
          exact ⟨rfl, rfl⟩
end Go.Proofs.Ybulkcqtk
