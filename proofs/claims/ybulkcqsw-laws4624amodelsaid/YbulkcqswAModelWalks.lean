/-
  THE WALK of LawS4624AModel.
-/
import Derived.Test.YbulkcqswRows
import Derived.Test.YbulkcqswAWalks
import Derived.WalkKit
namespace Go.Proofs.Ybulkcqsw
open Go.RowKit

def lenOk (s : ByteArray) : Bool := decide (1 ≤ s.size) && decide (s.size ≤ 64)
theorem vg_is (s : ByteArray) : vg s = (lenOk s && okAll s.data.toList) := rfl

set_option maxRecDepth 100000 in
set_option maxHeartbeats 1000000 in
theorem model_any (s : ByteArray) (hs0 : s.size ≤ maxLen) (w : World) :
    Calls Yba.prog 3 #[.string s] w fun e w' => e = .returned (.bool true) ∧ Below w.heap.size w w' := by
  have hs := hs0
  unfold maxLen at hs
  have cV := fun W => vg_any s hs0 W
  have HV0 := vg_is s
  by_cases h1 : 1 ≤ s.size
  · by_cases h2 : s.size ≤ 64
    · have d2 : decide ((s.size : Int) ≤ 64) = true := decide_eq_true (by omega)
      have HV : Hid (vg s = (true && okAll s.data.toList)) := show vg s = (true && okAll s.data.toList) by rw [HV0]; simp [lenOk, h1, h2]
      clear HV0
      go_enter Yba.func3, Yba.ntmps3
      go_wp2
      go_loop [3, 4] (fun v i => ∃ k : Nat, k ≤ s.size ∧ i = .int .i64 k ∧ v = .bool (true && okAll (s.data.toList.take k))) (fun _ i => s.size - (intOf i).toNat)
      case atStart => exact ⟨0, Nat.zero_le _, rfl, rfl⟩
      case round =>
        obtain ⟨k, hk, rfl, rfl⟩ := hrel
        by_cases hlt : k < s.size
        · have HS : Hid (okAll (s.data.toList.take (k + 1)) = (okAll (s.data.toList.take k) && okN s[k].toNat)) := by rw [take_snoc s k hlt]; exact okAll_snoc _ _
          have cS := fun W => ok_any s[k].toNat W
          cases hb : okN s[k].toNat
          · rw [hb] at cS HS
            clear hb
            go_wp2_with (go_at_call 7; refine (cS _).mono ?_; rintro e w' ⟨rfl, rfl⟩)
            go_round
            case rel => exact ⟨k + 1, by omega, by go_num, by rw [HS.out]; simp⟩
            case measure => simp [intOf]; omega
          · rw [hb] at cS HS
            clear hb
            go_wp2_with (go_at_call 7; refine (cS _).mono ?_; rintro e w' ⟨rfl, rfl⟩)
            go_round
            case rel => exact ⟨k + 1, by omega, by go_num, by rw [HS.out]; simp⟩
            case measure => simp [intOf]; omega
        · have hT : s.data.toList.take k = s.data.toList := List.take_of_length_le (by simp; omega)
          rw [hT]
          rw [HV.out] at cV
          clear hT HV
          obtain ⟨V, hV⟩ : ∃ V, V = (true && okAll s.data.toList) := ⟨_, rfl⟩
          rw [← hV] at cV ⊢
          clear hV
          go_wp2_with (go_at_call 8; refine (cV _).mono ?_; rintro e w' ⟨rfl, hb⟩)
          go_ret
          exact ⟨by simp, hb⟩
    · have d2 : decide ((s.size : Int) ≤ 64) = false := decide_eq_false (by omega)
      have HV : Hid (vg s = (false && okAll s.data.toList)) := show vg s = (false && okAll s.data.toList) by rw [HV0]; simp [lenOk, h2]
      clear HV0
      go_enter Yba.func3, Yba.ntmps3
      go_wp2
      go_loop [3, 4] (fun v i => ∃ k : Nat, k ≤ s.size ∧ i = .int .i64 k ∧ v = .bool (false && okAll (s.data.toList.take k))) (fun _ i => s.size - (intOf i).toNat)
      case atStart => exact ⟨0, Nat.zero_le _, rfl, rfl⟩
      case round =>
        obtain ⟨k, hk, rfl, rfl⟩ := hrel
        by_cases hlt : k < s.size
        · have HS : Hid (okAll (s.data.toList.take (k + 1)) = (okAll (s.data.toList.take k) && okN s[k].toNat)) := by rw [take_snoc s k hlt]; exact okAll_snoc _ _
          have cS := fun W => ok_any s[k].toNat W
          cases hb : okN s[k].toNat
          · rw [hb] at cS HS
            clear hb
            go_wp2_with (go_at_call 7; refine (cS _).mono ?_; rintro e w' ⟨rfl, rfl⟩)
            go_round
            case rel => exact ⟨k + 1, by omega, by go_num, by rw [HS.out]; simp⟩
            case measure => simp [intOf]; omega
          · rw [hb] at cS HS
            clear hb
            go_wp2_with (go_at_call 7; refine (cS _).mono ?_; rintro e w' ⟨rfl, rfl⟩)
            go_round
            case rel => exact ⟨k + 1, by omega, by go_num, by rw [HS.out]; simp⟩
            case measure => simp [intOf]; omega
        · have hT : s.data.toList.take k = s.data.toList := List.take_of_length_le (by simp; omega)
          rw [hT]
          rw [HV.out] at cV
          clear hT HV
          obtain ⟨V, hV⟩ : ∃ V, V = (false && okAll s.data.toList) := ⟨_, rfl⟩
          rw [← hV] at cV ⊢
          clear hV
          go_wp2_with (go_at_call 8; refine (cV _).mono ?_; rintro e w' ⟨rfl, hb⟩)
          go_ret
          exact ⟨by simp, hb⟩
  · have d1 : decide (1 ≤ (s.size : Int)) = false := decide_eq_false (by omega)
    have HV : Hid (vg s = (false && okAll s.data.toList)) := show vg s = (false && okAll s.data.toList) by rw [HV0]; simp [lenOk, h1]
    clear HV0
    go_enter Yba.func3, Yba.ntmps3
    go_wp2
    go_loop [3, 4] (fun v i => ∃ k : Nat, k ≤ s.size ∧ i = .int .i64 k ∧ v = .bool (false && okAll (s.data.toList.take k))) (fun _ i => s.size - (intOf i).toNat)
    case atStart => exact ⟨0, Nat.zero_le _, rfl, rfl⟩
    case round =>
      obtain ⟨k, hk, rfl, rfl⟩ := hrel
      by_cases hlt : k < s.size
      · have HS : Hid (okAll (s.data.toList.take (k + 1)) = (okAll (s.data.toList.take k) && okN s[k].toNat)) := by rw [take_snoc s k hlt]; exact okAll_snoc _ _
        have cS := fun W => ok_any s[k].toNat W
        cases hb : okN s[k].toNat
        · rw [hb] at cS HS
          clear hb
          go_wp2_with (go_at_call 7; refine (cS _).mono ?_; rintro e w' ⟨rfl, rfl⟩)
          go_round
          case rel => exact ⟨k + 1, by omega, by go_num, by rw [HS.out]; simp⟩
          case measure => simp [intOf]; omega
        · rw [hb] at cS HS
          clear hb
          go_wp2_with (go_at_call 7; refine (cS _).mono ?_; rintro e w' ⟨rfl, rfl⟩)
          go_round
          case rel => exact ⟨k + 1, by omega, by go_num, by rw [HS.out]; simp⟩
          case measure => simp [intOf]; omega
      · have hT : s.data.toList.take k = s.data.toList := List.take_of_length_le (by simp; omega)
        rw [hT]
        rw [HV.out] at cV
        clear hT HV
        obtain ⟨V, hV⟩ : ∃ V, V = (false && okAll s.data.toList) := ⟨_, rfl⟩
        rw [← hV] at cV ⊢
        clear hV
        go_wp2_with (go_at_call 8; refine (cV _).mono ?_; rintro e w' ⟨rfl, hb⟩)
        go_ret
        exact ⟨by simp, hb⟩

end Go.Proofs.Ybulkcqsw
