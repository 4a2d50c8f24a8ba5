/-
  THE WALKS of LawS4625CBuilt: ds with an element; without one; an argument longer than 4096.
-/
import Derived.Test.YbulkcqtkRows
import Derived.Test.YbulkcqtkCWalks
import Derived.Test.YbulkcqtkBuiltPlain
import Derived.WalkKit
import Derived.OpenShut
import Derived.Maps.AppendAt
namespace Go.Proofs.Ybulkcqtk
open Go.RowKit Go.Lib Go.Maps

/-- digitsEnd at what was gathered. -/
theorem end_built (pre : ByteArray) (zs : List Int) (k : Nat) (R : List Int) (hk : k ≤ zs.length) (hR : NoDigit R) (hlen : (ints pre ++ digs zs k ++ R).length ≤ 100000) (hp : pre.size ≤ 4096) (W : World) :
    Calls Yba.prog 13 #[.string (strOfNums (ints pre ++ digs zs k ++ R)), .int .i64 pre.size] W fun e w' => e = .returned (.int .i64 ((pre.size : Int) + (k : Int))) ∧ w' = W := by
  have hE := ends_built (ints pre) zs k R hk hR
  rw [ints_length] at hE
  exact (end_any _ pre.size (by rw [strOfNums_size]; exact hlen) (by omega) W).mono fun e w' ⟨r, he, hE', hw⟩ => ⟨by rw [he, hE'.unique hE]; simp, hw⟩

theorem digit_is (c : Nat) (v : Bool) (h : digB c = v) (W : World) : Calls Yba.prog 14 #[.int .u8 c] W fun e w' => e = .returned (.bool v) ∧ W = w' := by
  rw [← h]
  exact (digit_any c W).mono fun e w' ⟨h1, h2⟩ => ⟨h1, h2.symm⟩

theorem info5 : (Yba.prog.info? 5).map (fun i => (i.zero, i.size, i.bytes)) = some (some (.int .u8 0), 1, 1) := by kernel_rfl

set_option maxRecDepth 100000 in
set_option maxHeartbeats 1000000 in
theorem built_some (pre tail : ByteArray) (b off n cap : Nat) (zs : List Int) (w : World) (hp : pre.size ≤ 4096) (ht : tail.size ≤ 4096) (hn : n ≤ 4096) (hpos : 0 < n) (hl : n ≤ zs.length)
    (hcell : ∀ i, i < zs.length → w.cell? ⟨b, off + i, none⟩ = some (.int .u8 (zs.getD i 0))) (hwf : ∀ x ∈ zs, 0 ≤ x ∧ x ≤ 255) :
    Calls Yba.prog 6 #[.string pre, .slice (some ⟨b, off, none⟩) n cap, .string tail] w fun e w' => e = .returned (.bool true) ∧ Below w.heap.size w w' := by
  obtain ⟨i5, hi, hz0, hz1, hz2⟩ := info_parts info5
  have hmk := fun W : World => run_make (P := Yba.prog) W 39 5 i5 (.int .u8 0) Yba.underlying39 hi hz0 .i64 .i64 0 ((pre.size : Int) + (n : Int) + (tail.size : Int) + 1) (by omega) (by omega) (by rw [hz2]; omega) (by omega)
  have hN : ((pre.size : Int) + (n : Int) + (tail.size : Int) + 1).toNat = pre.size + n + tail.size + 1 := by omega
  rw [hN, hz1, Nat.mul_one] at hmk
  clear hN
  have e1 : decide ((4096 : Int) < (pre.size : Int)) = false := decide_eq_false (by omega)
  have e2 : decide ((4096 : Int) < (n : Int)) = false := decide_eq_false (by omega)
  have e3 : decide ((4096 : Int) < (tail.size : Int)) = false := decide_eq_false (by omega)
  have hmade : (w.alloc (.cells (madeCells #[.int .u8 0] (pre.size + n + tail.size + 1)) 5)).ownsRow w.heap.size 5 1 (.slice (some ⟨w.heap.size, 0, none⟩) 0 (pre.size + n + tail.size + 1)) 0 [] :=
    World.ownsRow_made w _ _ (Nat.le_refl _) (by unfold maxLen; omega) (by rw [size_madeCells, Nat.mul_one])
  have hB0 : Buf w.heap.size (.slice (some ⟨w.heap.size, 0, none⟩) 0 (pre.size + n + tail.size + 1)) [] w (w.alloc (.cells (madeCells #[.int .u8 0] (pre.size + n + tail.size + 1)) 5)) :=
    ⟨hmade, (Below.refl _ w).alloc (Nat.le_refl _) _, by simp⟩
  go_enter Yba.func6, Yba.ntmps6
  go_wp2_with (at_builtin; refine wpList_append_own_string _ rfl (.tmp 32) (.tmp 33) 39 9 rfl w.heap.size 5 i5 Yba.underlying39 Yba.underlying9 hi hz0 hz1 hz2 _ 0 [] rfl hmade pre rfl (by unfold maxLen; omega) (by omega) (by simp) ?_; intro v1 w1 hown1 hgrow1 _)
  have hB1 : Buf w.heap.size v1 (ints pre ++ digs zs 0) w w1 := hB0.grown hown1 (by simp [ints_length, digs]) (by simp [ints_cells, digs]) hgrow1
  clear hown1 hgrow1 hB0 hmade hmk
  go_loopw [7, 8] (fun v i wr => ∃ k : Nat, k ≤ n ∧ i = .int .i64 k ∧ Buf w.heap.size v (ints pre ++ digs zs k) w wr) (fun _ i _ => n - (intOf i).toNat)
  case atStart => exact ⟨0, Nat.zero_le _, rfl, hB1⟩
  case round =>
    clear hB1
    obtain ⟨k, hk, rfl, hB⟩ := hrel
    by_cases hlt : k < n
    · obtain ⟨z, hz⟩ : ∃ z, z = zs.getD k 0 := ⟨_, rfl⟩
      have hz' : 0 ≤ z ∧ z ≤ 255 := by
        rw [hz, List.getD_eq_getElem?_getD, List.getElem?_eq_getElem (show k < zs.length by omega)]; exact hwf _ (List.getElem_mem _)
      have hcw := hcell k (by omega)
      have hbw := World.block_lt_of_cell? _ _ hcw
      simp only at hbw
      have hcx : wr.cell? ⟨b, off + k, none⟩ = some (.int .u8 z) := by rw [hz]; exact (hB.2.1.cell hbw).trans hcw
      have HD : Hid (ints pre ++ digs zs (k + 1) = (ints pre ++ digs zs k) ++ [48 + z % 10]) := by
        show ints pre ++ digs zs (k + 1) = (ints pre ++ digs zs k) ++ [48 + z % 10]
        rw [digs_succ zs k (by omega), hz, List.append_assoc]
      have hLk : (ints pre ++ digs zs k).length = pre.size + k := by rw [List.length_append, ints_length, digs_length zs k (by omega)]
      have HL : Hid ((ints pre ++ digs zs k).length = pre.size + k) := hLk
      have hlen1 : (ints pre ++ digs zs k).length + 1 ≤ 100000 := by omega
      clear hz hcw hLk
      go_wp2_with (at_builtin; refine wpList_append_own _ rfl (.tmp 41) (.tmp 48) 39 rfl w.heap.size 5 i5 (.int .u8 0) 1 1 Yba.underlying39 hi hz0 hz1 hz2 rfl (by decide) _ _ _ rfl (hB.1.alloc _) ⟨wr.heap.size, 0, none⟩ 1 1 [.int .u8 (48 + z % 10)] rfl rfl (cell_one_new _ _ _) (ints_oneCell .u8 [48 + z % 10]) (by unfold maxLen; omega) (by omega) (by have := hB.2.2; simp; omega) ?_; intro v' w' hown' hgrow' _)
      have hB' : Buf w.heap.size v' (ints pre ++ digs zs (k + 1)) w w' := by
        rw [HD.out]
        exact (hB.alloc _).grown hown' (by simp; omega) (by simp) hgrow'
      clear hown' hgrow' hB
      go_roundw
      case rel => exact ⟨k + 1, by omega, by go_num, hB'⟩
      case measure => simp [intOf]; omega
    · have hkn : k = n := by omega
      subst hkn
      have hLk : (ints pre ++ digs zs k).length = pre.size + k := by rw [List.length_append, ints_length, digs_length zs k (by omega)]
      have hlen1 : (ints pre ++ digs zs k).length ≤ 10000 := by omega
      clear hLk
      rcases Nat.eq_zero_or_pos tail.size with h0 | h0
      · have d0 : decide ((0 : Int) < (tail.size : Int)) = false := decide_eq_false (by omega)
        have hN : NoDigit (ints tail) := noDigit_t tail (fun h => absurd h (by omega))
        have h0' : tail.size < 1 := by omega
        clear h0
        obtain ⟨S, hS⟩ : ∃ S, S = strOfNums (ints pre ++ digs zs k ++ ints tail) := ⟨_, rfl⟩
        have HS : Hid (S = strOfNums (ints pre ++ digs zs k ++ ints tail)) := hS
        have cE := fun W => end_built pre zs k (ints tail) hl hN (by simp [ints_length] at hlen1 ⊢; omega) hp W
        rw [← hS] at cE
        clear hS
        go_wp2_with (first | (at_builtin; refine wpList_append_own_string _ rfl (.tmp 61) (.tmp 62) 39 9 rfl w.heap.size 5 i5 Yba.underlying39 Yba.underlying9 hi hz0 hz1 hz2 _ _ _ rfl hB.1 tail rfl (by unfold maxLen; omega) (by omega) hB.2.2 ?_; intro v3 w3 hown3 hgrow3 _; have hB3 : Buf w.heap.size v3 (ints pre ++ digs zs k ++ ints tail) w w3 := hB.grown hown3 (by simp [ints_length]; omega) (by simp [ints_cells]) hgrow3; have hcv := hB3.text (P := Yba.prog) 39 Yba.underlying39 Yba.underlying5 9 Yba.underlying9; rw [← HS.out] at hcv; have hbel := hB3.2.1; clear hown3 hgrow3 hB hB3) | (go_at_call 13; refine (cE _).mono ?_; rintro e w' ⟨rfl, rfl⟩))
        go_ret
        exact ⟨by simp, hbel⟩
      · have h0' : (0 : Int) < (tail.size : Int) := by omega
        cases hd : digB (tail[0]).toNat
        · have hN : NoDigit (ints tail) := noDigit_t tail (fun _ => hd)
          have cD := fun W => digit_is (tail[0]).toNat false hd W
          clear hd
          obtain ⟨S, hS⟩ : ∃ S, S = strOfNums (ints pre ++ digs zs k ++ ints tail) := ⟨_, rfl⟩
          have HS : Hid (S = strOfNums (ints pre ++ digs zs k ++ ints tail)) := hS
          have cE := fun W => end_built pre zs k (ints tail) hl hN (by simp [ints_length] at hlen1 ⊢; omega) hp W
          rw [← hS] at cE
          clear hS
          go_wp2_with (first | (go_at_call 14; refine (cD _).mono ?_; rintro e w' ⟨rfl, rfl⟩) | (at_builtin; refine wpList_append_own_string _ rfl (.tmp 61) (.tmp 62) 39 9 rfl w.heap.size 5 i5 Yba.underlying39 Yba.underlying9 hi hz0 hz1 hz2 _ _ _ rfl hB.1 tail rfl (by unfold maxLen; omega) (by omega) hB.2.2 ?_; intro v3 w3 hown3 hgrow3 _; have hB3 : Buf w.heap.size v3 (ints pre ++ digs zs k ++ ints tail) w w3 := hB.grown hown3 (by simp [ints_length]; omega) (by simp [ints_cells]) hgrow3; have hcv := hB3.text (P := Yba.prog) 39 Yba.underlying39 Yba.underlying5 9 Yba.underlying9; rw [← HS.out] at hcv; have hbel := hB3.2.1; clear hown3 hgrow3 hB hB3) | (go_at_call 13; refine (cE _).mono ?_; rintro e w' ⟨rfl, rfl⟩))
          go_ret
          exact ⟨by simp, hbel⟩
        · have hN := noDigit_x tail
          have cD := fun W => digit_is (tail[0]).toNat true hd W
          clear hd
          obtain ⟨S, hS⟩ : ∃ S, S = strOfNums (ints pre ++ digs zs k ++ ([120] ++ ints tail)) := ⟨_, rfl⟩
          have HS : Hid (S = strOfNums (ints pre ++ digs zs k ++ ([120] ++ ints tail))) := hS
          have cE := fun W => end_built pre zs k (([120] ++ ints tail)) hl hN (by simp [ints_length] at hlen1 ⊢; omega) hp W
          rw [← hS] at cE
          clear hS
          have hlen2 : (ints pre ++ digs zs k ++ [120]).length ≤ 10001 := by simp at hlen1 ⊢; omega
          go_wp2_with (first | (go_at_call 14; refine (cD _).mono ?_; rintro e w' ⟨rfl, rfl⟩) | (at_builtin; refine wpList_append_own _ rfl (.tmp 58) (.tmp 59) 39 rfl w.heap.size 5 i5 (.int .u8 0) 1 1 Yba.underlying39 hi hz0 hz1 hz2 rfl (by decide) _ _ _ rfl (hB.1.alloc _) ⟨wr.heap.size, 0, none⟩ 1 1 [.int .u8 120] rfl rfl (cell_one_new _ _ _) (ints_oneCell .u8 [120]) (by unfold maxLen; omega) (by omega) (by have := hB.2.2; simp; omega) ?_; intro v2 w2 hown2 hgrow2 _; have hB2 : Buf w.heap.size v2 (ints pre ++ digs zs k ++ [120]) w w2 := (hB.alloc _).grown hown2 (by simp; omega) (by simp) hgrow2; clear hown2 hgrow2 hB) | (at_builtin; refine wpList_append_own_string _ rfl (.tmp 61) (.tmp 62) 39 9 rfl w.heap.size 5 i5 Yba.underlying39 Yba.underlying9 hi hz0 hz1 hz2 _ _ _ rfl hB2.1 tail rfl (by unfold maxLen; omega) (by omega) hB2.2.2 ?_; intro v3 w3 hown3 hgrow3 _; have hB3 : Buf w.heap.size v3 (ints pre ++ digs zs k ++ ([120] ++ ints tail)) w w3 := hB2.grown hown3 (by simp [ints_length]; omega) (by simp [ints_cells]) hgrow3; have hcv := hB3.text (P := Yba.prog) 39 Yba.underlying39 Yba.underlying5 9 Yba.underlying9; rw [← HS.out] at hcv; have hbel := hB3.2.1; clear hown3 hgrow3 hB2 hB3) | (go_at_call 13; refine (cE _).mono ?_; rintro e w' ⟨rfl, rfl⟩))
          go_ret
          exact ⟨by simp, hbel⟩
set_option maxRecDepth 100000 in
set_option maxHeartbeats 1000000 in
theorem built_none (pre tail : ByteArray) (a1 : Option Addr) (n cap : Nat) (w : World) (hp : pre.size ≤ 4096) (ht : tail.size ≤ 4096) (hn : n < 1) :
    Calls Yba.prog 6 #[.string pre, .slice a1 n cap, .string tail] w fun e w' => e = .returned (.bool true) ∧ Below w.heap.size w w' := by
  obtain ⟨zs, hl⟩ : ∃ zs : List Int, n ≤ zs.length := ⟨[], by simp; omega⟩
  obtain ⟨i5, hi, hz0, hz1, hz2⟩ := info_parts info5
  have hmk := fun W : World => run_make (P := Yba.prog) W 39 5 i5 (.int .u8 0) Yba.underlying39 hi hz0 .i64 .i64 0 ((pre.size : Int) + (n : Int) + (tail.size : Int) + 1) (by omega) (by omega) (by rw [hz2]; omega) (by omega)
  have hN : ((pre.size : Int) + (n : Int) + (tail.size : Int) + 1).toNat = pre.size + n + tail.size + 1 := by omega
  rw [hN, hz1, Nat.mul_one] at hmk
  clear hN
  have e1 : decide ((4096 : Int) < (pre.size : Int)) = false := decide_eq_false (by omega)
  have e2 : decide ((4096 : Int) < (n : Int)) = false := decide_eq_false (by omega)
  have e3 : decide ((4096 : Int) < (tail.size : Int)) = false := decide_eq_false (by omega)
  have hmade : (w.alloc (.cells (madeCells #[.int .u8 0] (pre.size + n + tail.size + 1)) 5)).ownsRow w.heap.size 5 1 (.slice (some ⟨w.heap.size, 0, none⟩) 0 (pre.size + n + tail.size + 1)) 0 [] :=
    World.ownsRow_made w _ _ (Nat.le_refl _) (by unfold maxLen; omega) (by rw [size_madeCells, Nat.mul_one])
  have hB0 : Buf w.heap.size (.slice (some ⟨w.heap.size, 0, none⟩) 0 (pre.size + n + tail.size + 1)) [] w (w.alloc (.cells (madeCells #[.int .u8 0] (pre.size + n + tail.size + 1)) 5)) :=
    ⟨hmade, (Below.refl _ w).alloc (Nat.le_refl _) _, by simp⟩
  go_enter Yba.func6, Yba.ntmps6
  go_wp2_with (at_builtin; refine wpList_append_own_string _ rfl (.tmp 32) (.tmp 33) 39 9 rfl w.heap.size 5 i5 Yba.underlying39 Yba.underlying9 hi hz0 hz1 hz2 _ 0 [] rfl hmade pre rfl (by unfold maxLen; omega) (by omega) (by simp) ?_; intro v1 w1 hown1 hgrow1 _)
  have hB1 : Buf w.heap.size v1 (ints pre ++ digs zs 0) w w1 := hB0.grown hown1 (by simp [ints_length, digs]) (by simp [ints_cells, digs]) hgrow1
  clear hown1 hgrow1 hB0 hmade hmk
  go_loopw [7, 8] (fun v i wr => ∃ k : Nat, k ≤ n ∧ i = .int .i64 k ∧ Buf w.heap.size v (ints pre ++ digs zs k) w wr) (fun _ i _ => n - (intOf i).toNat)
  case atStart => exact ⟨0, Nat.zero_le _, rfl, hB1⟩
  case round =>
    clear hB1
    obtain ⟨k, hk, rfl, hB⟩ := hrel
    by_cases hlt : k < n
    · exact absurd hlt (by omega)
    · have hkn : k = n := by omega
      subst hkn
      have hLk : (ints pre ++ digs zs k).length = pre.size + k := by rw [List.length_append, ints_length, digs_length zs k (by omega)]
      have hlen1 : (ints pre ++ digs zs k).length ≤ 10000 := by omega
      clear hLk
      rcases Nat.eq_zero_or_pos tail.size with h0 | h0
      · have d0 : decide ((0 : Int) < (tail.size : Int)) = false := decide_eq_false (by omega)
        have hN : NoDigit (ints tail) := noDigit_t tail (fun h => absurd h (by omega))
        have h0' : tail.size < 1 := by omega
        clear h0
        obtain ⟨S, hS⟩ : ∃ S, S = strOfNums (ints pre ++ digs zs k ++ ints tail) := ⟨_, rfl⟩
        have HS : Hid (S = strOfNums (ints pre ++ digs zs k ++ ints tail)) := hS
        have cE := fun W => end_built pre zs k (ints tail) hl hN (by simp [ints_length] at hlen1 ⊢; omega) hp W
        rw [← hS] at cE
        clear hS
        go_wp2_with (first | (at_builtin; refine wpList_append_own_string _ rfl (.tmp 61) (.tmp 62) 39 9 rfl w.heap.size 5 i5 Yba.underlying39 Yba.underlying9 hi hz0 hz1 hz2 _ _ _ rfl hB.1 tail rfl (by unfold maxLen; omega) (by omega) hB.2.2 ?_; intro v3 w3 hown3 hgrow3 _; have hB3 : Buf w.heap.size v3 (ints pre ++ digs zs k ++ ints tail) w w3 := hB.grown hown3 (by simp [ints_length]; omega) (by simp [ints_cells]) hgrow3; have hcv := hB3.text (P := Yba.prog) 39 Yba.underlying39 Yba.underlying5 9 Yba.underlying9; rw [← HS.out] at hcv; have hbel := hB3.2.1; clear hown3 hgrow3 hB hB3) | (go_at_call 13; refine (cE _).mono ?_; rintro e w' ⟨rfl, rfl⟩))
        go_ret
        exact ⟨by simp, hbel⟩
      · have h0' : (0 : Int) < (tail.size : Int) := by omega
        cases hd : digB (tail[0]).toNat
        · have hN : NoDigit (ints tail) := noDigit_t tail (fun _ => hd)
          have cD := fun W => digit_is (tail[0]).toNat false hd W
          clear hd
          obtain ⟨S, hS⟩ : ∃ S, S = strOfNums (ints pre ++ digs zs k ++ ints tail) := ⟨_, rfl⟩
          have HS : Hid (S = strOfNums (ints pre ++ digs zs k ++ ints tail)) := hS
          have cE := fun W => end_built pre zs k (ints tail) hl hN (by simp [ints_length] at hlen1 ⊢; omega) hp W
          rw [← hS] at cE
          clear hS
          go_wp2_with (first | (go_at_call 14; refine (cD _).mono ?_; rintro e w' ⟨rfl, rfl⟩) | (at_builtin; refine wpList_append_own_string _ rfl (.tmp 61) (.tmp 62) 39 9 rfl w.heap.size 5 i5 Yba.underlying39 Yba.underlying9 hi hz0 hz1 hz2 _ _ _ rfl hB.1 tail rfl (by unfold maxLen; omega) (by omega) hB.2.2 ?_; intro v3 w3 hown3 hgrow3 _; have hB3 : Buf w.heap.size v3 (ints pre ++ digs zs k ++ ints tail) w w3 := hB.grown hown3 (by simp [ints_length]; omega) (by simp [ints_cells]) hgrow3; have hcv := hB3.text (P := Yba.prog) 39 Yba.underlying39 Yba.underlying5 9 Yba.underlying9; rw [← HS.out] at hcv; have hbel := hB3.2.1; clear hown3 hgrow3 hB hB3) | (go_at_call 13; refine (cE _).mono ?_; rintro e w' ⟨rfl, rfl⟩))
          go_ret
          exact ⟨by simp, hbel⟩
        · have hN := noDigit_x tail
          have cD := fun W => digit_is (tail[0]).toNat true hd W
          clear hd
          obtain ⟨S, hS⟩ : ∃ S, S = strOfNums (ints pre ++ digs zs k ++ ([120] ++ ints tail)) := ⟨_, rfl⟩
          have HS : Hid (S = strOfNums (ints pre ++ digs zs k ++ ([120] ++ ints tail))) := hS
          have cE := fun W => end_built pre zs k (([120] ++ ints tail)) hl hN (by simp [ints_length] at hlen1 ⊢; omega) hp W
          rw [← hS] at cE
          clear hS
          have hlen2 : (ints pre ++ digs zs k ++ [120]).length ≤ 10001 := by simp at hlen1 ⊢; omega
          go_wp2_with (first | (go_at_call 14; refine (cD _).mono ?_; rintro e w' ⟨rfl, rfl⟩) | (at_builtin; refine wpList_append_own _ rfl (.tmp 58) (.tmp 59) 39 rfl w.heap.size 5 i5 (.int .u8 0) 1 1 Yba.underlying39 hi hz0 hz1 hz2 rfl (by decide) _ _ _ rfl (hB.1.alloc _) ⟨wr.heap.size, 0, none⟩ 1 1 [.int .u8 120] rfl rfl (cell_one_new _ _ _) (ints_oneCell .u8 [120]) (by unfold maxLen; omega) (by omega) (by have := hB.2.2; simp; omega) ?_; intro v2 w2 hown2 hgrow2 _; have hB2 : Buf w.heap.size v2 (ints pre ++ digs zs k ++ [120]) w w2 := (hB.alloc _).grown hown2 (by simp; omega) (by simp) hgrow2; clear hown2 hgrow2 hB) | (at_builtin; refine wpList_append_own_string _ rfl (.tmp 61) (.tmp 62) 39 9 rfl w.heap.size 5 i5 Yba.underlying39 Yba.underlying9 hi hz0 hz1 hz2 _ _ _ rfl hB2.1 tail rfl (by unfold maxLen; omega) (by omega) hB2.2.2 ?_; intro v3 w3 hown3 hgrow3 _; have hB3 : Buf w.heap.size v3 (ints pre ++ digs zs k ++ ([120] ++ ints tail)) w w3 := hB2.grown hown3 (by simp [ints_length]; omega) (by simp [ints_cells]) hgrow3; have hcv := hB3.text (P := Yba.prog) 39 Yba.underlying39 Yba.underlying5 9 Yba.underlying9; rw [← HS.out] at hcv; have hbel := hB3.2.1; clear hown3 hgrow3 hB2 hB3) | (go_at_call 13; refine (cE _).mono ?_; rintro e w' ⟨rfl, rfl⟩))
          go_ret
          exact ⟨by simp, hbel⟩
theorem built_long (pre tail : ByteArray) (a1 : Option Addr) (n cap : Nat) (w : World) (hp : pre.size ≤ maxLen) (ht : tail.size ≤ maxLen) (hn : n ≤ maxLen) (h : 4096 < pre.size ∨ 4096 < n ∨ 4096 < tail.size) :
    Calls Yba.prog 6 #[.string pre, .slice a1 n cap, .string tail] w fun e w' => e = .returned (.bool true) ∧ Below w.heap.size w w' := by
  unfold maxLen at hp ht hn
  by_cases h1 : 4096 < pre.size
  · have e1 : decide ((4096 : Int) < (pre.size : Int)) = true := decide_eq_true (by omega)
    have e1' : (4096 : Int) < (pre.size : Int) := by omega
    go_enter Yba.func6, Yba.ntmps6
    go_wp2
    go_ret
    exact ⟨rfl, Below.refl _ _⟩
  · have e1 : decide ((4096 : Int) < (pre.size : Int)) = false := decide_eq_false (by omega)
    by_cases h2 : 4096 < n
    · have e2 : decide ((4096 : Int) < (n : Int)) = true := decide_eq_true (by omega)
      go_enter Yba.func6, Yba.ntmps6
      go_wp2
      go_ret
      exact ⟨rfl, Below.refl _ _⟩
    · have e2 : decide ((4096 : Int) < (n : Int)) = false := decide_eq_false (by omega)
      have e3 : decide ((4096 : Int) < (tail.size : Int)) = true := decide_eq_true (by omega)
      go_enter Yba.func6, Yba.ntmps6
      go_wp2
      go_ret
      exact ⟨rfl, Below.refl _ _⟩

end Go.Proofs.Ybulkcqtk
