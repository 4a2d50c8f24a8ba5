/-
  THE WALKS of LawS4624ABuilt: picks with an element; without one; longer than 1024.
-/
import Derived.Test.YbulkcqswRows
import Derived.Test.YbulkcqswAWalks
import Derived.WalkKit
import Derived.ProofKit
import Derived.OpenShut
import Derived.Deep.OwnRows
import Derived.Laws.BytesArg
namespace Go.Proofs.Ybulkcqsw
open Go.RowKit

def tbl : ByteArray := ⟨#[97, 98, 99, 100, 101, 102, 103, 104, 105, 106, 107, 108, 109, 110, 111, 112, 113, 114, 115, 116, 117, 118, 119, 120, 121, 122, 65, 66, 67, 68, 69, 70, 71, 72, 73, 74, 75, 76, 77, 78, 79, 80, 81, 82, 83, 84, 85, 86, 87, 88, 89, 90, 48, 49, 50, 51, 52, 53, 54, 55, 56, 57, 46, 45, 95]⟩
theorem tbl_all : ∀ t : Fin 65, okN (tbl[t.val]'(by show t.val < 65; exact t.isLt)).toNat = true := by decide +kernel
theorem tbl_ok (t : Nat) (h : t < 65) : okN (tbl[t]'h).toNat = true := tbl_all ⟨t, h⟩

theorem put_ok {A : Array Value} {k l : Nat} {c : Nat} (hA : A.size = l) (hlt : k < l) (hc : ∀ j, j < k → ∃ c : Nat, A[j]? = some (.int .u8 c) ∧ okN c = true) (h : okN c = true) :
    ∀ j, j < k + 1 → ∃ d : Nat, (A.setIfInBounds k (.int .u8 c))[j]? = some (.int .u8 d) ∧ okN d = true := by
  intro j hj
  by_cases e : k = j
  · subst e
    exact ⟨c, by rw [Array.getElem?_setIfInBounds_self_of_lt (by omega)], h⟩
  · rw [Array.getElem?_setIfInBounds_ne e]
    exact hc j (by omega)

theorem read_ok {A : Array Value} : ∀ (k : Nat), (∀ j, j < k → ∃ c : Nat, A[j]? = some (.int .u8 c) ∧ okN c = true) →
    ∃ cs : List Nat, cs.length = k ∧ (∀ j, j < k → A[j]? = some (.int .u8 (cs.getD j 0 : Nat))) ∧ ∀ c ∈ cs, okN c = true
  | 0, _ => ⟨[], rfl, fun j hj => absurd hj (by omega), fun c hc => absurd hc (by simp)⟩
  | k + 1, h => by
    obtain ⟨cs, h1, h2, h3⟩ := read_ok k (fun j hj => h j (by omega))
    obtain ⟨c, hc, ho⟩ := h k (by omega)
    refine ⟨cs ++ [c], by simp [h1], fun j hj => ?_, fun d hd => ?_⟩
    · by_cases e : j = k
      · subst e
        rw [hc]
        simp [List.getD_eq_getElem?_getD, h1]
      · rw [h2 j (by omega)]
        simp [List.getD_eq_getElem?_getD, List.getElem?_append_left (show j < cs.length by omega)]
    · rcases List.mem_append.1 hd with hd | hd
      · exact h3 d hd
      · simp at hd; subst hd; exact ho

theorem okAll_of (cs : List Nat) (h : ∀ c ∈ cs, okN c = true) : okAll ((strOfNums (cs.map Int.ofNat)).data.toList) = true := by
  rw [strOfNums_data, okAll, List.all_eq_true]
  intro x hx
  simp only [List.map_map, List.mem_map, Function.comp] at hx
  obtain ⟨c, hc, rfl⟩ := hx
  have hok := h c hc
  have hlt := okN_lt c hok
  have e : (UInt8.ofNat (Int.ofNat c).toNat).toNat = c := by
    show (UInt8.ofNat c).toNat = c
    simp only [UInt8.toNat_ofNat']
    omega
  rw [e]
  exact hok

theorem vg_of (cs : List Nat) (l : Nat) (hl : cs.length = l) (h : ∀ c ∈ cs, okN c = true) : vg (strOfNums (cs.map Int.ofNat)) = (decide (1 ≤ l) && decide (l ≤ 64)) := by
  have hz : (strOfNums (cs.map Int.ofNat)).size = l := by rw [strOfNums_size]; simpa using hl
  rw [vg, okAll_of cs h, hz]
  simp

/-- 'string(b)', b the row that the loop has filled; and what validGroup says of it. -/
theorem filled (A : Array Value) (l : Nat) (hl : l < 130) (w : World) (hc : ∀ j, j < l → ∃ c : Nat, A[j]? = some (.int .u8 c) ∧ okN c = true) :
    ∃ S : ByteArray, (∀ dst, Yba.prog.underlying dst = some .string → (convert 24 dst (.slice (some ⟨w.heap.size, 0, none⟩) l l)).run Yba.prog (w.alloc (.cells A 5)) = .ok (.string S) (w.alloc (.cells A 5))) ∧
      vg S = (decide (1 ≤ l) && decide (l ≤ 64)) ∧ S.size ≤ maxLen := by
  obtain ⟨cs, h1, h2, h3⟩ := read_ok l hc
  refine ⟨_, run_convert_bytes_arg (P := Yba.prog) (w.alloc (.cells A 5)) 24 5 Yba.underlying24 Yba.underlying5 w.heap.size 0 l l (cs.map Int.ofNat) (by simpa using h1) (fun i hi => ?_), vg_of cs l h1 h3, ?_⟩
  · rw [Nat.zero_add, World.cell?_alloc_new, h2 i hi]
    simp [List.getD_eq_getElem?_getD, List.getElem?_eq_getElem (show i < cs.length by omega)]
  · rw [strOfNums_size]; simp [h1, maxLen]; omega

theorem info5 : (Yba.prog.info? 5).map (fun i => (i.zero, i.size, i.bytes)) = some (some (.int .u8 0), 1, 1) := by kernel_rfl

set_option maxRecDepth 100000 in
theorem built_some (b off len0 cap0 : Nat) (z0 : List Int) (n : Nat) (hn : n < 256) (w : World) (hpos : 0 < len0) (hlen : len0 ≤ 1024) (hl : len0 ≤ cap0) (hz : z0.length = cap0)
    (hcell : ∀ i, i < z0.length → w.cell? ⟨b, off + i, none⟩ = some (.int .u8 (z0.getD i 0))) (hwf : ∀ x ∈ z0, 0 ≤ x ∧ x < 256) :
    Calls Yba.prog 4 #[.slice (some ⟨b, off, none⟩) len0 cap0, .int .u8 n] w fun e w' => e = .returned (.bool true) ∧ Below w.heap.size w w' := by
  obtain ⟨l, hlI⟩ : ∃ l : Nat, (n : Int) % 130 = (l : Int) := ⟨n % 130, by omega⟩
  have hmk := run_make_row' (P := Yba.prog) 24 5 (.int .u8 0) 1 Yba.underlying24 info5 rfl .i64 .i64 l (by omega) (by omega)
  have hl130 : l < 130 := by omega
  go_enter Yba.func4, Yba.ntmps4
  go_wp2
  simp only [hlI]
  go_loopw [7] (fun i wr => ∃ (k : Nat) (A : Array Value), k ≤ l ∧ i = .int .i64 k ∧ wr = w.alloc (.cells A 5) ∧ A.size = l ∧ ∀ j, j < k → ∃ c : Nat, A[j]? = some (.int .u8 c) ∧ okN c = true) (fun i _ => l - (intOf i).toNat)
  case atStart => exact ⟨0, _, Nat.zero_le _, rfl, rfl, size_madeCells _ _, fun j hj => absurd hj (by omega)⟩
  case round =>
    obtain ⟨k, A, hk, rfl, rfl, hA, hc⟩ := hrel
    by_cases hlt : k < l
    · obtain ⟨j, hj⟩ : ∃ j : Nat, (k : Int) % (len0 : Int) = (j : Int) := ⟨k % len0, by simp⟩
      have hjl : j < len0 := by
        have := Int.emod_lt_of_pos (k : Int) (b := (len0 : Int)) (by omega)
        omega
      obtain ⟨x, hx⟩ : ∃ x, x = z0.getD j 0 := ⟨_, rfl⟩
      have hx0 : 0 ≤ x ∧ x < 256 := by
        rw [hx, List.getD_eq_getElem?_getD, List.getElem?_eq_getElem (show j < z0.length by omega)]; exact hwf _ (List.getElem_mem _)
      have hcx := hcell j (by omega)
      rw [← hx] at hcx
      clear hx
      obtain ⟨t, ht⟩ : ∃ t : Nat, x % 65 = (t : Int) := ⟨(x % 65).toNat, by omega⟩
      have ht65 : t < 65 := by omega
      have hbw := World.block_lt_of_cell? _ _ hcx
      simp only at hbw
      obtain ⟨v0, hv0⟩ : ∃ v0, A[k]? = some v0 := ⟨_, Array.getElem?_eq_getElem (by omega)⟩
      go_wp2
      go_roundw
      case rel => exact ⟨k + 1, _, by omega, by go_num, rfl, by simp [hA], put_ok hA hlt hc (tbl_ok t ht65)⟩
      case measure => simp [intOf]; omega
    · have hkl : k = l := by omega
      subst hkl
      obtain ⟨S, hS, hv, hsz⟩ := filled A k hl130 w hc
      have hS9 := hS 9 Yba.underlying9
      clear hS hc hcell hwf
      have cV := fun W => vg_any S hsz W
      rw [hv] at cV
      clear hv hsz
      have fin : ∀ {W' : World}, Below (w.alloc (.cells A 5)).heap.size (w.alloc (.cells A 5)) W' → Below w.heap.size w W' := fun hb => ((Below.refl _ w).alloc (Nat.le_refl _) _).trans (hb.mono (by simp))
      by_cases h1 : 1 ≤ k
      · by_cases h2 : k ≤ 64
        · have d2 : decide ((k : Int) ≤ 64) = true := decide_eq_true (by omega)
          rw [decide_eq_true h1, decide_eq_true h2] at cV
          go_wp2_with (go_at_call 8; refine (cV _).mono ?_; rintro e w' ⟨rfl, hb⟩)
          go_ret
          exact ⟨rfl, fin hb⟩
        · have d2 : decide ((k : Int) ≤ 64) = false := decide_eq_false (by omega)
          rw [decide_eq_true h1, decide_eq_false h2] at cV
          go_wp2_with (go_at_call 8; refine (cV _).mono ?_; rintro e w' ⟨rfl, hb⟩)
          go_ret
          exact ⟨rfl, fin hb⟩
      · have d1 : decide (1 ≤ (k : Int)) = false := decide_eq_false (by omega)
        rw [decide_eq_false h1, Bool.false_and] at cV
        go_wp2_with (go_at_call 8; refine (cV _).mono ?_; rintro e w' ⟨rfl, hb⟩)
        go_ret
        exact ⟨rfl, fin hb⟩
set_option maxRecDepth 100000 in
theorem built_none (a0 : Option Addr) (cap0 : Nat) (n : Nat) (hn : n < 256) (w : World) :
    Calls Yba.prog 4 #[.slice a0 0 cap0, .int .u8 n] w fun e w' => e = .returned (.bool true) ∧ Below w.heap.size w w' := by
  obtain ⟨l, hlI⟩ : ∃ l : Nat, (n : Int) % 130 = (l : Int) := ⟨n % 130, by omega⟩
  have hmk := run_make_row' (P := Yba.prog) 24 5 (.int .u8 0) 1 Yba.underlying24 info5 rfl .i64 .i64 l (by omega) (by omega)
  have hl130 : l < 130 := by omega
  go_enter Yba.func4, Yba.ntmps4
  go_wp2
  simp only [hlI]
  go_loopw [7] (fun i wr => ∃ (k : Nat) (A : Array Value), k ≤ l ∧ i = .int .i64 k ∧ wr = w.alloc (.cells A 5) ∧ A.size = l ∧ ∀ j, j < k → ∃ c : Nat, A[j]? = some (.int .u8 c) ∧ okN c = true) (fun i _ => l - (intOf i).toNat)
  case atStart => exact ⟨0, _, Nat.zero_le _, rfl, rfl, size_madeCells _ _, fun j hj => absurd hj (by omega)⟩
  case round =>
    obtain ⟨k, A, hk, rfl, rfl, hA, hc⟩ := hrel
    by_cases hlt : k < l
    · obtain ⟨v0, hv0⟩ : ∃ v0, A[k]? = some v0 := ⟨_, Array.getElem?_eq_getElem (by omega)⟩
      go_wp2
      go_roundw
      case rel => exact ⟨k + 1, _, by omega, by go_num, rfl, by simp [hA], put_ok hA hlt hc (c := 97) rfl⟩
      case measure => simp [intOf]; omega
    · have hkl : k = l := by omega
      subst hkl
      obtain ⟨S, hS, hv, hsz⟩ := filled A k hl130 w hc
      have hS9 := hS 9 Yba.underlying9
      clear hS hc
      have cV := fun W => vg_any S hsz W
      rw [hv] at cV
      clear hv hsz
      have fin : ∀ {W' : World}, Below (w.alloc (.cells A 5)).heap.size (w.alloc (.cells A 5)) W' → Below w.heap.size w W' := fun hb => ((Below.refl _ w).alloc (Nat.le_refl _) _).trans (hb.mono (by simp))
      by_cases h1 : 1 ≤ k
      · by_cases h2 : k ≤ 64
        · have d2 : decide ((k : Int) ≤ 64) = true := decide_eq_true (by omega)
          rw [decide_eq_true h1, decide_eq_true h2] at cV
          go_wp2_with (go_at_call 8; refine (cV _).mono ?_; rintro e w' ⟨rfl, hb⟩)
          go_ret
          exact ⟨rfl, fin hb⟩
        · have d2 : decide ((k : Int) ≤ 64) = false := decide_eq_false (by omega)
          rw [decide_eq_true h1, decide_eq_false h2] at cV
          go_wp2_with (go_at_call 8; refine (cV _).mono ?_; rintro e w' ⟨rfl, hb⟩)
          go_ret
          exact ⟨rfl, fin hb⟩
      · have d1 : decide (1 ≤ (k : Int)) = false := decide_eq_false (by omega)
        rw [decide_eq_false h1, Bool.false_and] at cV
        go_wp2_with (go_at_call 8; refine (cV _).mono ?_; rintro e w' ⟨rfl, hb⟩)
        go_ret
        exact ⟨rfl, fin hb⟩
theorem built_long (a0 : Option Addr) (len0 cap0 : Nat) (hm : len0 ≤ maxLen) (n : Int) (w : World) (h : 1024 < len0) :
    Calls Yba.prog 4 #[.slice a0 len0 cap0, .int .u8 n] w fun e w' => e = .returned (.bool true) ∧ Below w.heap.size w w' := by
  unfold maxLen at hm
  have h' : (1024 : Int) < (len0 : Int) := by omega
  go_enter Yba.func4, Yba.ntmps4
  go_wp2
  go_ret
  exact ⟨rfl, Below.refl _ _⟩

end Go.Proofs.Ybulkcqsw
