/-
  THE WALKS on roster, 1: slices.Index at a slice of names that owns its row; (*roster).lookup.
-/
import Derived.Test.YbulkcqtkRows
import Derived.Test.YbulkcqtkRPlain
import Derived.WalkKit
import Derived.WalkLawsBesides
import Derived.WalkSpells
import Derived.Lib.SlicesS
namespace Go.Proofs.Ybulkcqtk
open Go.RowKit Go.Maps

/-- A slice of names that owns its row: its shape, and its cells. -/
theorem shape {w : World} {base n : Nat} {v : Value} {ss : List ByteArray} (h : w.ownsRow base 9 1 v n (ss.map Value.string)) :
    n = ss.length ∧ ((v = .slice none 0 0 ∧ ss = []) ∨ ∃ g cap, v = .slice (some ⟨g, 0, none⟩) n cap ∧ n ≤ cap ∧ ∀ j (hj : j < ss.length), w.cell? ⟨g, j, none⟩ = some (.string ss[j])) := by
  have hn : n = ss.length := by have := h.1; simp at this; omega
  refine ⟨hn, ?_⟩
  rcases h.2 with ⟨rfl, h0⟩ | ⟨g, cap, cur, rfl, _, hg, hnc, hcm, hsz, htk⟩
  · exact .inl ⟨rfl, List.length_eq_zero_iff.1 (by omega)⟩
  · refine .inr ⟨g, cap, rfl, hnc, fun j hj => ?_⟩
    have h' : w.ownsRow base 9 1 (.slice (some ⟨g, 0, none⟩) n cap) n (ss.map Value.string) := h
    rw [h'.cellAt j (by omega), List.getElem?_map, List.getElem?_eq_getElem hj]
    rfl

theorem str_ne {x y : ByteArray} (h : x ≠ y) : (x.toList == y.toList) = false := (Lib.bytes_beq_false_iff x y).2 h
theorem str_eq (x : ByteArray) : (x.toList == x.toList) = true := (Lib.bytes_beq_iff x x).2 rfl

/-- slices.Index -/
theorem index_hit (v : Value) (ss : List ByteArray) (base m : Nat) (hm : m ≤ 100000) (w : World) (ho : w.ownsRow base 9 1 v m (ss.map Value.string)) (x : ByteArray) (n : Nat) (hn : ss[n]? = some x) (hf : ∀ j, j < n → ss[j]? ≠ some x) :
    Calls Yba.prog 15 #[v, .string x] w fun e w' => e = .returned (.int .i64 n) ∧ w' = w := by
  obtain ⟨hml, hsh⟩ := shape ho
  have hnl : n < ss.length := (List.getElem?_eq_some_iff.1 hn).1
  rcases hsh with ⟨rfl, hs⟩ | ⟨g, cap, rfl, hcap, hc⟩
  · rw [hs] at hnl; exact absurd hnl (by simp)
  · have hml' : m ≤ ss.length := by omega
    have hnm : n < m := by omega
    clear ho hml
    go_enter Yba.func15, Yba.ntmps15
    go_wp2
    go_loop [8] (fun i => ∃ k : Nat, k ≤ n ∧ i = .int .i64 k) (fun i => m - (intOf i).toNat)
    case atStart => exact ⟨0, Nat.zero_le _, rfl⟩
    case round =>
      obtain ⟨k, hk, rfl⟩ := hrel
      have hkm : k < m := by omega
      have hkl : k < ss.length := by omega
      obtain ⟨y, hy⟩ : ∃ y, y = ss[k] := ⟨_, rfl⟩
      have hck := hc k hkl
      rw [← hy] at hck
      by_cases e : k = n
      · subst e
        have hyx : y = x := by rw [hy]; rw [List.getElem?_eq_getElem hkl] at hn; exact Option.some.inj hn
        subst hyx
        have hq := str_eq y
        clear hy hn hf hc
        go_wp2
        go_ret
        exact ⟨rfl, rfl⟩
      · have hq : (x.toList == y.toList) = false := str_ne (fun h => hf k (by omega) (by rw [List.getElem?_eq_getElem hkl, ← hy, h]))
        clear hy hn hf hc
        go_wp2
        go_round
        case rel => exact ⟨k + 1, by omega, by go_num⟩
        case measure => simp [intOf]; omega

theorem index_miss (v : Value) (ss : List ByteArray) (base m : Nat) (hm : m ≤ 100000) (w : World) (ho : w.ownsRow base 9 1 v m (ss.map Value.string)) (x : ByteArray) (hx : x ∉ ss) :
    Calls Yba.prog 15 #[v, .string x] w fun e w' => e = .returned (.int .i64 (-1)) ∧ w' = w := by
  obtain ⟨hml, hsh⟩ := shape ho
  rcases hsh with ⟨rfl, hs⟩ | ⟨g, cap, rfl, hcap, hc⟩
  · clear hml ho
    go_enter Yba.func15, Yba.ntmps15
    go_wp2
    refine wp_loop_rounds 1 ?_
    rw [rounds_succ]
    go_wp2
    go_ret
    exact ⟨rfl, rfl⟩
  · have hml' : m ≤ ss.length := by omega
    clear ho hml
    go_enter Yba.func15, Yba.ntmps15
    go_wp2
    go_loop [8] (fun i => ∃ k : Nat, k ≤ m ∧ i = .int .i64 k) (fun i => m - (intOf i).toNat)
    case atStart => exact ⟨0, Nat.zero_le _, rfl⟩
    case round =>
      obtain ⟨k, hk, rfl⟩ := hrel
      by_cases hkm : k < m
      · have hkl : k < ss.length := by omega
        obtain ⟨y, hy⟩ : ∃ y, y = ss[k] := ⟨_, rfl⟩
        have hck := hc k hkl
        rw [← hy] at hck
        have hq : (x.toList == y.toList) = false := str_ne (fun h => hx (by rw [h, hy]; exact List.getElem_mem _))
        clear hy hx hc
        go_wp2
        go_round
        case rel => exact ⟨k + 1, by omega, by go_num⟩
        case measure => simp [intOf]; omega
      · clear hc hx
        go_wp2
        go_ret
        exact ⟨rfl, rfl⟩

theorem first_at {ss : List ByteArray} (hd : ss.Nodup) {n : Nat} {x : ByteArray} (hn : ss[n]? = some x) : ∀ j, j < n → ss[j]? ≠ some x := by
  intro j hj e
  obtain ⟨h1, h1'⟩ := List.getElem?_eq_some_iff.1 hn
  obtain ⟨h2, h2'⟩ := List.getElem?_eq_some_iff.1 e
  exact (List.pairwise_iff_getElem.1 hd) j n h2 h1 hj (h2'.trans h1'.symm)

theorem ret_pair {k : IntKind} {a b : Int} {t : Bool} (h : a = b) : Ending.returned (.tuple #[.int k a, .bool t]) = .returned (.tuple #[.int k b, .bool t]) := by rw [h]
theorem neq25 : ∀ (w : World) (r : Option Nat), (binOp .neq 25 (.map r) (.map none)).run Yba.prog w = .ok (.bool (!r.isNone)) w := fun w r => run_neq_map_nil w _ _ _ r Yba.underlying25

/-- (*roster).lookup: the name is there. -/
theorem lookup_hit {rb : Nat} {v mv : Value} {ss : List ByteArray} {F : Nat → Prop} {w : World} (h : Ros rb v mv ss F w) (x : ByteArray) (n : Nat) (hn : ss[n]? = some x) :
    Calls Yba.prog 10 #[.pointer (some ⟨rb, 0, none⟩), .string x] w fun e w' => e = .returned (.tuple #[.int .i32 n, .bool true]) ∧ w' = w := by
  obtain ⟨c0, c1, _, _, _⟩ := RB_cells h.blk
  have hsm := h.small
  have hnl : n < ss.length := (List.getElem?_eq_some_iff.1 hn).1
  have hlen := h.lens x (List.mem_of_getElem? hn)
  have hq := neq25
  rcases h.idx with rfl | ⟨mb, D, rfl, ho, hi⟩
  · have cI := fun W (hW : W = w) => hW ▸ index_hit v ss 0 ss.length hsm w h.row x n hn (first_at h.nodup hn)
    clear h hn hlen
    go_enter Yba.func10, Yba.ntmps10
    go_wp2_with (go_at_call 15; refine (cI _ rfl).mono ?_; rintro e w' ⟨rfl, rfl⟩)
    go_ret2
    exact ⟨rfl, rfl⟩
  · obtain ⟨hh, ha⟩ := hi.hit x n hn
    have HH : Hid (Maps.has D (K x) = true) := hh
    have HA : Hid (D.atKey (K x) (num 0) = num n) := ha
    have hkey := K_key x hlen
    clear h hn hlen hi hh ha
    go_enter Yba.func10, Yba.ntmps10
    go_wp2_with (at_lookup; refine wpList_lookup_own_ok_int _ rfl _ _ 25 rfl 9 21 .i32 law9 Yba.underlying25 Yba.underlying21 (Yba.zeroValue21 _) mb ss.length D rfl ho _ _ rfl hkey ?_; intro c hat hwc; rw [HH.out])
    have e : c = (n : Int) := by
      have := hat.symm.trans HA.out
      simpa [num] using this
    go_ret2
    exact ⟨ret_pair e, rfl⟩

/-- (*roster).lookup: it is not. -/
theorem lookup_miss {rb : Nat} {v mv : Value} {ss : List ByteArray} {F : Nat → Prop} {w : World} (h : Ros rb v mv ss F w) (x : ByteArray) (hlen : x.size ≤ maxLen) (hx : x ∉ ss) :
    Calls Yba.prog 10 #[.pointer (some ⟨rb, 0, none⟩), .string x] w fun e w' => e = .returned (.tuple #[.int .i32 0, .bool false]) ∧ w' = w := by
  obtain ⟨c0, c1, _, _, _⟩ := RB_cells h.blk
  have hsm := h.small
  have hq := neq25
  rcases h.idx with rfl | ⟨mb, D, rfl, ho, hi⟩
  · have cI := fun W (hW : W = w) => hW ▸ index_miss v ss 0 ss.length hsm w h.row x hx
    clear h hx hlen
    go_enter Yba.func10, Yba.ntmps10
    go_wp2_with (go_at_call 15; refine (cI _ rfl).mono ?_; rintro e w' ⟨rfl, rfl⟩)
    go_ret2
    exact ⟨rfl, rfl⟩
  · have hh := hi.miss x hx
    have HH : Hid (Maps.has D (K x) = false) := hh
    have HA : Hid (D.atKey (K x) (num 0) = num 0) := atKey_of_not_has hh _
    have hkey := K_key x hlen
    clear h hx hlen hi hh
    go_enter Yba.func10, Yba.ntmps10
    go_wp2_with (at_lookup; refine wpList_lookup_own_ok_int _ rfl _ _ 25 rfl 9 21 .i32 law9 Yba.underlying25 Yba.underlying21 (Yba.zeroValue21 _) mb ss.length D rfl ho _ _ rfl hkey ?_; intro c hat hwc; rw [HH.out])
    have e : c = 0 := by
      have := hat.symm.trans HA.out
      simpa [num] using this
    go_ret2
    exact ⟨ret_pair e, rfl⟩
end Go.Proofs.Ybulkcqtk
