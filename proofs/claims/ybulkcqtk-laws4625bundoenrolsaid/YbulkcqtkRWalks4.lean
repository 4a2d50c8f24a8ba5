/-
  THE WALKS on roster, 4: slices.Clone, slices.Equal at slices of names; zzs4625bbuild.
-/
import Derived.Test.YbulkcqtkRows
import Derived.Test.YbulkcqtkRWalks2
import Derived.Test.YbulkcqtkRWalks3
import Derived.WalkKit
import Derived.WalkLawsBesides
import Derived.WalkSpells
import Derived.Deep.QuietTactic
import Derived.BigQuiet
namespace Go.Proofs.Ybulkcqtk
open Go.RowKit Go.Maps

/-- slices.Clone of a slice of names that owns its row: a new row. -/
theorem clone_any {w : World} {base n : Nat} {v : Value} {ss : List ByteArray} (hn : n ≤ 100000) (ho : w.ownsRow base 9 1 v n (ss.map Value.string)) :
    Calls Yba.prog 8 #[v] w fun e w' => ∃ v', e = .returned v' ∧ w'.ownsRow w.heap.size 9 1 v' n (ss.map Value.string) ∧ Below w.heap.size w w' := by
  obtain ⟨hl, hs⟩ := shape ho
  have hqn : ∀ (W : World) (a : Option Addr) (m c : Nat), (binOp .eql 22 (.slice a m c) (.slice none 0 0)).run Yba.prog W = .ok (.bool a.isNone) W := fun W a m c => Lib.run_eql_slice_nil W _ _ a m c 0 0 Yba.underlying22
  rcases hs with ⟨rfl, hs⟩ | ⟨g, cap, rfl, hcap, hc⟩
  · subst hs
    simp at hl
    subst hl
    go_enter Yba.func8, Yba.ntmps8
    go_wp2
    go_ret
    exact ⟨_, rfl, World.ownsRow_nil _ _ _ _, Below.refl _ _⟩
  · obtain ⟨i9, hi, hz0, hz1, hz2⟩ := info_parts info9
    have hcells : ∀ j u, (ss.map Value.string)[j]? = some u → w.cell? ((⟨g, 0, none⟩ : Addr).add j) = some u := ho.cells (g := g) rfl
    have hgl : g < w.heap.size := (ho.lt g rfl).2
    have h0 : (w.alloc (.cells #[] 9)).ownsRow w.heap.size 9 1 (.slice (some ⟨w.heap.size, 0, none⟩) 0 0) 0 [] := World.ownsRow_made w #[] 0 (Nat.le_refl _) (Nat.zero_le _) rfl
    have hcells' : ∀ j u, (ss.map Value.string)[j]? = some u → (w.alloc (.cells #[] 9)).cell? ((⟨g, 0, none⟩ : Addr).add j) = some u := fun j u hj => by
      have e : (⟨g, 0, none⟩ : Addr).add j = ⟨g, 0 + j, none⟩ := by unfold Addr.add; split <;> simp_all
      have := hcells j u hj
      rw [e] at this ⊢
      exact (World.cell?_alloc_past _ g _ hgl).trans this
    have hll : (ss.map Value.string).length = n * 1 := by simp [hl]
    have one : ∀ u ∈ ss.map Value.string, u.oneCell' = true := by
      intro u hu
      obtain ⟨s, _, rfl⟩ := List.mem_map.1 hu
      rfl
    clear hl hc hcells ho
    go_enter Yba.func8, Yba.ntmps8
    go_wp2_with (at_builtin; refine wpList_append_own _ rfl (.tmp 5) (.tmp 6) 22 rfl w.heap.size 9 i9 (.string ⟨#[]⟩) 1 16 Yba.underlying22 hi hz0 hz1 hz2 rfl (by decide) _ _ _ rfl h0 ⟨g, 0, none⟩ n cap (ss.map Value.string) rfl hll hcells' one (by unfold maxLen; omega) (by omega) (by simp) ?_; intro v' w1 hown' hgrow' _; simp only [Nat.zero_add, List.nil_append] at hown')
    go_ret
    exact ⟨_, rfl, hown', ((Below.refl _ w).alloc (Nat.le_refl _) _).grown hgrow' (by simp) (fun k hk => (h0.lt k hk).1)⟩

/-- The element of a slice of names. -/
theorem cell_at {w : World} {base n g cap : Nat} {ss : List ByteArray} (h : w.ownsRow base 9 1 (.slice (some ⟨g, 0, none⟩) n cap) n (ss.map Value.string)) (j : Nat) (x : ByteArray) (hx : ss[j]? = some x) : w.cell? ⟨g, j, none⟩ = some (.string x) := by
  have hl : n = ss.length := by have := h.1; simp at this; omega
  have hj : j < ss.length := (List.getElem?_eq_some_iff.1 hx).1
  rw [h.cellAt j (by omega), List.getElem?_map, hx]; rfl

/-- slices.Equal of two slices of the same names. -/
theorem equal_any {w : World} {b1 b2 n : Nat} {v1 v2 : Value} {ss : List ByteArray} (hn : n ≤ 100000) (h1 : w.ownsRow b1 9 1 v1 n (ss.map Value.string)) (h2 : w.ownsRow b2 9 1 v2 n (ss.map Value.string)) :
    Calls Yba.prog 12 #[v1, v2] w fun e w' => e = .returned (.bool true) ∧ ∃ q, w' = w.drewN q := by
  rcases Nat.eq_zero_or_pos n with h0 | h0
  · subst h0
    obtain ⟨a1, c1, rfl⟩ := shape1 h1
    obtain ⟨a2, c2, rfl⟩ := shape1 h2
    clear h1 h2
    go_enter Yba.func12, Yba.ntmps12
    go_wp2
    refine wp_loop_rounds 1 ?_
    rw [rounds_succ]
    go_wp2
    go_ret
    exact ⟨rfl, 0, rfl⟩
  · obtain ⟨m, rfl⟩ : ∃ m, n = m + 1 := ⟨n - 1, by omega⟩
    obtain ⟨g1, c1, rfl, hc1⟩ := shape2 h1
    obtain ⟨g2, c2, rfl, hc2⟩ := shape2 h2
    have hl : m + 1 = ss.length := by have := h1.1; simp at this; omega
    have HL : Hid (m + 1 = ss.length) := hl
    clear hl
    go_enter Yba.func12, Yba.ntmps12
    go_wp2
    go_loopw [13] (fun i wr => ∃ k q : Nat, k ≤ m + 1 ∧ i = .int .i64 k ∧ wr = w.drewN q) (fun i _ => m + 1 - (intOf i).toNat)
    case atStart => exact ⟨0, 0, Nat.zero_le _, rfl, rfl⟩
    case round =>
      obtain ⟨k, q, hk, rfl, rfl⟩ := hrel
      by_cases hlt : k < m + 1
      · have hkl : k < ss.length := by have := HL.out; omega
        obtain ⟨y, hy⟩ : ∃ y, ss[k]? = some y := ⟨_, List.getElem?_eq_getElem hkl⟩
        have e1 := cell_at h1 k y hy
        have e2 := cell_at h2 k y hy
        have hq := str_eq y
        have hb : (k : Int) < (m : Int) + 1 := by omega
        clear hy hkl
        go_wp2
        go_quiet (fail)
        go_wp2
        go_roundw
        case rel => exact ⟨k + 1, _, by omega, by go_num, rfl⟩
        case measure => simp [intOf]; omega
      · go_wp2
        go_ret
        exact ⟨rfl, q, rfl⟩

/-- What the walk is told of a slice of strings that came in. -/
def IsNames (w : World) (a : Option Addr) (n : Nat) (ss : List ByteArray) : Prop :=
  n ≤ ss.length ∧ (∀ s ∈ ss, s.size ≤ maxLen) ∧ (0 < n → ∃ b off, a = some ⟨b, off, none⟩ ∧ ∀ j, j < n → w.cell? ⟨b, off + j, none⟩ = some (.string (ss.getD j ByteArray.empty)))

/-- One enrol, whatever the name. -/
theorem enrol_any {rb : Nat} {v mv : Value} {ss : List ByteArray} {F : Nat → Prop} {w : World} (h : Ros rb v mv ss F w) (x : ByteArray) (hxl : x.size ≤ maxLen) (hs : ss.length < 100000) :
    Calls Yba.prog 11 #[.pointer (some ⟨rb, 0, none⟩), .string x] w fun e w' => (∃ i b, e = .returned (.tuple #[.int .i32 i, .bool b])) ∧ ∃ ts, ts.length ≤ 1 ∧ Enrolled rb (ss ++ ts) F w w' := by
  by_cases hx : x ∈ ss
  · obtain ⟨n, hn⟩ := List.mem_iff_getElem?.1 hx
    exact (enrol_there h x n hn).mono fun e w' ⟨he, hw⟩ => ⟨⟨_, _, he⟩, [], by simp, by rw [hw, List.append_nil]; exact ⟨v, mv, h, Kept.refl _ _⟩⟩
  · exact (enrol_new h x hx hxl hs).mono fun e w' ⟨he, hw⟩ => ⟨⟨_, _, he⟩, [x], by simp, hw⟩

/-- zzs4625bbuild -/
theorem build_some (b off n cap : Nat) (ss : List ByteArray) (w : World) (hl : n ≤ ss.length) (hn : n ≤ 1024) (hpos : 0 < n) (hlen : ∀ s ∈ ss, s.size ≤ maxLen) (hcell : ∀ j, j < n → w.cell? ⟨b, off + j, none⟩ = some (.string (ss.getD j ByteArray.empty))) :
    Calls Yba.prog 7 #[.slice (some ⟨b, off, none⟩) n cap] w fun e w' => ∃ rs, e = .returned (.pointer (some ⟨w.heap.size, 0, none⟩)) ∧ rs.length ≤ 1024 ∧ Enrolled w.heap.size rs (· < w.heap.size) w w' := by
  have h0 : Ros w.heap.size (.slice none 0 0) (.map none) [] (· < w.heap.size) (w.alloc (.cells #[.slice none 0 0, .map none, .slice none 0 0] 28)) :=
    ⟨heap_alloc_new w _, World.ownsRow_nil _ _ _ _, .inl rfl, by simp, by simp, by simp, fun k hk => ⟨by simp; omega, by omega, by simp [Value.ownBlock], by simp⟩⟩
  have hk0 : Kept (· < w.heap.size) w (w.alloc (.cells #[.slice none 0 0, .map none, .slice none 0 0] 28)) := Kept.of_below ((Below.refl _ w).alloc (Nat.le_refl _) _) (fun k hk => hk)
  go_enter Yba.func7, Yba.ntmps7
  go_wp2
  go_loopw [10] (fun i wr => ∃ (k : Nat) (rs : List ByteArray), k ≤ n ∧ i = .int .i64 k ∧ rs.length ≤ k ∧ Enrolled w.heap.size rs (· < w.heap.size) w wr) (fun i _ => n - (intOf i).toNat)
  case atStart => exact ⟨0, [], Nat.zero_le _, rfl, Nat.le_refl _, _, _, h0, hk0⟩
  case round =>
    clear h0 hk0
    obtain ⟨k, rs, hk, rfl, hrs, v, mv, hR, hK⟩ := hrel
    by_cases hlt : k < n
    · have hkl : k < ss.length := by omega
      obtain ⟨x, hx⟩ : ∃ x, x = ss.getD k ByteArray.empty := ⟨_, rfl⟩
      have hxl : x.size ≤ maxLen := hlen x (by rw [hx, List.getD_eq_getElem?_getD, List.getElem?_eq_getElem hkl]; exact List.getElem_mem _)
      have hcw := hcell k hlt
      rw [← hx] at hcw
      have hbw := World.block_lt_of_cell? _ _ hcw
      simp only at hbw
      have hcx : wr.cell? ⟨b, off + k, none⟩ = some (.string x) := (hK.cell (p := ⟨b, off + k, none⟩) hbw).trans hcw
      have cE := enrol_any hR x hxl (by omega)
      clear hx hcw hR
      go_wp2_with (go_at_call 11; refine cE.mono ?_; rintro e w' ⟨⟨i, b', rfl⟩, ts, hts, v2, mv2, hR2, hK2⟩)
      go_roundw
      case rel => exact ⟨k + 1, rs ++ ts, by omega, by go_num, by simp; omega, v2, mv2, hR2, hK.trans hK2⟩
      case measure => simp [intOf]; omega
    · go_wp2
      go_ret
      exact ⟨rs, rfl, by omega, v, mv, hR, hK⟩

theorem build_none (a : Option Addr) (n cap : Nat) (w : World) (hn : n < 1) :
    Calls Yba.prog 7 #[.slice a n cap] w fun e w' => ∃ rs, e = .returned (.pointer (some ⟨w.heap.size, 0, none⟩)) ∧ rs.length ≤ 1024 ∧ Enrolled w.heap.size rs (· < w.heap.size) w w' := by
  have h0 : Ros w.heap.size (.slice none 0 0) (.map none) [] (· < w.heap.size) (w.alloc (.cells #[.slice none 0 0, .map none, .slice none 0 0] 28)) :=
    ⟨heap_alloc_new w _, World.ownsRow_nil _ _ _ _, .inl rfl, by simp, by simp, by simp, fun k hk => ⟨by simp; omega, by omega, by simp [Value.ownBlock], by simp⟩⟩
  have hk0 : Kept (· < w.heap.size) w (w.alloc (.cells #[.slice none 0 0, .map none, .slice none 0 0] 28)) := Kept.of_below ((Below.refl _ w).alloc (Nat.le_refl _) _) (fun k hk => hk)
  have hE : Enrolled w.heap.size [] (· < w.heap.size) w (w.alloc (.cells #[.slice none 0 0, .map none, .slice none 0 0] 28)) := ⟨_, _, h0, hk0⟩
  clear h0 hk0
  go_enter Yba.func7, Yba.ntmps7
  go_wp2
  refine wp_loop_rounds 1 ?_
  rw [rounds_succ]
  go_wp2
  go_ret
  exact ⟨[], rfl, by simp, hE⟩

theorem build_any (a : Option Addr) (n cap : Nat) (ss : List ByteArray) (w : World) (h : IsNames w a n ss) (hn : n ≤ 1024) :
    Calls Yba.prog 7 #[.slice a n cap] w fun e w' => ∃ rs, e = .returned (.pointer (some ⟨w.heap.size, 0, none⟩)) ∧ rs.length ≤ 1024 ∧ Enrolled w.heap.size rs (· < w.heap.size) w w' := by
  obtain ⟨hl, hlen, hc⟩ := h
  rcases Nat.eq_zero_or_pos n with h0 | h0
  · exact build_none a n cap w (by omega)
  · obtain ⟨b, off, rfl, hcell⟩ := hc h0
    exact build_some b off n cap ss w hl hn h0 hlen hcell

theorem Ros.drewN {rb : Nat} {v mv : Value} {ss : List ByteArray} {F : Nat → Prop} {w : World} (h : Ros rb v mv ss F w) (q : Nat) : Ros rb v mv ss F (w.drewN q) :=
  h.moved rfl (fun _ _ => rfl) (fun _ _ => rfl) h.far
/-- More foreign blocks: one that is new. -/
theorem Ros.cloned {rb c : Nat} {v mv : Value} {ss : List ByteArray} {F : Nat → Prop} {w w' : World} (h : Ros rb v mv ss F w) (hb : Below w.heap.size w w') (hc : w.heap.size ≤ c) (hc' : c < w'.heap.size) : Ros rb v mv ss (fun k => F k ∨ k = c) w' := by
  obtain ⟨l1, l2, l3⟩ := h.lt
  refine h.moved (hb.block rb l1) (fun g hg => hb.block g (l2 g hg)) (fun mb hm => hb.block mb (l3 mb hm)) (fun k hk => ?_)
  rcases hk with hk | rfl
  · obtain ⟨a, b, c, d⟩ := h.far k hk
    exact ⟨Nat.lt_of_lt_of_le a hb.size, b, c, d⟩
  · exact ⟨hc', by omega, fun e => by have := l2 k e; omega, fun e => by have := l3 k e; omega⟩
end Go.Proofs.Ybulkcqtk
