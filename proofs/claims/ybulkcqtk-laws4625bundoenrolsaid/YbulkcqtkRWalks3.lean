/-
  THE WALKS on roster, 3: (*roster).enrol.
-/
import Derived.Test.YbulkcqtkRows
import Derived.Test.YbulkcqtkRWalks1
import Derived.WalkKit
import Derived.WalkLawsBesides
import Derived.Maps.AppendAt
namespace Go.Proofs.Ybulkcqtk
open Go.RowKit Go.Maps

theorem info9 : (Yba.prog.info? 9).map (fun i => (i.zero, i.size, i.bytes)) = some (some (.string ⟨#[]⟩), 1, 16) := by kernel_rfl

/-- (*roster).enrol of a name that is there. -/
theorem enrol_there {rb : Nat} {v mv : Value} {ss : List ByteArray} {F : Nat → Prop} {w : World} (h : Ros rb v mv ss F w) (x : ByteArray) (n : Nat) (hn : ss[n]? = some x) :
    Calls Yba.prog 11 #[.pointer (some ⟨rb, 0, none⟩), .string x] w fun e w' => e = .returned (.tuple #[.int .i32 n, .bool false]) ∧ w' = w := by
  have cL := fun W (hW : W = w) => hW ▸ lookup_hit h x n hn
  clear h hn
  go_enter Yba.func11, Yba.ntmps11
  go_wp2_with (go_at_call 10; refine (cL _ rfl).mono ?_; rintro e w' ⟨rfl, rfl⟩)
  go_ret2
  exact ⟨rfl, rfl⟩

theorem shape1 {w : World} {base n : Nat} {v : Value} {xs : List Value} (h : w.ownsRow base 9 1 v n xs) : ∃ a cap, v = .slice a n cap := by
  rcases h.2 with ⟨rfl, rfl⟩ | ⟨g, cap, cur, rfl, _⟩
  · exact ⟨_, _, rfl⟩
  · exact ⟨_, _, rfl⟩
theorem shape2 {w : World} {base n : Nat} {v : Value} {xs : List Value} (h : w.ownsRow base 9 1 v (n + 1) xs) : ∃ g cap, v = .slice (some ⟨g, 0, none⟩) (n + 1) cap ∧ n + 1 ≤ cap := by
  rcases h.2 with ⟨_, e⟩ | ⟨g, cap, cur, rfl, _, _, hc, _⟩
  · omega
  · exact ⟨_, _, rfl, hc⟩
theorem oneS (s : ByteArray) : ∀ u ∈ [Value.string s], u.oneCell' = true := by
  intro u hu; simp at hu; subst hu; rfl

/-- What enrol of a new name leaves. -/
def Enrolled (rb : Nat) (ss : List ByteArray) (F : Nat → Prop) (w w' : World) : Prop := ∃ v mv, Ros rb v mv ss F w' ∧ Kept F w w'

/-- Behind 'r.replicas = append(r.replicas, id)': what is known of the world w1 that append leaves (w: ahead of the statement). -/
structure Mid (rb : Nat) (v v' mv : Value) (ss : List ByteArray) (x : ByteArray) (F : Nat → Prop) (w w1 : World) : Prop where
  blk : w1.heap[rb]? = some (RB v mv)
  row : w1.ownsRow 0 9 1 v' (ss.length + 1) ((ss ++ [x]).map Value.string)
  idx : mv = .map none ∨ ∃ mb D, mv = .map (some mb) ∧ w1.ownsMap Yba.prog 9 (plainElem Yba.prog 21) mb ss.length D ∧ Ix D ss
  kept : Kept F w w1
  far : ∀ k, F k → k < w1.heap.size ∧ k ≠ rb ∧ v'.ownBlock ≠ some k ∧ mv ≠ .map (some k)

theorem mid_mk {rb n : Nat} {v v' mv : Value} {ss : List ByteArray} {x : ByteArray} {F : Nat → Prop} {w w1 : World} (hn : n = ss.length) (h : Ros rb v mv ss F w) (o : Obj)
    (hown : w1.ownsRow 0 9 1 v' (n + 1) (ss.map Value.string ++ [Value.string x])) (hgrow : (w.alloc o).grownBy w1 v.ownBlock) (hloc : v'.ownBlock = v.ownBlock ∨ v'.ownBlock = some (w.alloc o).heap.size) : Mid rb v v' mv ss x F w w1 := by
  subst hn
  have hl := h.lt
  have hsame : ∀ k, k < w.heap.size → some k ≠ v.ownBlock → w1.heap[k]? = w.heap[k]? := fun k hk hne => (hgrow.block k (by simp; omega) hne).trans (Below.heap_alloc _ _ _ hk)
  have hrv : some rb ≠ v.ownBlock := fun e => row_ne h.blk h.row e.symm
  refine ⟨(hsame rb hl.1 hrv).trans h.blk, by simpa using hown, ?_, ⟨hgrow.os, hgrow.tape, hgrow.output, Nat.le_trans (by simp) hgrow.size, fun k hk => ?_⟩, fun k hk => ?_⟩
  · rcases h.idx with hm | ⟨mb, D, rfl, ho, hi⟩
    · exact .inl hm
    · exact .inr ⟨mb, D, rfl, map_of_block ho (hsame mb (hl.2.2 mb rfl) (fun e => row_map_ne h.row ho e.symm)), hi⟩
  · obtain ⟨a, b, c, d⟩ := h.far k hk
    exact hsame k a (fun e => c e.symm)
  · obtain ⟨a, b, c, d⟩ := h.far k hk
    refine ⟨Nat.lt_of_lt_of_le (by simp; omega) hgrow.size, b, ?_, d⟩
    rcases hloc with e | e
    · rw [e]; exact c
    · rw [e]; intro e'; simp at e'; omega

theorem Mid.lt {rb : Nat} {v v' mv : Value} {ss : List ByteArray} {x : ByteArray} {F : Nat → Prop} {w w1 : World} (M : Mid rb v v' mv ss x F w w1) : rb < w1.heap.size := (Array.getElem?_eq_some_iff.1 M.blk).1

theorem flip {f : FuncId} {args : Array Value} {w : World} {v : Value} (h : Calls Yba.prog f args w fun e w' => e = .returned v ∧ w' = w) : Calls Yba.prog f args w fun e w' => e = .returned v ∧ w = w' :=
  h.mono fun _ _ ⟨h1, h2⟩ => ⟨h1, h2.symm⟩

/-- The roster behind 'r.replicas = append(..)' and whatever became of the index since, in w2. -/
theorem enrolled_mk {rb : Nat} {v v' mv mv' : Value} {ss : List ByteArray} {x : ByteArray} {F : Nat → Prop} {w w1 w2 : World} (h : Ros rb v mv ss F w) (hx : x ∉ ss) (hxl : x.size ≤ maxLen) (hs : ss.length < 100000) (M : Mid rb v v' mv ss x F w w1)
    (blk : w2.heap[rb]? = some (RB v' mv')) (row : w2.ownsRow 0 9 1 v' (ss.length + 1) ((ss ++ [x]).map Value.string))
    (idx : mv' = .map none ∨ ∃ mb D, mv' = .map (some mb) ∧ w2.ownsMap Yba.prog 9 (plainElem Yba.prog 21) mb (ss.length + 1) D ∧ Ix D (ss ++ [x]))
    (kept : Kept F w1 w2) (far : ∀ k, F k → mv' ≠ .map (some k)) : Enrolled rb (ss ++ [x]) F w w2 := by
  refine ⟨v', mv', ⟨blk, by simpa using row, by simpa using idx, ?_, by simp; omega, ?_, fun k hk => ?_⟩, M.kept.trans kept⟩
  · refine List.nodup_append.2 ⟨h.nodup, by simp, fun a ha b hb => ?_⟩
    simp at hb
    subst hb
    exact fun e => hx (e ▸ ha)
  · intro s hs'
    rcases List.mem_append.1 hs' with h1 | h1
    · exact h.lens s h1
    · simp at h1; subst h1; exact hxl
  · obtain ⟨a, b, c, d⟩ := M.far k hk
    exact ⟨Nat.lt_of_lt_of_le a kept.size, b, c, far k hk⟩

theorem wf32 (n : Nat) (h : n < 100000) : (Lit.int .i32 (n : Int)).wf = true := by
  simp [Lit.wf, IntKind.min, IntKind.max, IntKind.signed, IntKind.bits]; omega

/-- A block that is neither the roster's nor the index's, behind the two stores. -/
theorem enrolled_map {rb mb n g cap : Nat} {v : Value} {ss : List ByteArray} {x : ByteArray} {F : Nat → Prop} {w w1 w3 : World} {D : MD} (hn : n = ss.length) (h : Ros rb v (.map (some mb)) ss F w) (hx : x ∉ ss) (hxl : x.size ≤ maxLen) (hs : n < 100000)
    (M : Mid rb v (.slice (some ⟨g, 0, none⟩) (n + 1) cap) (.map (some mb)) ss x F w w1) (ho : w1.ownsMap Yba.prog 9 (plainElem Yba.prog 21) mb ss.length D) (hi : Ix D ss)
    (hown : w3.ownsMap Yba.prog 9 (plainElem Yba.prog 21) mb (ss.length + 1) (D.put (K x) (.lit (.int .i32 n)))) (hgrow : (w1.setCell ⟨rb, 0, none⟩ (.slice (some ⟨g, 0, none⟩) (n + 1) cap)).grownBy w3 (some mb)) : Enrolled rb (ss ++ [x]) F w w3 := by
  subst hn
  have hmr : mb ≠ rb := map_ne M.blk ho
  have hgr : g ≠ rb := fun e => row_ne M.blk M.row (by simp [Value.ownBlock, e])
  have hgm : g ≠ mb := fun e => row_map_ne M.row ho (by simp [Value.ownBlock, e])
  have hgl : g < w1.heap.size := (M.row.lt g rfl).2
  have hsame : ∀ k, k < w1.heap.size → k ≠ rb → k ≠ mb → w3.heap[k]? = w1.heap[k]? := fun k hk h1 h2 =>
    (hgrow.block k (by simpa [World.setCell] using hk) (by simpa using h2)).trans (Below.heap_setCell _ _ _ _ h1)
  refine enrolled_mk h hx hxl hs M ((hgrow.block rb (by simpa [World.setCell] using M.lt) (by simpa using hmr.symm)).trans (RB_set0 M.blk _)) (owns_of_block M.row (fun k hk => ?_)) (.inr ⟨mb, _, rfl, hown, hi.put (ho.tidy law9) hx⟩) ?_ (fun k hk => (M.far k hk).2.2.2)
  · simp only [Value.ownBlock, Option.some.injEq] at hk
    subst hk
    exact hsame g hgl hgr hgm
  · refine ⟨hgrow.os, hgrow.tape, hgrow.output, Nat.le_trans (by simp [World.setCell]) hgrow.size, fun k hk => ?_⟩
    obtain ⟨a, b, c, d⟩ := M.far k hk
    exact hsame k a b (fun e => d (by rw [e]))

theorem enrol_map {rb mb : Nat} {v : Value} {ss : List ByteArray} {F : Nat → Prop} {w : World} (h : Ros rb v (.map (some mb)) ss F w) (x : ByteArray) (hx : x ∉ ss) (hxl : x.size ≤ maxLen) (n : Nat) (hn : n = ss.length) (hs : n < 100000) :
    Calls Yba.prog 11 #[.pointer (some ⟨rb, 0, none⟩), .string x] w fun e w' => e = .returned (.tuple #[.int .i32 n, .bool true]) ∧ Enrolled rb (ss ++ [x]) F w w' := by
  have hrow := h.row
  rw [← hn] at hrow
  obtain ⟨a, cap, rfl⟩ := shape1 hrow
  obtain ⟨c0, c1, _, f0, _⟩ := RB_cells h.blk
  have cL := fun W (hW : W = w) => hW ▸ flip (lookup_miss h x hxl hx)
  have HN : Hid (n = ss.length) := hn
  have HX : Hid (x ∉ ss) := hx
  obtain ⟨i9, hi, hz0, hz1, hz2⟩ := info_parts info9
  have hq := neq25
  have hkey := K_key x hxl
  have hwf := wf32 n hs
  clear hn hx
  go_enter Yba.func11, Yba.ntmps11
  go_wp2_with (first | (go_at_call 10; refine (cL _ rfl).mono ?_; rintro e w' ⟨rfl, rfl⟩) | (at_builtin; refine wpList_append_own_at _ rfl (.tmp 28) (.tmp 30) 22 rfl 0 9 i9 (.string ⟨#[]⟩) 1 16 Yba.underlying22 hi hz0 hz1 hz2 rfl (by decide) _ _ _ rfl (hrow.alloc _) ⟨w.heap.size, 0, none⟩ 1 1 [.string x] rfl rfl (cell_one_new _ _ _) (oneS x) (by unfold maxLen; omega) (by omega) (Nat.zero_le _) ?_; intro v' w1 hown' hgrow' hnil hloc; have M := mid_mk HN.out h _ hown' hgrow' hloc; obtain ⟨g', cap', hv', hc'⟩ := shape2 hown'; rw [hv'] at M ⊢; clear hown' hgrow' hnil hloc hv'; obtain ⟨mb', D, hmb, hoM, hiM⟩ := M.idx.resolve_left (by simp); simp only [Value.map.injEq, Option.some.injEq] at hmb; rw [← hmb] at hoM; clear hmb; have hom2 := hoM.setCell (a := ⟨rb, 0, none⟩) (map_ne M.blk hoM) (.slice (some ⟨g', 0, none⟩) (n + 1) cap'); obtain ⟨d0, d1, _, e0, e1⟩ := RB_cells M.blk; obtain ⟨k0, k1, _, _, _⟩ := RB_cells (RB_set0 M.blk (.slice (some ⟨g', 0, none⟩) (n + 1) cap'))) | (at_mapUpdate; refine wpList_mapUpdate_own _ rfl _ _ _ 25 rfl 9 21 law9 Yba.underlying25 _ mb ss.length D rfl hom2 (by have := HN.out; unfold maxLen; omega) _ _ _ rfl rfl hkey _ [] (plainElem_int Yba.underlying21 hwf) ?_; intro w3 hown3 hgrow3))
  go_ret2
  exact ⟨rfl, enrolled_map HN.out h HX.out hxl hs M hoM hiM hown3 hgrow3⟩

theorem enrolled_small {rb n g cap : Nat} {v : Value} {ss : List ByteArray} {x : ByteArray} {F : Nat → Prop} {w w1 : World} (hn : n = ss.length) (h : Ros rb v (.map none) ss F w) (hx : x ∉ ss) (hxl : x.size ≤ maxLen) (hs : n < 100000)
    (M : Mid rb v (.slice (some ⟨g, 0, none⟩) (n + 1) cap) (.map none) ss x F w w1) : Enrolled rb (ss ++ [x]) F w (w1.setCell ⟨rb, 0, none⟩ (.slice (some ⟨g, 0, none⟩) (n + 1) cap)) := by
  subst hn
  have hgr : g ≠ rb := fun e => row_ne M.blk M.row (by simp [Value.ownBlock, e])
  refine enrolled_mk h hx hxl hs M (RB_set0 M.blk _) (owns_of_block M.row (fun k hk => ?_)) (.inl rfl) (Kept.of_setCell _ _ _ (fun k hk => (M.far k hk).2.1)) (fun k hk => by simp)
  simp only [Value.ownBlock, Option.some.injEq] at hk
  subst hk
  exact Below.heap_setCell _ _ _ _ hgr

theorem enrol_small {rb : Nat} {v : Value} {ss : List ByteArray} {F : Nat → Prop} {w : World} (h : Ros rb v (.map none) ss F w) (x : ByteArray) (hx : x ∉ ss) (hxl : x.size ≤ maxLen) (n : Nat) (hn : n = ss.length) (hs : n < 8) :
    Calls Yba.prog 11 #[.pointer (some ⟨rb, 0, none⟩), .string x] w fun e w' => e = .returned (.tuple #[.int .i32 n, .bool true]) ∧ Enrolled rb (ss ++ [x]) F w w' := by
  have hrow := h.row
  rw [← hn] at hrow
  obtain ⟨a, cap, rfl⟩ := shape1 hrow
  obtain ⟨c0, c1, _, f0, _⟩ := RB_cells h.blk
  have cL := fun W (hW : W = w) => hW ▸ flip (lookup_miss h x hxl hx)
  have HN : Hid (n = ss.length) := hn
  have HX : Hid (x ∉ ss) := hx
  obtain ⟨i9, hi, hz0, hz1, hz2⟩ := info_parts info9
  have hq := neq25
  clear hn hx
  go_enter Yba.func11, Yba.ntmps11
  go_wp2_with (first | (go_at_call 10; refine (cL _ rfl).mono ?_; rintro e w' ⟨rfl, rfl⟩) | (at_builtin; refine wpList_append_own_at _ rfl (.tmp 28) (.tmp 30) 22 rfl 0 9 i9 (.string ⟨#[]⟩) 1 16 Yba.underlying22 hi hz0 hz1 hz2 rfl (by decide) _ _ _ rfl (hrow.alloc _) ⟨w.heap.size, 0, none⟩ 1 1 [.string x] rfl rfl (cell_one_new _ _ _) (oneS x) (by unfold maxLen; omega) (by omega) (Nat.zero_le _) ?_; intro v' w1 hown' hgrow' hnil hloc; have M := mid_mk HN.out h _ hown' hgrow' hloc; obtain ⟨g', cap', hv', hc'⟩ := shape2 hown'; rw [hv'] at M ⊢; clear hown' hgrow' hnil hloc hv'; obtain ⟨d0, d1, _, e0, e1⟩ := RB_cells M.blk; obtain ⟨k0, k1, _, k3, k4⟩ := RB_cells (RB_set0 M.blk (.slice (some ⟨g', 0, none⟩) (n + 1) cap')); have hlt1 := M.lt))
  go_ret2
  exact ⟨rfl, enrolled_small HN.out h HX.out hxl (by omega) M⟩

/-- While the index is being filled: k names are in it. -/
structure Filling (rb g cap n mb : Nat) (ss : List ByteArray) (F : Nat → Prop) (w1 : World) (k : Nat) (wr : World) : Prop where
  blk : wr.heap[rb]? = some (RB (.slice (some ⟨g, 0, none⟩) (n + 1) cap) (.map (some mb)))
  row : wr.ownsRow 0 9 1 (.slice (some ⟨g, 0, none⟩) (n + 1) cap) (n + 1) (ss.map Value.string)
  map : ∃ D, wr.ownsMap Yba.prog 9 (plainElem Yba.prog 21) mb k D ∧ Ix D (ss.take k)
  kept : Kept F w1 wr

theorem filling_start {rb n g cap : Nat} {v : Value} {ss : List ByteArray} {x : ByteArray} {F : Nat → Prop} {w w1 : World} (hn : n = ss.length) (M : Mid rb v (.slice (some ⟨g, 0, none⟩) (n + 1) cap) (.map none) ss x F w w1) :
    Filling rb g cap n w1.heap.size (ss ++ [x]) F w1 0 (((w1.setCell ⟨rb, 0, none⟩ (.slice (some ⟨g, 0, none⟩) (n + 1) cap)).setCell ⟨rb, 1, none⟩ (.map (some w1.heap.size))).alloc (.map #[] 0)) := by
  subst hn
  have hgr : g ≠ rb := fun e => row_ne M.blk M.row (by simp [Value.ownBlock, e])
  have hgl : g < w1.heap.size := (M.row.lt g rfl).2
  have hz : ((w1.setCell ⟨rb, 0, none⟩ (.slice (some ⟨g, 0, none⟩) (ss.length + 1) cap)).setCell ⟨rb, 1, none⟩ (.map (some w1.heap.size))).heap.size = w1.heap.size := by simp [World.setCell]
  have hsame : ∀ k, k < w1.heap.size → k ≠ rb → (((w1.setCell ⟨rb, 0, none⟩ (.slice (some ⟨g, 0, none⟩) (ss.length + 1) cap)).setCell ⟨rb, 1, none⟩ (.map (some w1.heap.size))).alloc (.map #[] 0)).heap[k]? = w1.heap[k]? := fun k hk hne =>
    (Below.heap_alloc _ _ _ (by rw [hz]; exact hk)).trans ((Below.heap_setCell _ _ _ _ hne).trans (Below.heap_setCell _ _ _ _ hne))
  refine ⟨(Below.heap_alloc _ _ _ (by rw [hz]; exact M.lt)).trans (RB_set1 (RB_set0 M.blk _) _), owns_of_block M.row (fun k hk => ?_), ?_, ?_⟩
  · simp only [Value.ownBlock, Option.some.injEq] at hk
    subst hk
    exact hsame g hgl hgr
  · refine ⟨.map [], ?_, ?_⟩
    · have := World.ownsMap_made ((w1.setCell ⟨rb, 0, none⟩ (.slice (some ⟨g, 0, none⟩) (ss.length + 1) cap)).setCell ⟨rb, 1, none⟩ (.map (some w1.heap.size))) Yba.prog 9 (plainElem (H := Unit) Yba.prog 21)
      rw [hz] at this
      exact this
    · simpa using Ix.empty
  · refine ⟨rfl, rfl, rfl, by simp [World.setCell], fun k hk => ?_⟩
    obtain ⟨a, b, _, _⟩ := M.far k hk
    exact hsame k a b

theorem filling_step {rb n g cap mb k : Nat} {ss : List ByteArray} {F : Nat → Prop} {w1 wr w' : World} {D : MD} (hF : Filling rb g cap n mb ss F w1 k wr) (hnd : ss.Nodup) (hk : k < ss.length) (hmF : ∀ j, F j → j < w1.heap.size ∧ j ≠ mb) (ho : wr.ownsMap Yba.prog 9 (plainElem Yba.prog 21) mb k D) (hi : Ix D (ss.take k))
    (hown : w'.ownsMap Yba.prog 9 (plainElem Yba.prog 21) mb (k + 1) (D.put (K ss[k]) (.lit (.int .i32 k)))) (hgrow : wr.grownBy w' (some mb)) : Filling rb g cap n mb ss F w1 (k + 1) w' := by
  have hsame : ∀ j, j < wr.heap.size → j ≠ mb → w'.heap[j]? = wr.heap[j]? := fun j hj hne => hgrow.block j hj (by simpa using hne)
  have hlr : rb < wr.heap.size := (Array.getElem?_eq_some_iff.1 hF.blk).1
  have hgl : g < wr.heap.size := (hF.row.lt g rfl).2
  refine ⟨(hsame rb hlr (fun e => map_ne hF.blk ho e.symm)).trans hF.blk, owns_of_block hF.row (fun j hj => ?_), ⟨_, hown, ?_⟩, hF.kept.trans ⟨hgrow.os, hgrow.tape, hgrow.output, hgrow.size, fun j hj => ?_⟩⟩
  · simp only [Value.ownBlock, Option.some.injEq] at hj
    subst hj
    exact hsame g hgl (fun e => row_map_ne hF.row ho (by simp [Value.ownBlock, e]))
  · have hnot : ss[k] ∉ ss.take k := by
      intro hm
      obtain ⟨j, hj, e⟩ := List.mem_iff_getElem.1 hm
      simp at hj
      rw [List.getElem_take] at e
      exact (List.pairwise_iff_getElem.1 hnd) j k (by omega) hk (by omega) e
    have hl : (ss.take k).length = k := by simp; omega
    have := hi.put (ho.tidy law9) hnot
    rw [hl, ← List.take_succ_eq_append_getElem hk] at this
    exact this
  · exact hsame j (Nat.lt_of_lt_of_le (hmF j hj).1 hF.kept.size) (hmF j hj).2

theorem enrolled_build {rb n g cap : Nat} {v : Value} {ss : List ByteArray} {x : ByteArray} {F : Nat → Prop} {w w1 wr : World} (hn : n = ss.length) (h : Ros rb v (.map none) ss F w) (hx : x ∉ ss) (hxl : x.size ≤ maxLen) (hs : n < 100000)
    (M : Mid rb v (.slice (some ⟨g, 0, none⟩) (n + 1) cap) (.map none) ss x F w w1) (hF : Filling rb g cap n w1.heap.size (ss ++ [x]) F w1 (n + 1) wr) : Enrolled rb (ss ++ [x]) F w wr := by
  subst hn
  obtain ⟨D, ho, hi⟩ := hF.map
  rw [List.take_of_length_le (by simp)] at hi
  exact enrolled_mk h hx hxl hs M hF.blk hF.row (.inr ⟨_, D, rfl, ho, hi⟩) hF.kept (fun k hk e => by
    have := (M.far k hk).1
    simp only [Value.map.injEq, Option.some.injEq] at e
    omega)

theorem nodup_snoc {ss : List ByteArray} {x : ByteArray} (h : ss.Nodup) (hx : x ∉ ss) : (ss ++ [x]).Nodup := by
  refine List.nodup_append.2 ⟨h, by simp, fun a ha b hb => ?_⟩
  simp at hb
  subst hb
  exact fun e => hx (e ▸ ha)

theorem makeMap_hint (W : World) (k : IntKind) (n : Int) : (Instr.makeMap 25 (some (.int k n))).run Yba.prog W = .ok (.map (some W.heap.size)) (W.alloc (.map #[] 0)) := by
  simp [Instr.makeMap, run_underlying Yba.underlying25, asInt, asIntOf, newObj]
  rfl

set_option maxRecDepth 100000 in
theorem enrol_build {rb : Nat} {v : Value} {ss : List ByteArray} {F : Nat → Prop} {w : World} (h : Ros rb v (.map none) ss F w) (x : ByteArray) (hx : x ∉ ss) (hxl : x.size ≤ maxLen) (n : Nat) (hn : n = ss.length) (hs : n < 100000) (hb : 8 ≤ n) :
    Calls Yba.prog 11 #[.pointer (some ⟨rb, 0, none⟩), .string x] w fun e w' => e = .returned (.tuple #[.int .i32 n, .bool true]) ∧ Enrolled rb (ss ++ [x]) F w w' := by
  have hrow := h.row
  rw [← hn] at hrow
  obtain ⟨a, cap, rfl⟩ := shape1 hrow
  obtain ⟨c0, c1, _, f0, _⟩ := RB_cells h.blk
  have cL := fun W (hW : W = w) => hW ▸ flip (lookup_miss h x hxl hx)
  have HN : Hid (n = ss.length) := hn
  have HX : Hid (x ∉ ss) := hx
  obtain ⟨i9, hi, hz0, hz1, hz2⟩ := info_parts info9
  have hq := neq25
  have hmm := makeMap_hint
  have e8 : decide ((8 : Int) < (n : Int) + 1) = true := decide_eq_true (by omega)
  clear hn hx
  go_enter Yba.func11, Yba.ntmps11
  go_wp2_with (first | (go_at_call 10; refine (cL _ rfl).mono ?_; rintro e w' ⟨rfl, rfl⟩) | (at_builtin; refine wpList_append_own_at _ rfl (.tmp 28) (.tmp 30) 22 rfl 0 9 i9 (.string ⟨#[]⟩) 1 16 Yba.underlying22 hi hz0 hz1 hz2 rfl (by decide) _ _ _ rfl (hrow.alloc _) ⟨w.heap.size, 0, none⟩ 1 1 [.string x] rfl rfl (cell_one_new _ _ _) (oneS x) (by unfold maxLen; omega) (by omega) (Nat.zero_le _) ?_; intro v' w1 hown' hgrow' hnil hloc; have M := mid_mk HN.out h _ hown' hgrow' hloc; obtain ⟨g', cap', hv', hc'⟩ := shape2 hown'; rw [hv'] at M ⊢; clear hown' hgrow' hnil hloc hv'; obtain ⟨d0, d1, _, e0, e1⟩ := RB_cells M.blk; obtain ⟨k0, k1, _, k3, k4⟩ := RB_cells (RB_set0 M.blk (.slice (some ⟨g', 0, none⟩) (n + 1) cap')); have hlt1 := M.lt))
  have hS := filling_start HN.out M
  have hmF : ∀ j, F j → j < w1.heap.size ∧ j ≠ w1.heap.size := fun j hj => ⟨(M.far j hj).1, by have := (M.far j hj).1; omega⟩
  have hnd := nodup_snoc h.nodup HX.out
  have hlens : ∀ s ∈ ss ++ [x], s.size ≤ maxLen := fun s hs' => by
    rcases List.mem_append.1 hs' with h1 | h1
    · exact h.lens s h1
    · simp at h1; subst h1; exact hxl
  have hlS : n + 1 ≤ (ss ++ [x]).length := by have := HN.out; simp; omega
  have hfin : ∀ wr, Filling rb g' cap' n w1.heap.size (ss ++ [x]) F w1 (n + 1) wr → Enrolled rb (ss ++ [x]) F w wr := fun wr hF => enrolled_build HN.out h HX.out hxl hs M hF
  generalize hmb : w1.heap.size = mb at *
  generalize hSS : ss ++ [x] = SS at *
  have HMB : Hid (w1.heap.size = mb) := hmb
  have HSS : Hid (ss ++ [x] = SS) := hSS
  clear hmb hSS M h hrow cL HN HX d0 d1 e0 e1 k0 k1 k3 k4 hlt1 c0 c1 f0
  go_loopw [67] (fun i wr => ∃ k : Nat, k ≤ n + 1 ∧ i = .int .i64 k ∧ Filling rb g' cap' n mb SS F w1 k wr) (fun i _ => n + 1 - (intOf i).toNat)
  case atStart => exact ⟨0, Nat.zero_le _, rfl, hS⟩
  case round =>
    clear hS
    obtain ⟨k, hk, rfl, hF⟩ := hrel
    by_cases hlt : k < n + 1
    · have hkS : k < SS.length := by omega
      obtain ⟨_, c1, _, _, _⟩ := RB_cells hF.blk
      obtain ⟨D, ho, hix⟩ := hF.map
      have hcell : wr.cell? ⟨g', k, none⟩ = some (.string SS[k]) := by
        rw [hF.row.cellAt k (by omega), List.getElem?_map, List.getElem?_eq_getElem hkS]; rfl
      obtain ⟨y, hy⟩ : ∃ y, y = SS[k] := ⟨_, rfl⟩
      have hkey := K_key y (hlens y (by rw [hy]; exact List.getElem_mem _))
      rw [← hy] at hcell
      have HY : Hid (y = SS[k]) := hy
      have hwf := wf32 k (by omega)
      clear hy
      go_wp2_with (at_mapUpdate; refine wpList_mapUpdate_own _ rfl _ _ _ 25 rfl 9 21 law9 Yba.underlying25 _ mb k D rfl ho (by unfold maxLen; omega) _ _ _ rfl rfl hkey _ [] (plainElem_int Yba.underlying21 hwf) ?_; intro w3 hown3 hgrow3)
      have hF' : Filling rb g' cap' n mb SS F w1 (k + 1) w3 := by
        rw [HY.out] at hown3
        exact filling_step hF hnd hkS (fun j hj => by rw [HMB.out]; exact hmF j hj) ho hix hown3 hgrow3
      clear hown3 hgrow3
      go_roundw
      case rel => exact ⟨k + 1, by omega, by go_num, hF'⟩
      case measure => simp [intOf]; omega
    · have hF' : Filling rb g' cap' n mb SS F w1 (n + 1) wr := by
        have e : k = n + 1 := by omega
        rw [← e]; exact hF
      have hE := hfin wr hF'
      clear hF hF' hfin
      go_wp2
      go_ret2
      exact ⟨rfl, by rw [HSS.out]; exact hE⟩

/-- (*roster).enrol of a new name. -/
theorem enrol_new {rb : Nat} {v mv : Value} {ss : List ByteArray} {F : Nat → Prop} {w : World} (h : Ros rb v mv ss F w) (x : ByteArray) (hx : x ∉ ss) (hxl : x.size ≤ maxLen) (hs : ss.length < 100000) :
    Calls Yba.prog 11 #[.pointer (some ⟨rb, 0, none⟩), .string x] w fun e w' => e = .returned (.tuple #[.int .i32 ss.length, .bool true]) ∧ Enrolled rb (ss ++ [x]) F w w' := by
  rcases h.idx with rfl | ⟨mb, D, rfl, _, _⟩
  · by_cases hb : ss.length < 8
    · exact enrol_small h x hx hxl _ rfl hb
    · exact enrol_build h x hx hxl _ rfl hs (by omega)
  · exact enrol_map h x hx hxl _ rfl hs
end Go.Proofs.Ybulkcqtk
