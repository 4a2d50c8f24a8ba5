/-
  THE WALKS on roster, 2: (*roster).forget of the last name.
-/
import Derived.Test.YbulkcqtkRows
import Derived.Test.YbulkcqtkRWalks1
import Derived.WalkKit
import Derived.WalkLawsBesides
import Derived.BigRegion
namespace Go.Proofs.Ybulkcqtk
open Go.RowKit Go.Maps

/-- What forget leaves. -/
def Forgot (rb g n cap : Nat) (mv : Value) (ss : List ByteArray) (F : Nat → Prop) (w w' : World) : Prop :=
  Ros rb (.slice (some ⟨g, 0, none⟩) n cap) mv ss F w' ∧ w'.cell? ⟨g, n, none⟩ = some (.string ⟨#[]⟩) ∧ Kept F w w'

theorem forgot_mk {rb g n cap : Nat} {mv : Value} {ss : List ByteArray} {x : ByteArray} {F : Nat → Prop} {w W : World} (hn : n = ss.length)
    (blk : W.heap[rb]? = some (RB (.slice (some ⟨g, 0, none⟩) (n + 1) cap) mv)) (row : W.ownsRow 0 9 1 (.slice (some ⟨g, 0, none⟩) (n + 1) cap) (n + 1) ((ss ++ [x]).map Value.string))
    (idx : mv = .map none ∨ ∃ mb D, mv = .map (some mb) ∧ W.ownsMap Yba.prog 9 (plainElem Yba.prog 21) mb ss.length D ∧ Ix D ss)
    (nodup : (ss ++ [x]).Nodup) (small : (ss ++ [x]).length ≤ 100000) (lens : ∀ s ∈ ss ++ [x], s.size ≤ maxLen)
    (far : ∀ k, F k → k < W.heap.size ∧ k ≠ rb ∧ g ≠ k ∧ mv ≠ .map (some k)) (kept : Kept F w W) :
    Forgot rb g n cap mv ss F w ((W.setCell ⟨g, n, none⟩ (.string ⟨#[]⟩)).setCell ⟨rb, 0, none⟩ (.slice (some ⟨g, 0, none⟩) n cap)) := by
  have hgr : g ≠ rb := fun e => row_ne blk row (by simp [Value.ownBlock, e])
  have h1 := (row.stored n (.string ⟨#[]⟩)).1
  have hset : ((ss ++ [x]).map Value.string).set n (.string ⟨#[]⟩) = ss.map Value.string ++ [.string ⟨#[]⟩] := by
    rw [List.map_append, List.set_append_right _ _ (by simp [hn])]
    simp [hn]
  rw [hset] at h1
  have h2 := ownsRow_pop (by simp [hn]) h1
  have c1 := h1.cellAt n (by omega)
  refine ⟨⟨RB_set0 ((Below.heap_setCell _ _ _ _ (by simpa using hgr.symm)).trans blk) _, ?_, ?_, ?_, ?_, ?_, ?_⟩, ?_, ?_⟩
  · rw [← hn]
    exact owns_of_block h2 (fun k hk => by
      simp only [Value.ownBlock, Option.some.injEq] at hk
      subst hk
      exact Below.heap_setCell _ _ _ _ (by simpa using hgr))
  · rcases idx with hm | ⟨mb, D, rfl, ho, hi⟩
    · exact .inl hm
    · have e1 : mb ≠ rb := map_ne blk ho
      have e2 : mb ≠ g := fun e => row_map_ne row ho (by simp [Value.ownBlock, e])
      exact .inr ⟨mb, D, rfl, (ho.setCell (a := ⟨g, n, none⟩) e2 _).setCell (a := ⟨rb, 0, none⟩) e1 _, hi⟩
  · exact (List.nodup_append.1 nodup).1
  · simp at small; omega
  · exact fun s hs => lens s (by simp [hs])
  · intro k hk
    obtain ⟨a, b, c, d⟩ := far k hk
    refine ⟨by simpa [World.setCell] using a, b, by simpa [Value.ownBlock] using c, d⟩
  · rw [World.cell?_setCell_other _ ⟨rb, 0, none⟩ ⟨g, n, none⟩ _ (by simp), c1]
    rw [List.getElem?_append_right (by simp [hn])]
    simp [hn]
  · exact (kept.trans (Kept.of_setCell W ⟨g, n, none⟩ _ (fun k hk => fun e => (far k hk).2.2.1 e.symm))).trans (Kept.of_setCell _ ⟨rb, 0, none⟩ _ (fun k hk => (far k hk).2.1))

theorem forget_nil {rb g cap : Nat} {ss : List ByteArray} {x : ByteArray} {F : Nat → Prop} {w : World} (n : Nat) (hn : n = ss.length) (h : Ros rb (.slice (some ⟨g, 0, none⟩) (n + 1) cap) (.map none) (ss ++ [x]) F w) :
    Calls Yba.prog 9 #[.pointer (some ⟨rb, 0, none⟩), .int .i32 n] w fun e w' => e = .returned (.tuple #[]) ∧ Forgot rb g n cap (.map none) ss F w w' := by
  obtain ⟨c0, c1, _, f0, _⟩ := RB_cells h.blk
  have hsm := h.small
  have hrow := h.row
  have hlenE : (ss ++ [x]).length = n + 1 := by simp [hn]
  rw [hlenE] at hsm hrow
  have hgr : g ≠ rb := fun e => row_ne h.blk h.row (by simp [Value.ownBlock, e])
  have cg : w.cell? ⟨g, n, none⟩ = some (.string x) := by
    rw [hrow.cellAt n (by omega), List.getElem?_map, List.getElem?_append_right (by omega)]
    simp [hn]
  have fg : w.frozen? ⟨g, n, none⟩ = false := hrow.frozenAt n
  have hcap : n + 1 ≤ cap := by
    rcases hrow.2 with ⟨e, _⟩ | ⟨g', cap', cur, e, _, _, hnc, _⟩
    · cases e
    · cases e; exact hnc
  have c0' : (w.setCell ⟨g, n, none⟩ (.string ⟨#[]⟩)).cell? ⟨rb, 0, none⟩ = some (.slice (some ⟨g, 0, none⟩) (n + 1) cap) := (World.cell?_setCell_other _ ⟨g, n, none⟩ ⟨rb, 0, none⟩ _ (by simp)).trans c0
  have hq := neq25
  have hfin : Forgot rb g n cap (.map none) ss F w ((w.setCell ⟨g, n, none⟩ (.string ⟨#[]⟩)).setCell ⟨rb, 0, none⟩ (.slice (some ⟨g, 0, none⟩) n cap)) :=
    forgot_mk hn h.blk hrow (.inl rfl) h.nodup h.small h.lens (fun k hk => by have := h.far k hk; simpa [Value.ownBlock] using this) (Kept.refl _ _)
  clear hrow hlenE hn h
  go_enter Yba.func9, Yba.ntmps9
  go_wp2
  go_end0
  exact ⟨rfl, hfin⟩

theorem forget_map {rb g cap mb : Nat} {ss : List ByteArray} {x : ByteArray} {F : Nat → Prop} {w : World} (n : Nat) (hn : n = ss.length) (h : Ros rb (.slice (some ⟨g, 0, none⟩) (n + 1) cap) (.map (some mb)) (ss ++ [x]) F w) :
    Calls Yba.prog 9 #[.pointer (some ⟨rb, 0, none⟩), .int .i32 n] w fun e w' => e = .returned (.tuple #[]) ∧ Forgot rb g n cap (.map (some mb)) ss F w w' := by
  obtain ⟨c0, c1, _, f0, _⟩ := RB_cells h.blk
  have hsm := h.small
  have hrow := h.row
  have hlenE : (ss ++ [x]).length = n + 1 := by simp [hn]
  rw [hlenE] at hsm hrow
  have hgr : g ≠ rb := fun e => row_ne h.blk h.row (by simp [Value.ownBlock, e])
  have cg : w.cell? ⟨g, n, none⟩ = some (.string x) := by
    rw [hrow.cellAt n (by omega), List.getElem?_map, List.getElem?_append_right (by omega)]
    simp [hn]
  have hcap : n + 1 ≤ cap := by
    rcases hrow.2 with ⟨e, _⟩ | ⟨g', cap', cur, e, _, _, hnc, _⟩
    · cases e
    · cases e; exact hnc
  have hq := neq25
  obtain ⟨mb', D, hmb, ho, hi⟩ := h.idx.resolve_left (by simp)
  simp only [Value.map.injEq, Option.some.injEq] at hmb
  subst hmb
  have hxl := h.lens x (by simp)
  have hxs : x ∉ ss := by
    have := (List.nodup_append.1 h.nodup).2.2
    intro hx
    exact this x hx x (by simp) rfl
  obtain ⟨W, hrun, ho1, hturn⟩ := ho.drew.drop law9 Yba.underlying25 (K_key x hxl) 0
  have hsame : ∀ k, k < w.heap.size → k ≠ mb → W.heap[k]? = w.heap[k]? := fun k hk hne => hturn.grown.block k hk (by simpa using hne)
  have hltr := h.lt
  have hrm : rb ≠ mb := fun e => map_ne h.blk ho e.symm
  have hgm : g ≠ mb := fun e => row_map_ne hrow ho (by simp [Value.ownBlock, e])
  have blkW : W.heap[rb]? = some (RB (.slice (some ⟨g, 0, none⟩) (n + 1) cap) (.map (some mb))) := (hsame rb hltr.1 hrm).trans h.blk
  have rowW : W.ownsRow 0 9 1 (.slice (some ⟨g, 0, none⟩) (n + 1) cap) (n + 1) ((ss ++ [x]).map Value.string) := owns_of_block hrow (fun k hk => by
    simp only [Value.ownBlock, Option.some.injEq] at hk
    subst hk
    exact hsame g (hltr.2.1 g rfl) hgm)
  have hI := hi.del (ho.tidy law9) hxs
  have ho2 := owns_tight ho1
  rw [hI.size] at ho2
  have hfin : Forgot rb g n cap (.map (some mb)) ss F w ((W.setCell ⟨g, n, none⟩ (.string ⟨#[]⟩)).setCell ⟨rb, 0, none⟩ (.slice (some ⟨g, 0, none⟩) n cap)) :=
    forgot_mk hn blkW rowW (.inr ⟨mb, _, rfl, ho2, hI⟩) h.nodup h.small h.lens
      (fun k hk => by obtain ⟨a, b, c, d⟩ := h.far k hk; exact ⟨Nat.lt_of_lt_of_le a hturn.grown.size, b, by simpa [Value.ownBlock] using c, d⟩)
      ⟨hturn.grown.os, hturn.grown.tape, hturn.grown.output, hturn.grown.size, fun k hk => by obtain ⟨a, b, c, d⟩ := h.far k hk; exact hsame k a (fun e => d (by rw [e]))⟩
  obtain ⟨d0, _, _, g0, _⟩ := RB_cells blkW
  have dg : W.cell? ⟨g, n, none⟩ = some (.string x) := by
    rw [rowW.cellAt n (by omega), List.getElem?_map, List.getElem?_append_right (by omega)]
    simp [hn]
  have fg : W.frozen? ⟨g, n, none⟩ = false := rowW.frozenAt n
  have d0' : (W.setCell ⟨g, n, none⟩ (.string ⟨#[]⟩)).cell? ⟨rb, 0, none⟩ = some (.slice (some ⟨g, 0, none⟩) (n + 1) cap) := (World.cell?_setCell_other _ ⟨g, n, none⟩ ⟨rb, 0, none⟩ _ (by simp)).trans d0
  have hnI : (n : Int) < (n : Int) + 1 := by omega
  clear hrow hlenE hn h ho hi ho1 ho2 hI rowW blkW hturn hsame hltr hxl hxs
  go_enter Yba.func9, Yba.ntmps9
  go_wp2
  go_region
  all_goals go_wp2
  go_end0
  exact ⟨rfl, hfin⟩

/-- (*roster).forget of the last name. -/
theorem forget_any {rb : Nat} {v mv : Value} {ss : List ByteArray} {x : ByteArray} {F : Nat → Prop} {w : World} (n : Nat) (hn : n = ss.length) (h : Ros rb v mv (ss ++ [x]) F w) :
    ∃ g cap, v = .slice (some ⟨g, 0, none⟩) (n + 1) cap ∧ n + 1 ≤ cap ∧ Calls Yba.prog 9 #[.pointer (some ⟨rb, 0, none⟩), .int .i32 n] w fun e w' => e = .returned (.tuple #[]) ∧ Forgot rb g n cap mv ss F w w' := by
  have hlenE : (ss ++ [x]).length = n + 1 := by simp [hn]
  have hrow := h.row
  rw [hlenE] at hrow
  obtain ⟨hl, hs⟩ := shape hrow
  rcases hs with ⟨_, e⟩ | ⟨g, cap, rfl, hcap, _⟩
  · simp at e
  · refine ⟨g, cap, rfl, hcap, ?_⟩
    rcases h.idx with rfl | ⟨mb, D, rfl, _, _⟩
    · exact forget_nil n hn h
    · exact forget_map n hn h
end Go.Proofs.Ybulkcqtk
