/-
  THE WALKS of LawS4624CErr: a rule for a region whose first operation is a communication (here a select of one receive with a default), in one goroutine; (*Store).Err at a nil journal, at an open channel, at a closed one (Lock, the deferred Unlock); the law.
-/
import Derived.Test.YbulkcqswRows
import Derived.Test.YbulkcqswCWalks
import Derived.WalkKit
import Derived.WalkLawsBesides
import Derived.Conc.LoneSelect
import Derived.Defers
import Derived.Conc.MuLone
import Derived.Test.YbulkcqswLocks
namespace Go.Proofs.Ybulkcqsw
open Go.RowKit Go.Conc

theorem wp_region_comm {P : Program} {Q : Exit → Act → World → Prop} {a : Act} {w : World} {id : Nat} {o : Oper} {l : List Oper} {cases : Array CommCase} {blocking : Bool} {shape : CommShape} {v : Value}
    (hg : o.guard = none) (hr : (execOp a.eval o).run P w = .ok (.comm cases blocking shape) w)
    (hstep : ∀ (fr : Frame) (cs : List Frame) (es : Array Event), stepG P true (G fr cs) w = .comm (G fr cs) cases blocking shape w es → step P (solo (G fr cs) w) = .next (solo (G (fr.finish v) cs) w))
    (h : wpList P (o :: l).toArray Q l (a.put o.dst v) w) : (Code.region id (o :: l).toArray false).wp P Q a w := by
  intro b k cs
  have ho : (o :: l).toArray[0]? = some o := by simp
  have hw : Region.wanted o (yielded (o :: l).toArray a.tmps) = true := by simp [Region.wanted, hg]
  have h1 := step_region (P := P) (b := b) (a := a) (k := k) (cs := cs) (w := w) (ops := (o :: l).toArray) (id := id)
  have hl : List.range (o :: l).toArray.size = 0 :: List.range' 1 l.length := by
    simp [List.range_eq_range', List.range'_succ]
  rw [hl] at h1
  have hgop := stepG_op (P := P) (b := b) (k := k) (cs := cs) (w := w) (rest := List.range' 1 l.length) ho hw
  obtain ⟨es, hes⟩ : ∃ es, stepG P true (G (b.at a (.inRegion (o :: l).toArray (0 :: List.range' 1 l.length) :: k)) cs) w =
      .comm (G (b.at a (.inRegion (o :: l).toArray (0 :: List.range' 1 l.length) :: k)) cs) cases blocking shape w es := by
    rw [show stepG P true (G (b.at a (.inRegion (o :: l).toArray (0 :: List.range' 1 l.length) :: k)) cs) w = _ from hgop]
    simp only [stepG.apply, Sem.runT_eq, hr, if_true, GStep.after]
    exact ⟨_, rfl⟩
  have h2 := hstep _ cs es hes
  rw [Frame.finish_at, ho] at h2
  have hops : wpOps P (o :: l).toArray Q (List.range' 1 l.length) (a.put o.dst v) w := by
    rw [wpOps_eq_wpList l 1 (fun j => by simp [Nat.add_comm 1 j])]
    exact h
  obtain ⟨e, a', w', hq, harr⟩ := wp_ops (List.range' 1 l.length) (a.put o.dst v) w hops b k cs
  exact ⟨e, a', w', hq, .of_steps (Steps.head h1 (Steps.one h2)) harr⟩


/-- A select of one receive, with a default. -/
theorem wp_sel {P : Program} {Q : Exit → Act → World → Prop} {a : Act} {w : World} {id : Nat} {t e ty : Nat} {dst : Option Tmp} {pos : String} {after : Array Edge} {l : List Oper} (c : Option Nat) (z v : Value)
    (hc : a.tmps[t]?.getD undef = .chan c) (hz : (zeroValue e).run P w = .ok z w)
    (hstep : ∀ (fr : Frame) (cs : List Frame) (es : Array Event), stepG P true (G fr cs) w = .comm (G fr cs) #[{ chan := .chan c, send := none, zero := z }] false .select w es → step P (solo (G fr cs) w) = .next (solo (G (fr.finish v) cs) w))
    (h : wpList P ({ dst := dst, op := Op.select #[{ chan := .tmp t, send := none, elem := e }] false, type := ty, pos := pos, after := after, guard := none } :: l).toArray Q l (a.put dst v) w) :
    (Code.region id ({ dst := dst, op := Op.select #[{ chan := .tmp t, send := none, elem := e }] false, type := ty, pos := pos, after := after, guard := none } :: l).toArray false).wp P Q a w :=
  wp_region_comm rfl (by simp [go_sem, execOp, hc, hz]) hstep h

theorem err_nil (b : Nat) (w : World) (h : w.cell? ⟨b, 8, none⟩ = some (.pointer none)) :
    Calls Yba.prog 11 #[.pointer (some ⟨b, 0, none⟩)] w fun e w' => e = .returned .nilIface ∧ w' = w := by
  go_enter Yba.func11, Yba.ntmps11
  go_wp2_with fail
  refine (failed_nil _ _ h).mono ?_
  rintro e w' ⟨rfl, rfl⟩
  dsimp only
  go_step
  go_step
  go_step
  go_step
  go_step
  refine wp_sel none (.agg #[]) (.tuple #[goInt (-1), .bool false, .agg #[]]) ?_ ?_ ?_ ?_
  · rfl
  · exact Yba.zeroValue39 _
  · exact fun fr cs es hs => step_lone_select_recv_nil hs
  simp only [Act.put]
  go_wp2
  go_ret
  exact ⟨rfl, rfl⟩

theorem err_open (b j c : Nat) (w : World) (h : w.cell? ⟨b, 8, none⟩ = some (.pointer (some ⟨j, 0, none⟩))) (hj : w.cell? ⟨j, 17, none⟩ = some (.chan (some c))) (hc : w.heap[c]? = some (.chan 0 #[] false 0 0 false)) :
    Calls Yba.prog 11 #[.pointer (some ⟨b, 0, none⟩)] w fun e w' => e = .returned .nilIface ∧ w' = w := by
  go_enter Yba.func11, Yba.ntmps11
  go_wp2_with fail
  refine (failed_some b j (.chan (some c)) _ h hj).mono ?_
  rintro e w' ⟨rfl, rfl⟩
  dsimp only
  go_step
  go_step
  go_step
  go_step
  go_step
  refine wp_sel (some c) (.agg #[]) (.tuple #[goInt (-1), .bool false, .agg #[]]) ?_ ?_ ?_ ?_
  · rfl
  · exact Yba.zeroValue39 _
  · exact fun fr cs es hs => step_lone_select_default hs hc
  simp only [Act.put]
  go_wp2
  go_ret
  exact ⟨rfl, rfl⟩

theorem err_shut (b j c : Nat) (v : Value) (w : World) (h : w.cell? ⟨b, 8, none⟩ = some (.pointer (some ⟨j, 0, none⟩))) (hj : w.cell? ⟨j, 17, none⟩ = some (.chan (some c))) (hc : w.heap[c]? = some (.chan 0 #[] true 0 0 false))
    (hl : w.cell? ⟨j, 0, none⟩ = some (.int .i32 0)) (hf : w.frozen? ⟨j, 0, none⟩ = false) (he : w.cell? ⟨j, 16, none⟩ = some v) :
    Calls Yba.prog 11 #[.pointer (some ⟨b, 0, none⟩)] w fun e w' => e = .returned v ∧ w' = (w.setCell ⟨j, 0, none⟩ (.int .i32 1)).setCell ⟨j, 0, none⟩ (.int .i32 0) := by
  have h1 : (w.setCell ⟨j, 0, none⟩ (.int .i32 1)).cell? ⟨b, 8, none⟩ = some (.pointer (some ⟨j, 0, none⟩)) := (World.cell?_setCell_other _ ⟨j, 0, none⟩ ⟨b, 8, none⟩ _ (by simp)).trans h
  have h2 : (w.setCell ⟨j, 0, none⟩ (.int .i32 1)).cell? ⟨j, 16, none⟩ = some v := (World.cell?_setCell_other _ ⟨j, 0, none⟩ ⟨j, 16, none⟩ _ (by simp)).trans he
  go_enter_defers Yba.func11, Yba.ntmps11
  go_wp2_with fail
  refine (failed_some b j (.chan (some c)) _ h hj).mono ?_
  rintro e w' ⟨rfl, rfl⟩
  dsimp only
  go_step
  go_step
  go_step
  go_step
  go_step
  refine wp_sel (some c) (.agg #[]) (.tuple #[goInt 0, .bool false, .agg #[]]) ?_ ?_ ?_ ?_
  · rfl
  · exact Yba.zeroValue39 _
  · exact fun fr cs es hs => step_lone_select_recv_shut hs hc
  simp only [Act.put]
  clear hc
  go_wp2_with (go_at_call 15; refine (Go.MuLone.lock_free Yba.muLib ⟨j, 0, none⟩ _ hl hf).mono ?_; rintro e w' ⟨rfl, rfl⟩)
  refine leaves_cons (f := 16) (args := #[.pointer (some ⟨j, 0, none⟩)]) (by simp) (by simp [go_sem]) ?_
  refine (Go.MuLone.unlock_deferred Yba.muLib ⟨j, 0, none⟩ .returning _ ?_ ?_).mono ?_
  · exact World.cell?_setCell_same _ ⟨j, 0, none⟩ (.int .i32 1) hl
  · simp [hf]
  rintro e u' w'' ⟨rfl, rfl, rfl⟩
  exact ⟨_, results_tmp rfl _ _ _, rfl, rfl⟩

theorem heap_first (w : World) (o0 o1 o2 o3 : Obj) : ((((w.alloc o0).alloc o1).alloc o2).alloc o3).heap[w.heap.size]? = some o0 := by
  rw [Below.heap_alloc _ _ _ (by simp; omega), Below.heap_alloc _ _ _ (by simp; omega), Below.heap_alloc _ _ _ (by simp)]
  exact heap_alloc_new w _

set_option maxRecDepth 100000 in
theorem err_walk (a0 : Bool) (a1 : Bool) (a2 : ByteArray) (w : World) :
    Calls Yba.prog 6 #[.bool a0, .bool a1, .string a2] w fun e w' => e = .returned (.bool true) ∧ Grown w w' := by
  obtain ⟨i66, hi66⟩ : ∃ i, Yba.prog.info? 66 = some i := Option.isSome_iff_exists.1 (by kernel_rfl)
  have hcm : i66.comparable = true := by
    have h : (Yba.prog.info? 66).map (·.comparable) = some true := by kernel_rfl
    rw [hi66] at h
    simpa using h
  obtain ⟨i68, hi68⟩ : ∃ i, Yba.prog.info? 68 = some i := Option.isSome_iff_exists.1 (by kernel_rfl)
  have q30 : ∀ (w : World) (a : Addr), (binOp .eql 30 (.iface 66 (.pointer (some a))) (.iface 66 (.pointer (some a)))).run Yba.prog w = .ok (.bool true) w := fun w a => run_eql_iface_ptr_same w a Yba.underlying30 Yba.underlying66 hi66 hcm hi68
  clear hi68 hi66 hcm
  cases a0
  · go_enter Yba.func6, Yba.ntmps6
    go_wp2_with (go_at_call 9; refine (build_no _ _ _).mono ?_; rintro e w' ⟨rfl, rfl⟩)
    refine (err_nil _ _ ?_).mono ?_
    · go_simp
    rintro e w' ⟨rfl, rfl⟩
    go_wp2
    go_ret
    exact ⟨rfl, by repeat (first | exact Grown.refl _ | apply Grown.alloc | apply grown_chan)⟩
  · cases a1
    · go_enter Yba.func6, Yba.ntmps6
      go_wp2_with (go_at_call 9; refine (build_yes _ _ _).mono ?_; rintro e w' ⟨rfl, rfl⟩)
      refine (err_open _ (w.heap.size + 1 + 1) w.heap.size _ ?_ ?_ ?_).mono ?_
      · go_simp
      · go_simp
      · exact heap_first _ _ _ _ _
      rintro e w' ⟨rfl, rfl⟩
      go_wp2
      go_ret
      exact ⟨rfl, by repeat (first | exact Grown.refl _ | apply Grown.alloc | apply grown_chan)⟩
    · go_enter Yba.func6, Yba.ntmps6
      go_wp2_with (go_at_call 9; refine (build_yes _ _ _).mono ?_; rintro e w' ⟨rfl, rfl⟩)
      refine (err_shut _ (w.heap.size + 1 + 1) w.heap.size (.iface 66 (.pointer (some ⟨w.heap.size + 1, 0, none⟩))) _ ?_ ?_ ?_ ?_ ?_ ?_).mono ?_
      · go_simp
      · go_simp
      · exact heap_first _ _ _ _ _
      · go_simp
      · go_simp
      · go_simp
      rintro e w' ⟨rfl, rfl⟩
      go_wp2
      go_ret
      exact ⟨rfl, by repeat (first | exact Grown.refl _ | apply Grown.alloc | apply grown_chan)⟩
end Go.Proofs.Ybulkcqsw
