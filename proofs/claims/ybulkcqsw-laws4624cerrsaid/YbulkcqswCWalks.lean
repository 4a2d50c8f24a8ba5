import Derived.Test.YbulkcqswRows
import Derived.WalkKit
import Derived.WalkLawsBesides
import Derived.Conc.SmallLaws
import Derived.Conc.EventLaws
import Derived.LaidEqlPtr
import Derived.LaidEql
namespace Go.Proofs.Ybulkcqsw
open Go.RowKit

theorem new_any (a : ByteArray) (w : World) :
    Calls Yba.prog 14 #[.string a] w fun e w' => e = .returned (.iface 66 (.pointer (some ⟨w.heap.size, 0, none⟩))) ∧ w' = w.alloc (.cells #[.string a] 68) := by
  go_enter Yba.func14, Yba.ntmps14
  go_wp2
  go_ret
  exact ⟨rfl, rfl⟩

theorem failed_nil (b : Nat) (w : World) (h : w.cell? ⟨b, 8, none⟩ = some (.pointer none)) :
    Calls Yba.prog 10 #[.pointer (some ⟨b, 0, none⟩)] w fun e w' => e = .returned (.chan none) ∧ w' = w := by
  go_enter Yba.func10, Yba.ntmps10
  go_wp2
  go_ret
  exact ⟨rfl, rfl⟩

theorem failed_some (b j : Nat) (c : Value) (w : World) (h : w.cell? ⟨b, 8, none⟩ = some (.pointer (some ⟨j, 0, none⟩))) (hj : w.cell? ⟨j, 17, none⟩ = some c) :
    Calls Yba.prog 10 #[.pointer (some ⟨b, 0, none⟩)] w fun e w' => e = .returned c ∧ w' = w := by
  go_enter Yba.func10, Yba.ntmps10
  go_wp2
  go_ret
  exact ⟨rfl, rfl⟩

theorem bytes39 : ∃ i, Yba.prog.info? 39 = some i ∧ i.bytes = 0 := by
  have h : (Yba.prog.info? 39).map (·.bytes) = some 0 := by kernel_rfl
  obtain ⟨i, hi, hb⟩ := Option.map_eq_some_iff.1 h
  exact ⟨i, hi, hb⟩
theorem mk0 (w : World) : (Instr.makeChan 28 (.int .i64 0)).run Yba.prog w = .ok (.chan (some w.heap.size)) (w.alloc (.chan 0 #[] false 0 0 false)) := by
  obtain ⟨i, hi, hb⟩ := bytes39
  simpa using Conc.run_makeChan (P := Yba.prog) (w := w) Yba.underlying28 hi .i64 0 (by omega) (by rw [hb]; omega)

theorem close0 (ats : Array TypeId) (ty : TypeId) (w : World) : (Builtin.close_ ats ty #[.chan (some w.heap.size)]).run Yba.prog (w.alloc (.chan 0 #[] false 0 0 false)) = .ok (.tuple #[]) (w.alloc (.chan 0 #[] true 0 0 false)) := by
  rw [run_close_open ats ty (heap_alloc_new w _)]
  have hp : ∀ (h : Array Obj) (x y : Obj), (h.push x).setIfInBounds h.size y = h.push y := by
    intro h x y
    apply Array.toList_inj.1
    simp
  show Result.ok _ { w with heap := (w.heap.push _).setIfInBounds w.heap.size _ } = _
  rw [hp]
  rfl
theorem build_no (cl : Bool) (a : ByteArray) (w : World) :
    Calls Yba.prog 9 #[.bool false, .bool cl, .string a] w fun e w' => e = .returned (.tuple #[.pointer (some ⟨w.heap.size + 1 + 1 + 1, 0, none⟩), .pointer (some ⟨w.heap.size + 1 + 1, 0, none⟩), .chan (some w.heap.size), .iface 66 (.pointer (some ⟨w.heap.size + 1, 0, none⟩))]) ∧
      w' = (((w.alloc (.chan 0 #[] cl 0 0 false)).alloc (.cells #[.string a] 68)).alloc (.cells #[.int .i32 0, .int .u32 0, .nilIface, .int .u32 0, .int .u32 0, .int .u64 0, .pointer none, .pointer none, .int .u64 0, .pointer none, .int .i64 0, .slice none 0 0, .slice none 0 0, .int .u64 0, .int .u64 0, .bool false, .iface 66 (.pointer (some ⟨w.heap.size + 1, 0, none⟩)), .chan (some w.heap.size), .chan none, .int .i64 0] 59)).alloc (.cells #[.string a, .pointer none, .pointer none, .slice none 0 0, .slice none 0 0, .int .i64 0, .int .i64 0, .pointer none, .pointer none, .int .i32 0, .int .u32 0, .int .u64 0, .chan none, .chan none, .chan none] 48) := by
  have hmc := mk0
  have hcl := close0
  cases cl
  all_goals
    go_enter Yba.func9, Yba.ntmps9
    go_wp2_with (go_at_call 14; refine (new_any _ _).mono ?_; rintro e w' ⟨rfl, rfl⟩)
    exact bodyPost_ret (v := .tuple #[.pointer (some ⟨w.heap.size + 1 + 1 + 1, 0, none⟩), .pointer (some ⟨w.heap.size + 1 + 1, 0, none⟩), .chan (some w.heap.size), .iface 66 (.pointer (some ⟨w.heap.size + 1, 0, none⟩))]) (by simp [results, Yba.results9, go_sem]) rfl ⟨rfl, rfl⟩
theorem build_yes (cl : Bool) (a : ByteArray) (w : World) :
    Calls Yba.prog 9 #[.bool true, .bool cl, .string a] w fun e w' => e = .returned (.tuple #[.pointer (some ⟨w.heap.size + 1 + 1 + 1, 0, none⟩), .pointer (some ⟨w.heap.size + 1 + 1, 0, none⟩), .chan (some w.heap.size), .iface 66 (.pointer (some ⟨w.heap.size + 1, 0, none⟩))]) ∧
      w' = (((w.alloc (.chan 0 #[] cl 0 0 false)).alloc (.cells #[.string a] 68)).alloc (.cells #[.int .i32 0, .int .u32 0, .nilIface, .int .u32 0, .int .u32 0, .int .u64 0, .pointer none, .pointer none, .int .u64 0, .pointer none, .int .i64 0, .slice none 0 0, .slice none 0 0, .int .u64 0, .int .u64 0, .bool false, .iface 66 (.pointer (some ⟨w.heap.size + 1, 0, none⟩)), .chan (some w.heap.size), .chan none, .int .i64 0] 59)).alloc (.cells #[.string a, .pointer none, .pointer none, .slice none 0 0, .slice none 0 0, .int .i64 0, .int .i64 0, .pointer none, .pointer (some ⟨w.heap.size + 1 + 1, 0, none⟩), .int .i32 0, .int .u32 0, .int .u64 0, .chan none, .chan none, .chan none] 48) := by
  have hmc := mk0
  have hcl := close0
  cases cl
  all_goals
    go_enter Yba.func9, Yba.ntmps9
    go_wp2_with (go_at_call 14; refine (new_any _ _).mono ?_; rintro e w' ⟨rfl, rfl⟩)
    exact bodyPost_ret (v := .tuple #[.pointer (some ⟨w.heap.size + 1 + 1 + 1, 0, none⟩), .pointer (some ⟨w.heap.size + 1 + 1, 0, none⟩), .chan (some w.heap.size), .iface 66 (.pointer (some ⟨w.heap.size + 1, 0, none⟩))]) (by simp [results, Yba.results9, go_sem]) rfl ⟨rfl, rfl⟩

theorem run_equalIn_chan {P : Program} (w : World) (d : Nat) (t e : TypeId) (dir : ChanDir) (a b : Option Nat) (h : P.underlying t = some (.chan dir e)) :
    (Op.equalIn (d + 1) t (.chan a) (.chan b)).run P w = .ok (a == b) w := by
  simp [Op.equalIn, run_underlying h]
theorem run_eql_chan {P : Program} (w : World) (t e : TypeId) (dir : ChanDir) (a b : Option Nat) (h : P.underlying t = some (.chan dir e)) :
    (binOp .eql t (.chan a) (.chan b)).run P w = .ok (.bool (a == b)) w := by
  simp only [binOp]
  simp [Op.equal, Op.maxDepth, run_equalIn_chan w 9999 t e dir a b h]

theorem grown_chan {W w' : World} (h : Grown W w') (c : Nat) (b : Array Value) (cl : Bool) (s r : Nat) (tm : Bool) : Grown W (w'.alloc (.chan c b cl s r tm)) := by
  refine ⟨World.keptBut_trans h.1 (World.keptBut_alloc _ _ _), fun a => Eq.trans ?_ (h.2.1 a), Nat.le_trans h.2.2 (by show w'.heap.size ≤ (w'.heap.push _).size; simp)⟩
  by_cases e : a.block = w'.heap.size
  · have e1 : (w'.alloc (.chan c b cl s r tm)).heap[a.block]? = some (.chan c b cl s r tm) := by rw [e]; exact (MapKept.heap_alloc w' _).1
    have e2 : w'.heap[a.block]? = none := by rw [e]; simp
    simp [World.frozen?, e1, e2]
  · exact World.frozen?_alloc_old _ _ _ e

end Go.Proofs.Ybulkcqsw
