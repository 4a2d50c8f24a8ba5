/-
  THE WALKS of LawS4625BForgetLast.
-/
import Derived.Test.YbulkcqtkRows
import Derived.Test.YbulkcqtkRWalks4
import Derived.WalkKit
import Derived.WalkLawsBesides
import Derived.WalkSpells
import Derived.Deep.QuietTactic
import Derived.BigQuiet
namespace Go.Proofs.Ybulkcqtk
open Go.RowKit Go.Maps

theorem snoc_or (rs : List ByteArray) : rs = [] ∨ ∃ ss x, rs = ss ++ [x] := by
  rcases List.eq_nil_or_concat rs with h | ⟨L, b, h⟩
  · exact .inl h
  · exact .inr ⟨L, b, by simpa using h⟩

theorem forgetLast_long (a : Option Addr) (n cap : Nat) (hm : n ≤ maxLen) (h : 1024 < n) (w : World) :
    Calls Yba.prog 3 #[.slice a n cap] w fun e w' => e = .returned (.bool true) ∧ Below w.heap.size w w' := by
  unfold maxLen at hm
  have h' : (1024 : Int) < (n : Int) := by omega
  go_enter Yba.func3, Yba.ntmps3
  go_wp2
  go_ret
  exact ⟨rfl, Below.refl _ _⟩

set_option maxRecDepth 100000 in
set_option maxHeartbeats 2000000 in
theorem forgetLast_any (a : Option Addr) (n cap : Nat) (ss0 : List ByteArray) (w : World) (h : IsNames w a n ss0) (hn : n ≤ 1024) :
    Calls Yba.prog 3 #[.slice a n cap] w fun e w' => e = .returned (.bool true) ∧ Below w.heap.size w w' := by
  have cB := build_any a n cap ss0 w h hn
  clear h
  have d1 : decide ((1024 : Int) < (n : Int)) = false := decide_eq_false (by omega)
  go_enter Yba.func3, Yba.ntmps3
  go_wp2_with fail
  refine cB.mono ?_
  rintro e w1 ⟨rs, rfl, hrs, v, mv, hR, hK⟩
  clear cB
  rcases snoc_or rs with rfl | ⟨ss, x, rfl⟩
  · have hrow := hR.row
    obtain ⟨a', cap', rfl⟩ := shape1 hrow
    obtain ⟨c0, _⟩ := RB_cells hR.blk
    simp only [List.length_nil] at c0
    have hb := hK.below
    clear hrow hR hK
    go_wp2
    go_ret
    exact ⟨rfl, hb⟩
  · obtain ⟨m, hm⟩ : ∃ m, m = ss.length := ⟨_, rfl⟩
    have hrow := hR.row
    have hlen : (ss ++ [x]).length = m + 1 := by simp [hm]
    rw [hlen] at hrow
    obtain ⟨g, cg, rfl, hcg⟩ := shape2 hrow
    obtain ⟨c0, _⟩ := RB_cells hR.blk
    have cC := clone_any (by have := hR.small; omega) hrow
    have HM : Hid (m = ss.length) := hm
    have hms : m + 1 ≤ 1024 := by omega
    have e0 : ((m : Int) + 1 == 0) = false := by simp; omega
    clear hm hlen hrow
    go_wp2_with fail
    refine cC.mono ?_
    rintro e w2 ⟨vc, rfl, hcl, hb2⟩
    clear cC
    obtain ⟨c, cc, hvc, hcc⟩ := shape2 hcl
    rw [hvc] at hcl ⊢
    clear hvc
    have hclt := hcl.lt c rfl
    have hR2 := hR.cloned hb2 hclt.1 hclt.2
    obtain ⟨g1, cg1, hg1, _, cF⟩ := forget_any m HM.out hR2
    cases hg1
    obtain ⟨c2, _⟩ := RB_cells hR2.blk
    clear c0
    go_wp2_with fail
    refine cF.mono ?_
    rintro e w3 ⟨rfl, hR3, hE3, hK3⟩
    clear cF c2
    have hcl3 : w3.ownsRow w1.heap.size 9 1 (.slice (some ⟨c, 0, none⟩) (m + 1) cc) (m + 1) ((ss ++ [x]).map Value.string) := owns_of_block hcl (fun k hk => by
      simp only [Value.ownBlock, Option.some.injEq] at hk
      subst hk
      exact hK3.block _ (.inr rfl))
    have hbel : Below w.heap.size w w3 := (hK.below.trans (hb2.mono hK.size)).trans (Kept.below (hK3.mono (fun k hk => .inl hk)))
    obtain ⟨c0, c1, c2, _, _⟩ := RB_cells hR3.blk
    have hx : x ∉ ss := by
      have := (List.nodup_append.1 hR.nodup).2.2
      intro hx
      exact this x hx x (by simp) rfl
    have hxl := hR.lens x (by simp)
    have hrow3 := hR3.row
    rw [← HM.out] at hrow3
    clear hR hR2 hK hK3 hb2 hcl
    go_wp2
    go_loopw [7] (fun i wr => ∃ k q : Nat, k ≤ m ∧ i = .int .i64 k ∧ wr = w3.drewN q) (fun i _ => m - (intOf i).toNat)
    case atStart => exact ⟨0, 0, Nat.zero_le _, rfl, rfl⟩
    case round =>
      obtain ⟨k, q, hk, rfl, rfl⟩ := hrel
      by_cases hlt : k < m
      · have hkl : k < ss.length := by have := HM.out; omega
        obtain ⟨y, hy⟩ : ∃ y, ss[k]? = some y := ⟨_, List.getElem?_eq_getElem hkl⟩
        have k1 := cell_at hrow3 k y hy
        have k2 := cell_at hcl3 k y (by rw [List.getElem?_append_left hkl]; exact hy)
        have hq := str_eq y
        have cL := fun q => flip (lookup_hit (hR3.drewN q) y k hy)
        have hb : (k : Int) < (m : Int) := by omega
        have hb2 : (k : Int) < (m : Int) + 1 := by omega
        clear hy hkl hR3 hrow3 hcl3
        go_wp2
        go_quiet (fail)
        go_wp2_with (go_at_call 10; refine (cL _).mono ?_; rintro e w' ⟨rfl, rfl⟩)
        go_roundw
        case rel => exact ⟨k + 1, _, by omega, by go_num, rfl⟩
        case measure => simp [intOf]; omega
      · have hkm : k = m := by omega
        subst hkm
        have k2 := cell_at hcl3 k x (by rw [List.getElem?_append_right (by have := HM.out; omega)]; have := HM.out; simp [this])
        have cL := flip (lookup_miss (hR3.drewN q) x hxl hx)
        have hqm := neq25
        rcases hR3.idx with rfl | ⟨mb, D, rfl, ho, hi⟩
        · clear hR3 hrow3 hcl3 hx hxl
          go_wp2_with (go_at_call 10; refine cL.mono ?_; rintro e w' ⟨rfl, rfl⟩)
          go_ret
          exact ⟨rfl, ⟨hbel.os, hbel.tape, hbel.output, hbel.size, hbel.block⟩⟩
        · have hlen : ∀ ty, (Builtin.len_ #[25] ty #[.map (some mb)]).run Yba.prog (w3.drewN q) = .ok (.int .i64 k) (w3.drewN q) := fun ty => by
            have := World.ownsMap.len (w := w3.drewN q) ho Yba.underlying25 ty
            rw [hi.size, ← HM.out] at this
            exact this
          clear hR3 hrow3 hcl3 hx hxl ho hi
          go_wp2_with (go_at_call 10; refine cL.mono ?_; rintro e w' ⟨rfl, rfl⟩)
          go_ret
          exact ⟨rfl, ⟨hbel.os, hbel.tape, hbel.output, hbel.size, hbel.block⟩⟩
end Go.Proofs.Ybulkcqtk
