/-
  THE WALKS of LawS4625BUndoEnrol.
-/
import Derived.Test.YbulkcqtkRows
import Derived.Test.YbulkcqtkRWalks4
import Derived.WalkKit
import Derived.WalkLawsBesides
import Derived.WalkSpells
namespace Go.Proofs.Ybulkcqtk
open Go.RowKit Go.Maps

theorem undo_long (a0 a1 : Option Addr) (n0 cap0 n1 cap1 : Nat) (hm0 : n0 ≤ maxLen) (hm1 : n1 ≤ maxLen) (h : 1024 < n0 ∨ 1024 < n1) (w : World) :
    Calls Yba.prog 4 #[.slice a0 n0 cap0, .slice a1 n1 cap1] w fun e w' => e = .returned (.bool true) ∧ Below w.heap.size w w' := by
  unfold maxLen at hm0 hm1
  by_cases h1 : 1024 < n0
  · have d1 : decide ((1024 : Int) < (n0 : Int)) = true := decide_eq_true (by omega)
    go_enter Yba.func4, Yba.ntmps4
    go_wp2
    go_ret
    exact ⟨rfl, Below.refl _ _⟩
  · have d1 : decide ((1024 : Int) < (n0 : Int)) = false := decide_eq_false (by omega)
    have d2 : decide ((1024 : Int) < (n1 : Int)) = true := decide_eq_true (by omega)
    go_enter Yba.func4, Yba.ntmps4
    go_wp2
    go_ret
    exact ⟨rfl, Below.refl _ _⟩

theorem Ros.clonedV {rb : Nat} {v mv vc : Value} {ss : List ByteArray} {F : Nat → Prop} {w w' : World} (h : Ros rb v mv ss F w) (hb : Below w.heap.size w w') (hc : ∀ k, vc.ownBlock = some k → w.heap.size ≤ k ∧ k < w'.heap.size) : Ros rb v mv ss (fun k => F k ∨ vc.ownBlock = some k) w' := by
  obtain ⟨l1, l2, l3⟩ := h.lt
  refine h.moved (hb.block rb l1) (fun g hg => hb.block g (l2 g hg)) (fun mb hm => hb.block mb (l3 mb hm)) (fun k hk => ?_)
  rcases hk with hk | hk
  · obtain ⟨a, b, c, d⟩ := h.far k hk
    exact ⟨Nat.lt_of_lt_of_le a hb.size, b, c, d⟩
  · obtain ⟨c1, c2⟩ := hc k hk
    exact ⟨c2, by omega, fun e => by have := l2 k e; omega, fun e => by have := l3 k e; omega⟩

/-- A slice of names, its address known where there is an element. -/
theorem shape3 {w : World} {base n : Nat} {v : Value} {xs : List Value} (h : w.ownsRow base 9 1 v n xs) : ∃ a cap, v = .slice a n cap ∧ (0 < n → ∃ g, a = some ⟨g, 0, none⟩) := by
  rcases h.2 with ⟨rfl, rfl⟩ | ⟨g, cap, cur, rfl, _⟩
  · exact ⟨_, _, rfl, fun h => absurd h (by omega)⟩
  · exact ⟨_, _, rfl, fun _ => ⟨g, rfl⟩⟩

set_option maxRecDepth 100000 in
set_option maxHeartbeats 4000000 in
theorem undo_any (a0 a1 : Option Addr) (n0 cap0 n1 cap1 : Nat) (s0 s1 : List ByteArray) (w : World) (h0 : IsNames w a0 n0 s0) (h1 : IsNames w a1 n1 s1) (hn0 : n0 ≤ 1024) (hn1 : n1 ≤ 1024) :
    Calls Yba.prog 4 #[.slice a0 n0 cap0, .slice a1 n1 cap1] w fun e w' => e = .returned (.bool true) ∧ Below w.heap.size w w' := by
  have cB := build_any a0 n0 cap0 s0 w h0 hn0
  clear h0
  have d1 : decide ((1024 : Int) < (n0 : Int)) = false := decide_eq_false (by omega)
  have d2 : decide ((1024 : Int) < (n1 : Int)) = false := decide_eq_false (by omega)
  obtain ⟨F, hF⟩ : ∃ F : Nat → Prop, F = (· < w.heap.size) := ⟨_, rfl⟩
  rw [← hF] at cB
  have HF : Hid (F = (· < w.heap.size)) := hF
  clear hF
  go_enter Yba.func4, Yba.ntmps4
  go_wp2_with fail
  refine cB.mono ?_
  rintro e w1 ⟨bs, rfl, hbs, v, mv, hR, hK⟩
  clear cB
  obtain ⟨rb, hrb⟩ : ∃ rb, rb = w.heap.size := ⟨_, rfl⟩
  rw [← hrb] at hR ⊢
  clear hrb
  obtain ⟨N, hN⟩ : ∃ N, N = bs.length := ⟨_, rfl⟩
  have HN : Hid (N = bs.length) := hN
  have hrow := hR.row
  rw [← hN] at hrow hbs
  clear hN
  obtain ⟨av, capv, rfl⟩ := shape1 hrow
  obtain ⟨c0, _⟩ := RB_cells hR.blk
  have cC := clone_any (by omega) hrow
  clear hrow
  go_wp2_with fail
  refine cC.mono ?_
  rintro e w2 ⟨vb, rfl, hcb, hb2⟩
  clear cC c0
  obtain ⟨ab, cpb, hvb, hab⟩ := shape3 hcb
  rw [hvb] at hcb ⊢
  clear hvb
  have hR2 := hR.clonedV hb2 hcb.lt
  have hK2 : Kept F w w2 := hK.trans (Kept.of_below hb2 (fun k hk => (hR.far k hk).1))
  obtain ⟨F2, hF2⟩ : ∃ F2 : Nat → Prop, F2 = (fun k => F k ∨ (Value.slice ab N cpb).ownBlock = some k) := ⟨_, rfl⟩
  have hFF : ∀ k, F k → F2 k := by rw [hF2]; exact fun k hk => .inl hk
  have hFb : ∀ k, (Value.slice ab N cpb).ownBlock = some k → F2 k := by rw [hF2]; exact fun k hk => .inr hk
  rw [← hF2] at hR2
  clear hR hK hb2 hF2
  obtain ⟨hl1, hlen1, hc1⟩ := h1
  go_wp2
  go_loopw [42] (fun i wr => ∃ (k : Nat) (ts : List ByteArray) (v mv : Value), k ≤ n1 ∧ i = .int .i64 k ∧ ts.length ≤ k ∧ Ros rb v mv (bs ++ ts) F2 wr ∧ Kept F2 w2 wr) (fun i _ => n1 - (intOf i).toNat)
  case atStart => exact ⟨0, [], _, _, Nat.zero_le _, rfl, Nat.le_refl _, by rw [List.append_nil]; exact hR2, Kept.refl _ _⟩
  case round =>
    clear hR2
    obtain ⟨k, ts, v, mv', hk, rfl, hts, hR, hK⟩ := hrel
    by_cases hlt : k < n1
    · obtain ⟨b1, off1, rfl, hcell⟩ := hc1 (by omega)
      have hkl : k < s1.length := by omega
      obtain ⟨x, hx⟩ : ∃ x, x = s1.getD k ByteArray.empty := ⟨_, rfl⟩
      have hxl : x.size ≤ maxLen := hlen1 x (by rw [hx, List.getD_eq_getElem?_getD, List.getElem?_eq_getElem hkl]; exact List.getElem_mem _)
      have hcw := hcell k hlt
      rw [← hx] at hcw
      have hbw := World.block_lt_of_cell? _ _ hcw
      simp only at hbw
      have hFb1 : F b1 := by rw [HF.out]; exact hbw
      have hcx : wr.cell? ⟨b1, off1 + k, none⟩ = some (.string x) := (hK.cell (p := ⟨b1, off1 + k, none⟩) (hFF _ hFb1)).trans ((hK2.cell (p := ⟨b1, off1 + k, none⟩) hFb1).trans hcw)
      have cE := enrol_any hR x hxl (by have := HN.out; simp; omega)
      clear hx hcw hR hc1 hcell hFb1 hbw
      go_wp2_with (go_at_call 11; refine cE.mono ?_; rintro e w' ⟨⟨i, b', rfl⟩, us, hus, v2, mv2, hR', hK'⟩)
      go_roundw
      case rel => exact ⟨k + 1, ts ++ us, v2, mv2, by omega, by go_num, by simp; omega, by rw [← List.append_assoc]; exact hR', hK.trans hK'⟩
      case measure => simp [intOf]; omega
    · have htl : ts.length ≤ 1024 := by omega
      clear hc1 hlen1 hl1
      obtain ⟨M, hM⟩ : ∃ M, M = ts.length := ⟨_, rfl⟩
      have HM : Hid (M = ts.length) := hM
      have hrow := hR.row
      have hlen : (bs ++ ts).length = N + M := by have := HN.out; simp; omega
      rw [hlen] at hrow
      rw [← hM] at htl
      clear hM hlen
      obtain ⟨av, capv, rfl⟩ := shape1 hrow
      obtain ⟨c0, _⟩ := RB_cells hR.blk
      have cC := clone_any (by omega) hrow
      clear hrow
      go_wp2_with fail
      refine cC.mono ?_
      rintro e w4 ⟨va, rfl, hca, hb4⟩
      clear cC c0
      obtain ⟨aa, cpa, hva, haa⟩ := shape3 hca
      rw [hva] at hca ⊢
      clear hva
      have hR4 := hR.clonedV hb4 hca.lt
      have hK4 : Kept F2 w2 w4 := hK.trans (Kept.of_below hb4 (fun k hk => (hR.far k hk).1))
      obtain ⟨F3, hF3⟩ : ∃ F3 : Nat → Prop, F3 = (fun k => F2 k ∨ (Value.slice aa (N + M) cpa).ownBlock = some k) := ⟨_, rfl⟩
      have hFF3 : ∀ k, F2 k → F3 k := by rw [hF3]; exact fun k hk => .inl hk
      have hFa : ∀ k, (Value.slice aa (N + M) cpa).ownBlock = some k → F3 k := by rw [hF3]; exact fun k hk => .inr hk
      rw [← hF3] at hR4
      clear hR hK hb4 hF3
      have hnd := hR4.nodup
      have hlens := hR4.lens
      obtain ⟨c0, _⟩ := RB_cells hR4.blk
      go_wp2
      clear c0
      go_loopw [11] (fun i wr => ∃ (j : Nat) (z : Int) (v mv : Value), j ≤ M ∧ i = .int .i64 z ∧ z = (N : Int) + (j : Int) - 1 ∧ Ros rb v mv (bs ++ ts.take j) F3 wr ∧ Kept F3 w4 wr) (fun i _ => (intOf i + 1 - (N : Int)).toNat)
      case atStart => exact ⟨M, _, _, _, Nat.le_refl _, rfl, by first | rfl | omega, by rw [List.take_of_length_le (by have := HM.out; omega)]; exact hR4, Kept.refl _ _⟩
      case round =>
        clear hR4
        obtain ⟨j, z, v, mv'', hj, rfl, hz, hR, hK⟩ := hrel
        by_cases hj0 : 0 < j
        · obtain ⟨j', rfl⟩ : ∃ j', j = j' + 1 := ⟨j - 1, by omega⟩
          have hjt : j' < ts.length := by have := HM.out; omega
          have hspl : bs ++ ts.take (j' + 1) = (bs ++ ts.take j') ++ [ts[j']] := by rw [List.take_succ_eq_append_getElem hjt, List.append_assoc]
          rw [hspl] at hR
          have hnl : N + j' = (bs ++ ts.take j').length := by have := HN.out; simp; omega
          obtain ⟨g, cg, _, _, cF⟩ := forget_any (N + j') hnl hR
          have hzz : ((N + j' : Nat) : Int) = z := by omega
          rw [hzz] at cF
          have hz1 : (N : Int) ≤ z := by omega
          have hz2 : z ≤ 100000 := by omega
          have HZ : Hid (z = (N : Int) + (j' : Int)) := show z = (N : Int) + (j' : Int) by omega
          clear hz hzz hR hspl hnl hjt
          go_wp2_with (go_at_call 9; refine cF.mono ?_; rintro e w' ⟨rfl, hR', _, hK'⟩)
          go_roundw
          case rel => exact ⟨j', z - 1, _, _, by omega, rfl, by have := HZ.out; omega, hR', hK.trans hK'⟩
          case measure => simp [intOf]; omega
        · have hj00 : j = 0 := by omega
          subst hj00
          rw [List.take_zero, List.append_nil] at hR
          have hz1 : z < (N : Int) := by omega
          clear hz hj0 hj
          obtain ⟨c0, c1, _, _, _⟩ := RB_cells hR.blk
          have hK5 : Kept F2 w2 wr := hK4.trans (hK.mono hFF3)
          have hcb5 : wr.ownsRow w1.heap.size 9 1 (.slice ab N cpb) N (bs.map Value.string) := owns_of_block hcb (fun k hk => hK5.block k (hFb k hk))
          have hca5 : wr.ownsRow _ 9 1 (.slice aa (N + M) cpa) (N + M) ((bs ++ ts).map Value.string) := owns_of_block hca (fun k hk => hK.block k (hFa k hk))
          have hrow5 := hR.row
          rw [← HN.out] at hrow5
          have cQ := equal_any (by omega) hrow5 hcb5
          clear hK hK4 hca hcb
          go_wp2_with (go_at_call 12; refine cQ.mono ?_; rintro e w' ⟨rfl, q, rfl⟩)
          have hRW := hR.drewN q
          have hcbW : (wr.drewN q).ownsRow w1.heap.size 9 1 (.slice ab N cpb) N (bs.map Value.string) := hcb5
          have hcaW : (wr.drewN q).ownsRow _ 9 1 (.slice aa (N + M) cpa) (N + M) ((bs ++ ts).map Value.string) := hca5
          have hKW : Kept F w (wr.drewN q) := (hK2.trans (hK5.mono hFF)).drewN q
          generalize wr.drewN q = W at *
          clear hR hcb5 hca5 hK5 hrow5 cQ c0 c1 hK2
          go_loop [12] (fun i => ∃ k : Nat, k ≤ N ∧ i = .int .i64 k) (fun i => N - (intOf i).toNat)
          case atStart => exact ⟨0, Nat.zero_le _, rfl⟩
          case round =>
            obtain ⟨k, hk, rfl⟩ := hrel
            by_cases hlt : k < N
            · obtain ⟨gb, rfl⟩ := hab (by omega)
              have hkl : k < bs.length := by have := HN.out; omega
              obtain ⟨y, hy⟩ : ∃ y, bs[k]? = some y := ⟨_, List.getElem?_eq_getElem hkl⟩
              have k2 := cell_at hcbW k y hy
              have cL := flip (lookup_hit hRW y k hy)
              clear hy hkl hab haa hRW hcbW hcaW hnd hlens
              go_wp2_with (go_at_call 10; refine cL.mono ?_; rintro e w' ⟨rfl, rfl⟩)
              go_round
              case rel => exact ⟨k + 1, by omega, by go_num⟩
              case measure => simp [intOf]; omega
            · clear hab hcbW
              go_wp2
              go_loop [15] (fun i => ∃ k : Nat, N ≤ k ∧ k ≤ N + M ∧ i = .int .i64 k) (fun i => N + M - (intOf i).toNat)
              case atStart => exact ⟨N, Nat.le_refl _, by omega, rfl⟩
              case round =>
                obtain ⟨t, ht1, ht2, rfl⟩ := hrel
                by_cases hlt4 : t < N + M
                · obtain ⟨ga, rfl⟩ := haa (by omega)
                  have hkl : t < (bs ++ ts).length := by have := HN.out; have := HM.out; simp; omega
                  obtain ⟨y, hy⟩ : ∃ y, (bs ++ ts)[t]? = some y := ⟨_, List.getElem?_eq_getElem hkl⟩
                  have k2 := cell_at hcaW t y hy
                  have hyt : y ∈ ts := by
                    rw [List.getElem?_append_right (by have := HN.out; omega)] at hy
                    exact List.mem_of_getElem? hy
                  have hyb : y ∉ bs := fun h => (List.nodup_append.1 hnd).2.2 y h y hyt rfl
                  have cL := flip (lookup_miss hRW y (hlens y (by simp [hyt])) hyb)
                  have hI : (t : Int) < (N : Int) + (M : Int) := by omega
                  clear hy hkl haa hRW hcaW hnd hlens hyt hyb
                  go_wp2_with (go_at_call 10; refine cL.mono ?_; rintro e w' ⟨rfl, rfl⟩)
                  go_round
                  case rel => exact ⟨t + 1, by omega, by omega, by go_num⟩
                  case measure => simp [intOf]; omega
                · obtain ⟨c0, c1, _, _, _⟩ := RB_cells hRW.blk
                  have hqm := neq25
                  have hI : ¬ (t : Int) < (N : Int) + (M : Int) := by omega
                  rcases Nat.eq_zero_or_pos M with hM0 | hM0
                  · have e5 : decide ((N : Int) < (N : Int) + (M : Int)) = false := decide_eq_false (by omega)
                    have hM1 : M < 1 := by omega
                    have KK := hKW
                    clear hM0 haa hcaW hnd hlens hKW
                    rcases hRW.idx with rfl | ⟨mb, D, rfl, ho, hi⟩
                    · clear hRW
                      go_wp2
                      go_ret
                      exact ⟨rfl, Kept.below (by have := HF.out; rw [← this]; exact KK)⟩
                    · have hlen : ∀ ty, (Builtin.len_ #[25] ty #[.map (some mb)]).run Yba.prog W = .ok (.int .i64 N) W := fun ty => by
                        have := World.ownsMap.len (w := W) ho Yba.underlying25 ty
                        rw [hi.size, ← HN.out] at this
                        exact this
                      clear hRW ho hi
                      go_wp2
                      go_ret
                      exact ⟨rfl, Kept.below (by have := HF.out; rw [← this]; exact KK)⟩
                  · obtain ⟨ga, rfl⟩ := haa (by omega)
                    have hkl : N < (bs ++ ts).length := by have := HN.out; have := HM.out; simp; omega
                    obtain ⟨y, hy⟩ : ∃ y, (bs ++ ts)[N]? = some y := ⟨_, List.getElem?_eq_getElem hkl⟩
                    have k2 := cell_at hcaW N y hy
                    have hyt : y ∈ ts := by
                      rw [List.getElem?_append_right (by have := HN.out; omega)] at hy
                      exact List.mem_of_getElem? hy
                    have hyb : y ∉ bs := fun h => (List.nodup_append.1 hnd).2.2 y h y hyt rfl
                    have cE := enrol_new hRW y hyb (hlens y (by simp [hyt])) (by have := HN.out; omega)
                    have hNN := HN.out
                    rw [← hNN] at cE
                    have e5 : decide ((N : Int) < (N : Int) + (M : Int)) = true := decide_eq_true (by omega)
                    have hI2 : (N : Int) < (N : Int) + (M : Int) := by omega
                    clear hNN hy hkl haa hcaW hnd hlens hyt hyb
                    rcases hRW.idx with rfl | ⟨mb, D, rfl, ho, hi⟩
                    · clear hRW
                      go_wp2_with (go_at_call 11; refine cE.mono ?_; rintro e w' ⟨rfl, v', mv', hR', hK'⟩)
                      go_ret
                      exact ⟨rfl, Kept.below (by have := HF.out; rw [← this]; exact hKW.trans (hK'.mono (fun k hk => hFF3 k (hFF k hk))))⟩
                    · have hlen : ∀ ty, (Builtin.len_ #[25] ty #[.map (some mb)]).run Yba.prog W = .ok (.int .i64 N) W := fun ty => by
                        have := World.ownsMap.len (w := W) ho Yba.underlying25 ty
                        rw [hi.size, ← HN.out] at this
                        exact this
                      clear hRW ho hi
                      go_wp2_with (go_at_call 11; refine cE.mono ?_; rintro e w' ⟨rfl, v', mv', hR', hK'⟩)
                      go_ret
                      exact ⟨rfl, Kept.below (by have := HF.out; rw [← this]; exact hKW.trans (hK'.mono (fun k hk => hFF3 k (hFF k hk))))⟩
end Go.Proofs.Ybulkcqtk
