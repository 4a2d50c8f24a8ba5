/-
  PLAIN, for the laws on roster: what its index reads as; the roster in memory ('Ros'); what stays ('Kept').
-/
import Derived.Test.YbulkcqtkProg
import Derived.Maps.OwnSet
import Derived.Laws.OwnMore
import Derived.WalkSmall
import Derived.Below
namespace Go.Proofs.Ybulkcqtk
open Go.RowKit Go.Maps

/-- A name as a key. -/
def K (s : ByteArray) : Lit := .string s.data.toList
theorem K_inj {s t : ByteArray} (h : K s = K t) : s = t := by
  unfold K at h
  simp only [Lit.string.injEq] at h
  exact ByteArray.ext (Array.toList_inj.1 h)
theorem K_key (s : ByteArray) (h : s.size ≤ maxLen) : keyOf Yba.prog 9 (.string s) = some (K s) := WideMaps.keyOf_string_mk Yba.underlying9 h
theorem law9 : Keyed Yba.prog 9 := string_keyed Yba.underlying9

abbrev MD := DataW Unit
def num (n : Int) : MD := .lit (.int .i32 n)

/-- THE INDEX: each name of ss at its place; no other. -/
structure Ix (D : MD) (ss : List ByteArray) : Prop where
  hit : ∀ (s : ByteArray) (n : Nat), ss[n]? = some s → Maps.has D (K s) = true ∧ D.atKey (K s) (num 0) = num n
  miss : ∀ s : ByteArray, s ∉ ss → Maps.has D (K s) = false
  size : Maps.size D = ss.length

theorem Ix.empty : Ix (.map []) [] := ⟨fun s n h => by simp at h, fun s _ => rfl, rfl⟩

theorem key_isKey (s : ByteArray) : WideAt.IsKeyLit (K s) := by unfold K; trivial

theorem Ix.put {D : MD} {ss : List ByteArray} (h : Ix D ss) (hT : Tidy D) {x : ByteArray} (hx : x ∉ ss) : Ix (D.put (K x) (num ss.length)) (ss ++ [x]) := by
  refine ⟨fun s n hn => ?_, fun s hs => ?_, ?_⟩
  · by_cases e : s = x
    · subst e
      have hnl : n = ss.length := by
        rcases Nat.lt_trichotomy n ss.length with hlt | heq | hgt
        · rw [List.getElem?_append_left hlt] at hn
          exact absurd (List.mem_of_getElem? hn) hx
        · exact heq
        · rw [List.getElem?_eq_none (by simp; omega)] at hn; cases hn
      subst hnl
      exact ⟨has_put_same hT.isMap (key_isKey s) _, atKey_put_same hT.isMap (key_isKey s) _ _⟩
    · have hne : K s ≠ K x := fun h' => e (K_inj h')
      have hlt : n < ss.length := by
        rcases Nat.lt_or_ge n ss.length with h1 | h1
        · exact h1
        · rw [List.getElem?_append_right h1] at hn
          have := List.mem_of_getElem? hn
          simp at this
          exact absurd this e
      rw [List.getElem?_append_left hlt] at hn
      rw [has_put_other hne, atKey_put_other hne]
      exact h.hit s n hn
  · have h1 : s ∉ ss := fun h' => hs (by simp [h'])
    have h2 : s ≠ x := fun h' => hs (by simp [h'])
    rw [has_put_other (fun h' => h2 (K_inj h'))]
    exact h.miss s h1
  · have := size_put hT (k := K x) (d := num ss.length)
    rw [h.miss x hx] at this
    rw [this, h.size]
    simp

theorem Ix.del {D : MD} {ss : List ByteArray} {x : ByteArray} (h : Ix D (ss ++ [x])) (hT : Tidy D) (hx : x ∉ ss) : Ix (D.del (K x)) ss := by
  refine ⟨fun s n hn => ?_, fun s hs => ?_, ?_⟩
  · have hlt : n < ss.length := (List.getElem?_eq_some_iff.1 hn).1
    have hsx : s ≠ x := fun e => hx (e ▸ List.mem_of_getElem? hn)
    have hne : K s ≠ K x := fun h' => hsx (K_inj h')
    rw [has_del_other hne, atKey_del_other hne]
    exact h.hit s n (by rw [List.getElem?_append_left hlt]; exact hn)
  · by_cases e : s = x
    · subst e; exact has_del_same
    · rw [has_del_other (fun h' => e (K_inj h'))]
      exact h.miss s (by simp [hs, e])
  · have := size_del hT (k := K x)
    rw [(h.hit x ss.length (by simp)).1] at this
    have hs := h.size
    simp only [List.length_append, List.length_singleton] at hs
    simp at this
    omega

/-- The bound of 'ownsMap' brought down to the entries that there are. -/
theorem owns_tight {w : World} {b n : Nat} {D : MD} (h : w.ownsMap Yba.prog 9 (plainElem Yba.prog 21) b n D) : w.ownsMap Yba.prog 9 (plainElem Yba.prog 21) b (Maps.size D) D := by
  obtain ⟨es, clock, hb, F, hs, hD⟩ := h
  refine ⟨es, clock, hb, F, ?_, hD⟩
  rw [hD]
  simp [Maps.size, length_sorted]

/-! ### the roster in memory -/
/-- Of the blocks in F none has turned. -/
structure Kept (F : Nat → Prop) (w w' : World) : Prop where
  os : w'.os = w.os
  tape : w'.tape = w.tape
  output : w'.output = w.output
  size : w.heap.size ≤ w'.heap.size
  block : ∀ k, F k → w'.heap[k]? = w.heap[k]?

theorem Kept.refl (F : Nat → Prop) (w : World) : Kept F w w := ⟨rfl, rfl, rfl, Nat.le_refl _, fun _ _ => rfl⟩
theorem Kept.trans {F : Nat → Prop} {a b c : World} (h : Kept F a b) (h' : Kept F b c) : Kept F a c :=
  ⟨h'.os.trans h.os, h'.tape.trans h.tape, h'.output.trans h.output, Nat.le_trans h.size h'.size, fun k hk => (h'.block k hk).trans (h.block k hk)⟩
theorem Kept.mono {F G : Nat → Prop} {a b : World} (h : Kept F a b) (hG : ∀ k, G k → F k) : Kept G a b := ⟨h.os, h.tape, h.output, h.size, fun k hk => h.block k (hG k hk)⟩
theorem Kept.below {B : Nat} {a b : World} (h : Kept (· < B) a b) : Below B a b := ⟨h.os, h.tape, h.output, h.size, fun k hk => h.block k hk⟩
theorem Kept.drewN {F : Nat → Prop} {a b : World} (h : Kept F a b) (q : Nat) : Kept F a (b.drewN q) := ⟨h.os, h.tape, h.output, h.size, h.block⟩
theorem Kept.of_below {B : Nat} {F : Nat → Prop} {a b : World} (h : Below B a b) (hF : ∀ k, F k → k < B) : Kept F a b := ⟨h.os, h.tape, h.output, h.size, fun k hk => h.block k (hF k hk)⟩
theorem Kept.of_grown {F : Nat → Prop} {a b : World} {row : Option Nat} (h : a.grownBy b row) (hF : ∀ k, F k → k < a.heap.size ∧ some k ≠ row) : Kept F a b :=
  ⟨h.os, h.tape, h.output, h.size, fun k hk => h.block k (hF k hk).1 (hF k hk).2⟩
theorem Kept.of_setCell {F : Nat → Prop} (a : World) (p : Addr) (u : Value) (hF : ∀ k, F k → k ≠ p.block) : Kept F a (a.setCell p u) :=
  ⟨rfl, rfl, rfl, by simp [World.setCell], fun k hk => Below.heap_setCell _ _ _ _ (hF k hk)⟩
theorem Kept.cell {F : Nat → Prop} {w w' : World} (h : Kept F w w') {p : Addr} (hp : F p.block) : w'.cell? p = w.cell? p := World.cell?_of_block (w := w) (h.block p.block hp)

/-- The roster's own block. -/
def RB (v mv : Value) : Obj := .cells #[v, mv, .slice none 0 0] 28 (0, 0)

structure Ros (rb : Nat) (v mv : Value) (ss : List ByteArray) (F : Nat → Prop) (w : World) : Prop where
  blk : w.heap[rb]? = some (RB v mv)
  row : w.ownsRow 0 9 1 v ss.length (ss.map Value.string)
  idx : mv = .map none ∨ ∃ mb D, mv = .map (some mb) ∧ w.ownsMap Yba.prog 9 (plainElem Yba.prog 21) mb ss.length D ∧ Ix D ss
  nodup : ss.Nodup
  small : ss.length ≤ 100000
  lens : ∀ s ∈ ss, s.size ≤ maxLen
  far : ∀ k, F k → k < w.heap.size ∧ k ≠ rb ∧ v.ownBlock ≠ some k ∧ mv ≠ .map (some k)

theorem RB_cells {w : World} {rb : Nat} {v mv : Value} (h : w.heap[rb]? = some (RB v mv)) :
    w.cell? ⟨rb, 0, none⟩ = some v ∧ w.cell? ⟨rb, 1, none⟩ = some mv ∧ w.cell? ⟨rb, 2, none⟩ = some (.slice none 0 0) ∧ w.frozen? ⟨rb, 0, none⟩ = false ∧ w.frozen? ⟨rb, 1, none⟩ = false := by
  simp [World.cell?, World.frozen?, h, RB]

theorem RB_set0 {w : World} {rb : Nat} {v mv : Value} (h : w.heap[rb]? = some (RB v mv)) (u : Value) : (w.setCell ⟨rb, 0, none⟩ u).heap[rb]? = some (RB u mv) := by
  simp [World.setCell, Array.getElem?_modify, h, RB]
theorem RB_set1 {w : World} {rb : Nat} {v mv : Value} (h : w.heap[rb]? = some (RB v mv)) (u : Value) : (w.setCell ⟨rb, 1, none⟩ u).heap[rb]? = some (RB v u) := by
  simp [World.setCell, Array.getElem?_modify, h, RB]

/-- The row's block is not the roster's. -/
theorem row_ne {w : World} {rb : Nat} {v mv v' : Value} {n base : Nat} {xs : List Value} (h : w.heap[rb]? = some (RB v mv)) (ho : w.ownsRow base 9 1 v' n xs) : v'.ownBlock ≠ some rb := by
  intro e
  rcases ho.2 with ⟨rfl, _⟩ | ⟨g, cap, cur, rfl, _, hg, _⟩
  · simp [Value.ownBlock] at e
  · simp only [Value.ownBlock, Option.some.injEq] at e
    subst e
    rw [h] at hg
    simp [RB] at hg
theorem map_ne {w : World} {rb mb n : Nat} {v mv : Value} {D : MD} (h : w.heap[rb]? = some (RB v mv)) (ho : w.ownsMap Yba.prog 9 (plainElem Yba.prog 21) mb n D) : mb ≠ rb := by
  intro e
  obtain ⟨es, clock, hb, _⟩ := ho
  subst e
  rw [h] at hb
  simp [RB] at hb
theorem row_map_ne {w : World} {mb n m base : Nat} {v : Value} {D : MD} {xs : List Value} (ho : w.ownsRow base 9 1 v n xs) (hm : w.ownsMap Yba.prog 9 (plainElem Yba.prog 21) mb m D) : v.ownBlock ≠ some mb := by
  intro e
  obtain ⟨es, clock, hb, _⟩ := hm
  rcases ho.2 with ⟨rfl, _⟩ | ⟨g, cap, cur, rfl, _, hg, _⟩
  · simp [Value.ownBlock] at e
  · simp only [Value.ownBlock, Option.some.injEq] at e
    subst e
    rw [hg] at hb
    simp at hb

/-- A row that is owned stays while other blocks are written. -/
theorem owns_of_block {w w' : World} {base e size n : Nat} {v : Value} {xs : List Value} (h : w.ownsRow base e size v n xs) (hk : ∀ g, v.ownBlock = some g → w'.heap[g]? = w.heap[g]?) : w'.ownsRow base e size v n xs := by
  refine ⟨h.1, ?_⟩
  rcases h.2 with hn | ⟨g, cap, cur, rfl, hb, hg, rest⟩
  · exact .inl hn
  · exact .inr ⟨g, cap, cur, rfl, hb, (hk g rfl).trans hg, rest⟩
theorem map_of_block {w w' : World} {mb n : Nat} {D : MD} (h : w.ownsMap Yba.prog 9 (plainElem Yba.prog 21) mb n D) (hk : w'.heap[mb]? = w.heap[mb]?) : w'.ownsMap Yba.prog 9 (plainElem Yba.prog 21) mb n D := by
  obtain ⟨es, clock, hb, r⟩ := h
  exact ⟨es, clock, hk.trans hb, r⟩

/-- The roster stays while none of its blocks is written. -/
theorem Ros.moved {rb : Nat} {v mv : Value} {ss : List ByteArray} {F G : Nat → Prop} {w w' : World} (h : Ros rb v mv ss F w) (hr : w'.heap[rb]? = w.heap[rb]?) (hv : ∀ g, v.ownBlock = some g → w'.heap[g]? = w.heap[g]?)
    (hm : ∀ mb, mv = .map (some mb) → w'.heap[mb]? = w.heap[mb]?) (hG : ∀ k, G k → k < w'.heap.size ∧ k ≠ rb ∧ v.ownBlock ≠ some k ∧ mv ≠ .map (some k)) : Ros rb v mv ss G w' := by
  refine ⟨hr.trans h.blk, owns_of_block h.row hv, ?_, h.nodup, h.small, h.lens, hG⟩
  rcases h.idx with hn | ⟨mb, D, rfl, ho, hi⟩
  · exact .inl hn
  · exact .inr ⟨mb, D, rfl, map_of_block ho (hm mb rfl), hi⟩
/-- The roster's own blocks lie in the heap. -/
theorem Ros.lt {rb : Nat} {v mv : Value} {ss : List ByteArray} {F : Nat → Prop} {w : World} (h : Ros rb v mv ss F w) : rb < w.heap.size ∧ (∀ g, v.ownBlock = some g → g < w.heap.size) ∧ ∀ mb, mv = .map (some mb) → mb < w.heap.size := by
  refine ⟨(Array.getElem?_eq_some_iff.1 h.blk).1, fun g hg => (h.row.lt g hg).2, fun mb hmb => ?_⟩
  rcases h.idx with hn | ⟨mb', D, he, ho, _⟩
  · rw [hn] at hmb; cases hmb
  · rw [he] at hmb
    simp only [Value.map.injEq, Option.some.injEq] at hmb
    subst hmb
    exact ho.lt
end Go.Proofs.Ybulkcqtk
