/-
  THE PROOF OF 'Rows.LawS4625BUndoEnrolSaid': the frame is the one that the guide's skeleton tool writes for a law over slices of integers, turned by hand to slices of strings ('open_strings' for 'open_ints').
-/
import Derived.Test.YbulkcqtkRows
import Derived.Test.YbulkcqtkUndoWalks
import Derived.WalkKit
import Derived.ProofKit
import Derived.OpenShut
import Derived.ShutString
import Derived.SliceStrings
import Derived.ChangeOld
import Derived.Below
namespace Go.Proofs.Ybulkcqtk.lawS4625BUndoEnrol
open Go.ChangeShapes Go.WideShapes Go.ChangeAt Go.RowKit
set_option linter.unusedVariables false

theorem own : ownKnob Yba.prog.godebug = none := by kernel_rfl
theorem laidOut : laidOutB Yba.prog = true := by kernel_rfl

/-- What is known of a slice of strings that came in. -/
theorem names_of {H : Type} {enc : TypeId × Value → H} {W : World} {a : Option Addr} {n cap fuel : Nat} {spare : Nat → Bool} {held : Bool} {x : DataW H × List MemPlace}
    (hf : DataW.trod enc Yba.prog W 0 spare held fuel 22 (Value.slice a n cap).cells.toList = some x) (hsp : ∀ k, spare k = true) : n ≤ maxLen ∧ ∃ ss, IsNames W a n ss := by
  rcases open_strings Yba.underlying22 Yba.underlying9 (by kernel_rfl) hf with ⟨hcs, _⟩ | ⟨x, l, c, ss, hcs, _, hl, hm, hz, _, hcell, hws⟩
  · simp [Value.cells] at hcs
    obtain ⟨rfl, rfl, rfl⟩ := hcs
    exact ⟨Nat.zero_le _, [], Nat.le_refl _, by simp, fun h => absurd h (by omega)⟩
  · simp [Value.cells] at hcs
    obtain ⟨rfl, rfl, rfl⟩ := hcs
    rw [if_pos (hsp _)] at hz
    refine ⟨Nat.le_trans hl hm, ss, by omega, hws, fun hp => ?_⟩
    obtain ⟨b, off, spot⟩ := x
    have hspot : spot = none := by simpa [Addr.add] using World.cell?_spot (hcell 0 (by omega))
    subst hspot
    exact ⟨b, off, rfl, fun j hj => by rw [← Go.WideShapes.add_plain]; exact hcell j (by omega)⟩

theorem walk (a0 : Option Addr) (len0 cap0 : Nat) (a1 : Option Addr) (len1 cap1 : Nat) (z0 z1 : List ByteArray) (w : World) (hm0 : len0 ≤ maxLen) (hm1 : len1 ≤ maxLen) (w0 : IsNames w a0 len0 z0) (w1 : IsNames w a1 len1 z1) :
    Calls Yba.prog 4 #[.slice a0 len0 cap0, .slice a1 len1 cap1] w fun e w' => e = .returned (.bool true) ∧ Below w.heap.size w w' := by
  by_cases h : 1024 < len0 ∨ 1024 < len1
  · exact undo_long a0 a1 len0 cap0 len1 cap1 hm0 hm1 h w
  · exact undo_any a0 a1 len0 cap0 len1 cap1 z0 z1 w w0 w1 (by omega) (by omega)

set_option maxRecDepth 100000 in
theorem lifted (os : Os) (started : os.Started) (H : Type) (enc : TypeId × Value → H) :
    ReturnsInHanded {} Yba.checked os 4 .any (Rows.lawS4625BUndoEnrolSpec.pre6 enc Yba.prog Yba.f4 Rows.lawS4625BUndoEnrolRow.domain false) (Rows.lawS4625BUndoEnrolSpec.post enc Yba.prog Yba.f4 false true false false) := by
  refine returnsInHanded_of_change (C := Yba.checked) own started (by kernel_rfl) Yba.func4
    (ChangeSpec.witness6 (enc := enc) (C := Yba.checked) false ⟨#[], #[.slice none 0 0, .slice none 0 0], []⟩ 8 (by kernel_rfl) (by kernel_rfl) (by kernel_rfl) (by kernel_rfl)) ?_
  intro W base args ds gs before hval0 hW hcnd _
  have hval : ∀ (j : Nat) t v, Yba.f4.params[j]? = some t → args[j]? = some v → Value.okWide Yba.prog W .any base t v := hval0
  have hW' := hW
  obtain ⟨p, q, hA0, hV, rfl, hfz, hnd⟩ := hW
  have hA : DataW.TrodAll enc Yba.prog W 0 (fun _ => true) true Yba.f4.params.toList args.toList ds p := hA0
  rw [Yba.params4] at hA hval
  obtain ⟨v0, vs0, d0, ds0, p0, q0, hargs, rfl, rfl, h0, r0⟩ := trodAll_cons hA
  obtain ⟨v1, vs1, d1, ds1, p1, q1, rfl, rfl, rfl, h1, r1⟩ := trodAll_cons r0
  obtain ⟨rfl, rfl, rfl⟩ := trodAll_nil r1
  obtain rfl : args = #[v0, v1] := by cases args; simp_all
  obtain ⟨rfl, rfl⟩ := trodVars_none hV
  obtain ⟨a0, len0, cap0, rfl⟩ := okWide_slice Yba.underlying22 (hval 0 22 v0 rfl rfl)
  have k0 := h0
  have lt0 : ∀ x ∈ p0, x.block < W.heap.size := by obtain ⟨m, hm⟩ := k0; exact DataW.trod_lt m _ _ _ hm
  obtain ⟨hm0, z0, w0⟩ : len0 ≤ maxLen ∧ ∃ ss, IsNames W a0 len0 ss := by
    obtain ⟨fuel, hf⟩ := h0
    exact names_of hf (fun _ => rfl)
  obtain ⟨a1, len1, cap1, rfl⟩ := okWide_slice Yba.underlying22 (hval 1 22 v1 rfl rfl)
  have k1 := h1
  have lt1 : ∀ x ∈ p1, x.block < W.heap.size := by obtain ⟨m, hm⟩ := k1; exact DataW.trod_lt m _ _ _ hm
  obtain ⟨hm1, z1, w1⟩ : len1 ≤ maxLen ∧ ∃ ss, IsNames W a1 len1 ss := by
    obtain ⟨fuel, hf⟩ := h1
    exact names_of hf (fun _ => rfl)
  clear hA0 hval0
  refine (walk a0 len0 cap0 a1 len1 cap1 z0 z1 W hm0 hm1 w0 w1).mono fun e W' ⟨he, bel⟩ => ?_
  subst he
  exact ⟨_, rfl, _, _, _, [], _, [], hW', trodAll_mk1 (shut_bool Yba.underlying4 _), trodAll_cons_mk (Below.trod laidOut (by kernel_rfl) (of_decide_eq_true (by kernel_rfl)) k0 bel lt0) (trodAll_cons_mk (Below.trod laidOut (by kernel_rfl) (of_decide_eq_true (by kernel_rfl)) k1 bel lt1) trodAll_mk0), rfl, bel.frame _, fun h => by cases h⟩

theorem over : Rows.lawS4625BUndoEnrolRow.holds Yba.pinned (OpenSpec.ofChange Rows.lawS4625BUndoEnrolSpec) :=
  OpenClaim.holds_of_wide 4 Yba.f4 rfl rfl rfl rfl rfl rfl rfl ⟨rfl, rfl, rfl, rfl, rfl⟩ rfl rfl rfl rfl rfl (by kernel_rfl) Yba.func4 (by kernel_rfl)
    (of_decide_eq_true (by kernel_rfl)) (by unfold Func.isWrapper; first | (rw [if_pos (by decide +kernel)]; kernel_rfl) | (rw [if_neg (by decide +kernel)]; exact ⟨rfl, rfl⟩))
    (fun os started H enc _ => lifted os started H enc)

/-- THE STATEMENT -/
theorem proved : Rows.LawS4625BUndoEnrolSaid := over
#print axioms proved
end Go.Proofs.Ybulkcqtk.lawS4625BUndoEnrol
