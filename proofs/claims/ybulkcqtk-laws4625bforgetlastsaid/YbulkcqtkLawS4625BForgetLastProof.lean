/-
  THE PROOF OF 'Rows.LawS4625BForgetLastSaid': the frame is the one that the guide's skeleton tool writes for a law over a slice of integers, turned by hand to a slice of strings ('open_strings' for 'open_ints').
-/
import Derived.Test.YbulkcqtkRows
import Derived.Test.YbulkcqtkForgetWalks
import Derived.WalkKit
import Derived.ProofKit
import Derived.OpenShut
import Derived.ShutString
import Derived.SliceStrings
import Derived.ChangeOld
import Derived.Below
namespace Go.Proofs.Ybulkcqtk.lawS4625BForgetLast
open Go.ChangeShapes Go.WideShapes Go.ChangeAt Go.RowKit
set_option linter.unusedVariables false

theorem own : ownKnob Yba.prog.godebug = none := by kernel_rfl
theorem laidOut : laidOutB Yba.prog = true := by kernel_rfl

/-- What is known of a slice of strings that came in. -/
theorem names_of {H : Type} {enc : TypeId × Value → H} {W : World} {a : Option Addr} {n cap fuel : Nat} {spare : Nat → Bool} {held : Bool} {x : DataW H × List MemPlace}
    (hf : DataW.trod enc Yba.prog W 0 spare held fuel 22 (Value.slice a n cap).cells.toList = some x) (hsp : ∀ k, spare k = true) : n ≤ maxLen ∧ ∃ ss, IsNames W a n ss := by
  rcases open_strings Yba.underlying22 Yba.underlying9 (by kernel_rfl) hf with ⟨hcs, _⟩ | ⟨x, l, c, ss, hcs, _, hl, hm, hz, _, hcell, hws⟩
  · simp [Value.cells] at hcs
    obtain ⟨rfl, rfl, rfl⟩ := hcs
    exact ⟨Nat.zero_le _, [], Nat.le_refl _, by simp, fun h => absurd h (by omega)⟩
  · simp [Value.cells] at hcs
    obtain ⟨rfl, rfl, rfl⟩ := hcs
    rw [if_pos (hsp _)] at hz
    refine ⟨Nat.le_trans hl hm, ss, by omega, hws, fun hp => ?_⟩
    obtain ⟨b, off, spot⟩ := x
    have hspot : spot = none := by simpa [Addr.add] using World.cell?_spot (hcell 0 (by omega))
    subst hspot
    exact ⟨b, off, rfl, fun j hj => by rw [← Go.WideShapes.add_plain]; exact hcell j (by omega)⟩

theorem walk (a0 : Option Addr) (len0 cap0 : Nat) (ss : List ByteArray) (w : World) (hm : len0 ≤ maxLen) (w0 : IsNames w a0 len0 ss) :
    Calls Yba.prog 3 #[.slice a0 len0 cap0] w fun e w' => e = .returned (.bool true) ∧ Below w.heap.size w w' := by
  by_cases h : len0 ≤ 1024
  · exact forgetLast_any a0 len0 cap0 ss w w0 h
  · exact forgetLast_long a0 len0 cap0 hm (by omega) w

set_option maxRecDepth 100000 in
theorem lifted (os : Os) (started : os.Started) (H : Type) (enc : TypeId × Value → H) :
    ReturnsInHanded {} Yba.checked os 3 .any (Rows.lawS4625BForgetLastSpec.pre6 enc Yba.prog Yba.f3 Rows.lawS4625BForgetLastRow.domain false) (Rows.lawS4625BForgetLastSpec.post enc Yba.prog Yba.f3 false true false false) := by
  refine returnsInHanded_of_change (C := Yba.checked) own started (by kernel_rfl) Yba.func3
    (ChangeSpec.witness6 (enc := enc) (C := Yba.checked) false ⟨#[], #[.slice none 0 0], []⟩ 8 (by kernel_rfl) (by kernel_rfl) (by kernel_rfl) (by kernel_rfl)) ?_
  intro W base args ds gs before hval0 hW hcnd _
  have hval : ∀ (j : Nat) t v, Yba.f3.params[j]? = some t → args[j]? = some v → Value.okWide Yba.prog W .any base t v := hval0
  have hW' := hW
  obtain ⟨p, q, hA0, hV, rfl, hfz, hnd⟩ := hW
  have hA : DataW.TrodAll enc Yba.prog W 0 (fun _ => true) true Yba.f3.params.toList args.toList ds p := hA0
  rw [Yba.params3] at hA hval
  obtain ⟨v0, vs0, d0, ds0, p0, q0, hargs, rfl, rfl, h0, r0⟩ := trodAll_cons hA
  obtain ⟨rfl, rfl, rfl⟩ := trodAll_nil r0
  obtain rfl : args = #[v0] := by cases args; simp_all
  obtain ⟨rfl, rfl⟩ := trodVars_none hV
  obtain ⟨a0, len0, cap0, rfl⟩ := okWide_slice Yba.underlying22 (hval 0 22 v0 rfl rfl)
  have k0 := h0
  have lt0 : ∀ x ∈ p0, x.block < W.heap.size := by obtain ⟨m, hm⟩ := k0; exact DataW.trod_lt m _ _ _ hm
  obtain ⟨hm0, z0, w0⟩ : len0 ≤ maxLen ∧ ∃ ss, IsNames W a0 len0 ss := by
    obtain ⟨fuel, hf⟩ := h0
    exact names_of hf (fun _ => rfl)
  clear hA0 hval0
  refine (walk a0 len0 cap0 z0 W hm0 w0).mono fun e W' ⟨he, bel⟩ => ?_
  subst he
  exact ⟨_, rfl, _, _, _, [], _, [], hW', trodAll_mk1 (shut_bool Yba.underlying4 _), trodAll_cons_mk (Below.trod laidOut (by kernel_rfl) (of_decide_eq_true (by kernel_rfl)) k0 bel lt0) trodAll_mk0, rfl, bel.frame _, fun h => by cases h⟩

theorem over : Rows.lawS4625BForgetLastRow.holds Yba.pinned (OpenSpec.ofChange Rows.lawS4625BForgetLastSpec) :=
  OpenClaim.holds_of_wide 3 Yba.f3 rfl rfl rfl rfl rfl rfl rfl ⟨rfl, rfl, rfl, rfl, rfl⟩ rfl rfl rfl rfl rfl (by kernel_rfl) Yba.func3 (by kernel_rfl)
    (of_decide_eq_true (by kernel_rfl)) (by unfold Func.isWrapper; first | (rw [if_pos (by decide +kernel)]; kernel_rfl) | (rw [if_neg (by decide +kernel)]; exact ⟨rfl, rfl⟩))
    (fun os started H enc _ => lifted os started H enc)

/-- THE STATEMENT -/
theorem proved : Rows.LawS4625BForgetLastSaid := over
#print axioms proved
end Go.Proofs.Ybulkcqtk.lawS4625BForgetLast
