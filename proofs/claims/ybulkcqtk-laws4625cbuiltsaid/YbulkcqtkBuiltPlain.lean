/-
  PLAIN, for LawS4625CBuilt: the bytes that are gathered; where the digits from len(pre) on end in them. And the buffer of bytes that the call owns, carried from append to append.
-/
import Derived.Test.YbulkcqtkCPlain
import Derived.Laws.BytesArg
import Derived.Laws.OwnMore
import Derived.Lib.AppendStr
import Derived.Below
namespace Go.Proofs.Ybulkcqtk
open Go.RowKit Go.Lib

/-- A string's bytes as numbers. -/
def ints (s : ByteArray) : List Int := s.data.toList.map fun b => (b.toNat : Int)
theorem ints_length (s : ByteArray) : (ints s).length = s.size := by
  rw [ints, List.length_map, Array.length_toList]; rfl
theorem ints_cells (s : ByteArray) : strCells s = (ints s).map (Value.int .u8) := by
  simp [strCells, ints, Function.comp_def]

/-- The first k digits that are laid. -/
def digs (zs : List Int) (k : Nat) : List Int := (zs.take k).map fun z => 48 + z % 10
theorem digs_length (zs : List Int) (k : Nat) (h : k ≤ zs.length) : (digs zs k).length = k := by
  simp [digs]; omega
theorem digs_succ (zs : List Int) (k : Nat) (h : k < zs.length) : digs zs (k + 1) = digs zs k ++ [48 + zs.getD k 0 % 10] := by
  unfold digs
  rw [List.take_succ_eq_append_getElem h, List.map_append, List.getD_eq_getElem?_getD, List.getElem?_eq_getElem h]
  rfl

theorem bt_nums (L : List Int) (i : Nat) (h : i < L.length) (h0 : 0 ≤ L[i]) (h1 : L[i] < 256) : bt (strOfNums L) i = (L[i]).toNat := by
  unfold bt
  rw [strOfNums_data, List.getD_eq_getElem?_getD, List.getElem?_map, List.getElem?_eq_getElem h]
  simp only [Option.map_some, Option.getD_some, UInt8.toNat_ofNat']
  omega

/-- WHAT FOLLOWS THE DIGITS does not open with a digit. -/
def NoDigit (R : List Int) : Prop := ∀ h : 0 < R.length, 0 ≤ R[0] ∧ R[0] < 256 ∧ digB (R[0]).toNat = false

theorem ends_built (p : List Int) (zs : List Int) (n : Nat) (R : List Int) (hn : n ≤ zs.length) (hR : NoDigit R) :
    Ends (strOfNums (p ++ digs zs n ++ R)) p.length (p.length + n) := by
  have hd := digs_length zs n hn
  refine ⟨by omega, fun i h1 h2 => ?_, fun h => ?_⟩
  · have hL : i < (p ++ digs zs n ++ R).length := by simp [hd]; omega
    have hz : i - p.length < (digs zs n).length := by omega
    have hv : (p ++ digs zs n ++ R)[i] = (digs zs n)[i - p.length] := by
      rw [List.getElem_append_left (by simp [hd]; omega), List.getElem_append_right h1]
    have hv' : (digs zs n)[i - p.length] = 48 + (zs[i - p.length]'(by omega)) % 10 := by
      simp [digs]
    refine ⟨by rw [strOfNums_size]; exact hL, ?_⟩
    rw [bt_nums _ i hL (by rw [hv, hv']; omega) (by rw [hv, hv']; omega), hv, hv']
    exact digB_yes _ (by omega) (by omega)
  · rw [strOfNums_size] at h
    have hl : (p ++ digs zs n).length = p.length + n := by simp [hd]
    have hr : 0 < R.length := by
      rw [List.length_append, hl] at h; omega
    obtain ⟨a, b, c⟩ := hR hr
    have hv : (p ++ digs zs n ++ R)[p.length + n] = R[0] := by
      rw [List.getElem_append_right (by omega)]
      simp [hl]
    rw [bt_nums _ _ h (by rw [hv]; exact a) (by rw [hv]; exact b), hv]
    exact c

theorem noDigit_x (t : ByteArray) : NoDigit ([120] ++ ints t) := fun _ => ⟨by simp, by simp, rfl⟩
theorem noDigit_t (t : ByteArray) (h : ∀ h : 0 < t.size, digB (t[0]).toNat = false) : NoDigit (ints t) := fun hl => by
  have h0 : 0 < t.size := by rw [ints_length] at hl; exact hl
  have e : (ints t)[0] = ((t[0]).toNat : Int) := by simp [ints]; rfl
  have := (t[0]).toNat_lt
  refine ⟨by rw [e]; omega, by rw [e]; omega, ?_⟩
  rw [e]
  exact h h0

/-- The buffer: in w the slice v owns a row that holds the numbers L, in a block from B on; below B all is as in W0. -/
def Buf (B : Nat) (v : Value) (L : List Int) (W0 w : World) : Prop := w.ownsRow B 5 1 v L.length (L.map (Value.int .u8)) ∧ Below B W0 w ∧ B ≤ w.heap.size

theorem Buf.grown {B : Nat} {v v' : Value} {n : Nat} {L L' : List Int} {xs : List Value} {W0 w w' : World} (h : Buf B v L W0 w) (ho : w'.ownsRow B 5 1 v' n xs) (hn : n = L'.length) (hx : xs = L'.map (Value.int .u8)) (hg : w.grownBy w' v.ownBlock) : Buf B v' L' W0 w' := by
  subst hn; subst hx
  exact ⟨ho, h.2.1.grown hg h.2.2 (fun k hk => (h.1.lt k hk).1), Nat.le_trans h.2.2 hg.size⟩
theorem Buf.alloc {B : Nat} {v : Value} {L : List Int} {W0 w : World} (h : Buf B v L W0 w) (o : Obj) : Buf B v L W0 (w.alloc o) :=
  ⟨h.1.alloc o, h.2.1.alloc h.2.2 o, Nat.le_trans h.2.2 ((Below.refl 0 w).alloc (Nat.zero_le _) o).size⟩

/-- 'string(b)' -/
theorem Buf.text {P : Program} {B : Nat} {v : Value} {L : List Int} {W0 w : World} (h : Buf B v L W0 w) (src : TypeId) (hs : P.underlying src = some (.slice 5)) (he : P.underlying 5 = some (.int .u8)) :
    ∀ dst, P.underlying dst = some .string → (convert src dst v).run P w = .ok (.string (strOfNums L)) w := by
  intro dst hd
  rcases h.1.2 with ⟨rfl, hn⟩ | ⟨g, cap, cur, rfl, _, hg, hnc, _, hsz, htk⟩
  · have : L = [] := List.length_eq_zero_iff.1 hn
    subst this
    exact run_convert_bytes_nil w src 5 hs he 0 0 dst hd
  · refine run_convert_bytes_arg w src 5 hs he g 0 L.length cap L rfl (fun i hi => ?_) dst hd
    have hc := h.1.cells (g := g) rfl i (.int .u8 (L.getD i 0)) (by
      rw [List.getElem?_map, List.getElem?_eq_getElem hi, List.getD_eq_getElem?_getD, List.getElem?_eq_getElem hi]; rfl)
    have e : (⟨g, 0, none⟩ : Addr).add i = ⟨g, 0 + i, none⟩ := by unfold Addr.add; split <;> simp_all
    rw [← hc, e]
end Go.Proofs.Ybulkcqtk
