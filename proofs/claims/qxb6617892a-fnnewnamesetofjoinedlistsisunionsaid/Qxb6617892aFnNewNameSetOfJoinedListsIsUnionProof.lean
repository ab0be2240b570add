/-
  THE PROOF OF 'Rows.FnNewNameSetOfJoinedListsIsUnionSaid': the seat's frame for slices of integers (written by program for other laws), turned by hand to slices of strings. By an AI agent.
-/
import Derived.Test.Qxb6617892aRows
import Derived.WalkKit
import Derived.ProofKit
import Derived.OpenShut
import Derived.ShutString
import Derived.ChangeOld
import Derived.Below
import Derived.SliceStrings
import Derived.Test.Qxb6617892aLawN
namespace Go.Proofs.Qxb6617892a.fnNewNameSetOfJoinedListsIsUnion
open Go.ChangeShapes Go.WideShapes Go.ChangeAt Go.RowKit
open Go.ChangeMaps (open_string shut_string)
set_option linter.unusedVariables false

theorem own : ownKnob Try.prog.godebug = none := by kernel_rfl
theorem laidOut : laidOutB Try.prog = true := by kernel_rfl

/-- What the walk is told of a slice of strings that came in. -/
def IsStrs (w : World) (a : Option Addr) (len cap : Nat) (ss : List ByteArray) : Prop :=
  RdS w a ss ∧ len = ss.length ∧ (a = none → len = 0 ∧ cap = 0) ∧ len ≤ cap ∧ cap ≤ 9223372036854775807

theorem addr_of_cell {w : World} {x : Addr} {v0 : Value} (h0 : w.cell? (x.add 0) = some v0) : ∃ b off, x = ⟨b, off, none⟩ ∧ ∀ i v, w.cell? (x.add i) = some v → w.cell? ⟨b, off + i, none⟩ = some v := by
  obtain ⟨b, off, sp⟩ := x
  cases sp with
  | none =>
    refine ⟨b, off, rfl, fun i v h => ?_⟩
    have hadd : (⟨b, off, none⟩ : Addr).add i = ⟨b, off + i, none⟩ := by unfold Addr.add; split <;> simp_all
    rw [hadd] at h; exact h
  | some y =>
    exfalso
    have hadd : (⟨b, off, some y⟩ : Addr).add 0 = ⟨b, off, some y⟩ := by simp [Addr.add]
    rw [hadd] at h0
    unfold World.cell? at h0
    split at h0 <;> simp at h0

theorem strs_of {w : World} {x : Addr} {len cap : Nat} {ss : List ByteArray} (hl : len ≤ cap) (hm : cap ≤ maxLen) (hz : ss.length = cap)
    (hcell : ∀ i, i < ss.length → w.cell? (x.add i) = some (.string (ss.getD i ByteArray.empty))) (hws : ∀ s ∈ ss, s.size ≤ maxLen) : IsStrs w (some x) len cap (ss.take len) := by
  have hs : ∀ i, i < len → sat (ss.take len) i = ss.getD i ByteArray.empty := fun i hi => by
    simp [sat, List.getD, hi]
  refine ⟨⟨fun i hi => ?_, fun i => ?_⟩, ?_, (fun h => absurd h (by simp)), hl, by unfold maxLen at hm; omega⟩
  · rw [List.length_take] at hi
    obtain ⟨b, off, e, hc⟩ := addr_of_cell (hcell 0 (by omega))
    refine ⟨b, off, by rw [e], ?_⟩
    rw [hs i (by omega)]; exact hc i _ (hcell i (by omega))
  · by_cases hi : i < len
    · rw [hs i hi]
      have hi2 : i < ss.length := by omega
      have : ss.getD i ByteArray.empty = ss[i] := by simp [List.getD, hi2]
      rw [this]; exact hws _ (List.getElem_mem hi2)
    · have : sat (ss.take len) i = ByteArray.empty := by
        unfold sat; rw [List.getD, List.getElem?_eq_none (by rw [List.length_take]; omega)]; rfl
      rw [this]; decide
  · rw [List.length_take]; omega

theorem strs_nil (w : World) : IsStrs w none 0 0 [] :=
  ⟨⟨fun i hi => by simp at hi, fun i => by have : sat [] i = ByteArray.empty := rfl; rw [this]; decide⟩, rfl, fun _ => ⟨rfl, rfl⟩, Nat.le_refl _, by omega⟩

theorem walk (a0 : Option Addr) (len0 cap0 : Nat) (z0 : List ByteArray) (a1 : Option Addr) (len1 cap1 : Nat) (z1 : List ByteArray) (w : World) (w0 : IsStrs w a0 len0 cap0 z0) (w1 : IsStrs w a1 len1 cap1 z1) :
    Calls Try.prog 5 #[.slice a0 len0 cap0, .slice a1 len1 cap1] w fun e w' => e = .returned (.bool true) ∧ Below w.heap.size w w' :=
  lawN a0 a1 len0 cap0 len1 cap1 z0 z1 w w0.2.1 w1.2.1 w0.1 w1.1 w0.2.2.1 w1.2.2.1 w0.2.2.2.1 w1.2.2.2.1 w0.2.2.2.2 w1.2.2.2.2

set_option maxRecDepth 100000 in
theorem lifted (os : Os) (started : os.Started) (H : Type) (enc : TypeId × Value → H) :
    ReturnsInHanded {} Try.checked os 5 .any (Rows.fnNewNameSetOfJoinedListsIsUnionSpec.pre6 enc Try.prog Try.f5 Rows.fnNewNameSetOfJoinedListsIsUnionRow.domain false) (Rows.fnNewNameSetOfJoinedListsIsUnionSpec.post enc Try.prog Try.f5 false true false false) := by
  refine returnsInHanded_of_change (C := Try.checked) own started (by kernel_rfl) Try.func5
    (ChangeSpec.witness6 (enc := enc) (C := Try.checked) false ⟨#[], #[.slice none 0 0, .slice none 0 0], []⟩ 8 (by kernel_rfl) (by kernel_rfl) (by kernel_rfl) (by kernel_rfl)) ?_
  intro W base args ds gs before hval0 hW hcnd _
  have hval : ∀ (j : Nat) t v, Try.f5.params[j]? = some t → args[j]? = some v → Value.okWide Try.prog W .any base t v := hval0
  have hW' := hW
  obtain ⟨p, q, hA0, hV, rfl, hfz, hnd⟩ := hW
  have hA : DataW.TrodAll enc Try.prog W 0 (fun _ => true) true Try.f5.params.toList args.toList ds p := hA0
  rw [Try.params5] at hA hval
  obtain ⟨v0, vs0, d0, ds0, p0, q0, hargs, rfl, rfl, h0, r0⟩ := trodAll_cons hA
  obtain ⟨v1, vs1, d1, ds1, p1, q1, rfl, rfl, rfl, h1, r1⟩ := trodAll_cons r0
  obtain ⟨rfl, rfl, rfl⟩ := trodAll_nil r1
  obtain rfl : args = #[v0, v1] := by cases args; simp_all
  obtain ⟨rfl, rfl⟩ := trodVars_none hV
  obtain ⟨a0, len0, cap0, rfl⟩ := okWide_slice Try.underlying24 (hval 0 24 v0 rfl rfl)
  have k0 := h0
  have lt0 : ∀ x ∈ p0, x.block < W.heap.size := by obtain ⟨m, hm⟩ := k0; exact DataW.trod_lt m _ _ _ hm
  obtain ⟨z0, w0⟩ : ∃ zs, IsStrs W a0 len0 cap0 zs := by
    obtain ⟨fuel, hf⟩ := h0
    rcases open_strings Try.underlying24 Try.underlying9 (by kernel_rfl) hf with ⟨hcs, _⟩ | ⟨x, l, c, zs, hcs, _, hl, hm, hz, _, hcell, hwz⟩
    · simp [Value.cells] at hcs
      obtain ⟨rfl, rfl, rfl⟩ := hcs
      exact ⟨[], strs_nil W⟩
    · simp [Value.cells] at hcs
      obtain ⟨rfl, rfl, rfl⟩ := hcs
      exact ⟨_, strs_of hl hm (by simpa using hz) hcell hwz⟩
  obtain ⟨a1, len1, cap1, rfl⟩ := okWide_slice Try.underlying24 (hval 1 24 v1 rfl rfl)
  have k1 := h1
  have lt1 : ∀ x ∈ p1, x.block < W.heap.size := by obtain ⟨m, hm⟩ := k1; exact DataW.trod_lt m _ _ _ hm
  obtain ⟨z1, w1⟩ : ∃ zs, IsStrs W a1 len1 cap1 zs := by
    obtain ⟨fuel, hf⟩ := h1
    rcases open_strings Try.underlying24 Try.underlying9 (by kernel_rfl) hf with ⟨hcs, _⟩ | ⟨x, l, c, zs, hcs, _, hl, hm, hz, _, hcell, hwz⟩
    · simp [Value.cells] at hcs
      obtain ⟨rfl, rfl, rfl⟩ := hcs
      exact ⟨[], strs_nil W⟩
    · simp [Value.cells] at hcs
      obtain ⟨rfl, rfl, rfl⟩ := hcs
      exact ⟨_, strs_of hl hm (by simpa using hz) hcell hwz⟩
  clear hA0 hval0
  refine (walk a0 len0 cap0 z0 a1 len1 cap1 z1 W w0 w1).mono fun e W' ⟨he, bel⟩ => ?_
  subst he
  exact ⟨_, rfl, _, _, _, [], _, [], hW', trodAll_mk1 (shut_bool Try.underlying4 _), (trodAll_cons_mk (Below.trod laidOut (by kernel_rfl) (of_decide_eq_true (by kernel_rfl)) k0 bel lt0) (trodAll_cons_mk (Below.trod laidOut (by kernel_rfl) (of_decide_eq_true (by kernel_rfl)) k1 bel lt1) trodAll_mk0)), rfl, bel.frame _, fun h => by cases h⟩

theorem over : Rows.fnNewNameSetOfJoinedListsIsUnionRow.holds Try.pinned (OpenSpec.ofChange Rows.fnNewNameSetOfJoinedListsIsUnionSpec) :=
  OpenClaim.holds_of_wide 5 Try.f5 rfl rfl rfl rfl rfl rfl rfl ⟨rfl, rfl, rfl, rfl, rfl⟩ rfl rfl rfl rfl rfl (by kernel_rfl) Try.func5 (by kernel_rfl)
    (of_decide_eq_true (by kernel_rfl)) (by unfold Func.isWrapper; first | (rw [if_pos (by decide +kernel)]; kernel_rfl) | (rw [if_neg (by decide +kernel)]; exact ⟨rfl, rfl⟩))
    (fun os started H enc _ => lifted os started H enc)

/-- ████ THE STATEMENT ████ -/
theorem proved : Rows.FnNewNameSetOfJoinedListsIsUnionSaid := over
end Go.Proofs.Qxb6617892a.fnNewNameSetOfJoinedListsIsUnion
