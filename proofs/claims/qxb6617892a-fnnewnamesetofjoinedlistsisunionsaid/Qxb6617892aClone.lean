/-
  'zzc := make([]T, len(xs)); copy(zzc, xs)': what the two runs come to, over any program: a new block that holds the old cells; nothing old has turned. By an AI agent.
-/
import Derived.Test.Qxb6617892aWalksS
import Derived.WalkKit
import Derived.WalkSpells
import Derived.WalkLawsBesides
import Derived.Laws.CopyOwn
namespace Go.Proofs.Qxb6617892a
open Go.RowKit
set_option linter.unusedVariables false

theorem clone_runs {P : Program} (T E : TypeId) (i : TypeInfo) (z : Value) (hu : P.underlying T = some (.slice E)) (hi : P.info? E = some i) (hz : i.zero = some z) (hs : i.size = 1)
    (w : World) (a : Option Addr) (n cap : Nat) (cs : List Value) (hn : cs.length = n) (hb : i.bytes * n ≤ 281474976710656) (hm : n ≤ 1048576)
    (hsrc : ∀ j v, cs[j]? = some v → ∃ ad, a = some ad ∧ w.cell? (ad.add j) = some v) (h1 : ∀ v ∈ cs, v.oneCell' = true) :
    ∃ W1 W2, (Instr.makeSlice T (.int .i64 (n : Int)) (.int .i64 (n : Int))).run P w = .ok (.slice (some ⟨w.heap.size, 0, none⟩) n n) W1 ∧
      (∀ ty, (Builtin.copy_ #[T, T] ty #[.slice (some ⟨w.heap.size, 0, none⟩) n n, .slice a n cap]).run P W1 = .ok (goInt n) W2) ∧
      Below w.heap.size w W2 ∧ W2.heap[w.heap.size]? = some (.cells cs.toArray E (0, 0)) := by
  have hb' : (i.bytes : Int) * (n : Int) ≤ 281474976710656 := by
    have h : ((i.bytes * n : Nat) : Int) ≤ 281474976710656 := by omega
    rwa [Int.natCast_mul] at h
  have hr := run_make (P := P) w T E i z hu hi hz .i64 .i64 n n (by omega) (Int.le_refl _) hb' (by omega)
  simp only [Int.toNat_natCast] at hr
  have hg : (w.alloc (.cells (madeCells z.cells (n * i.size)) E)).heap[w.heap.size]? = some (.cells (madeCells z.cells (n * i.size)) E (0, 0)) := by
    show (w.heap.push _)[w.heap.size]? = _
    rw [Array.getElem?_push_size]
  have hsz : (P.info? E).map (·.size) = some 1 := by rw [hi]; simp [hs]
  have hbel : Below w.heap.size w (w.alloc (.cells (madeCells z.cells (n * i.size)) E)) := (Below.refl _ _).alloc (Nat.le_refl _) _
  by_cases h0 : n = 0
  · have hcs : cs = [] := List.eq_nil_of_length_eq_zero (by omega)
    refine ⟨_, _, hr, fun ty => ?_, hbel, ?_⟩
    · rw [run_copy_none (P := P) _ T T ty E _ a n n n cap hu hsz (by simp [h0])]
      subst h0; rfl
    · rw [hg, hcs]
      have : (madeCells z.cells (n * i.size)) = #[] := by subst h0; simp [madeCells]
      rw [this]
  · have : ∃ ad, a = some ad := by
      obtain ⟨v, hv⟩ : ∃ v, cs[0]? = some v := ⟨cs[0]'(by omega), by simp⟩
      obtain ⟨ad, h, _⟩ := hsrc 0 v hv
      exact ⟨ad, h⟩
    obtain ⟨ad, rfl⟩ := this
    refine ⟨_, _, hr, fun ty => ?_, below_setRow hbel (Nat.le_refl _) cs.toArray, setRow_heap _ _ _ _ _ _ hg⟩
    have hc := run_copy_row (P := P) (w.alloc (.cells (madeCells z.cells (n * i.size)) E)) T T ty E w.heap.size 0 n n ad n cap (madeCells z.cells (n * i.size)) E cs hu hsz hg (by simp [hn])
      (fun j v hj => by
        obtain ⟨ad', e, hc⟩ := hsrc j v hj
        cases e
        rw [World.cell?_alloc_lt w _ _ (lt_of_cell hc)]
        exact hc) (by rw [size_madeCells, hs]; omega) h1
    rw [hc, hn]
    have e : ((madeCells z.cells (n * i.size)).toList.take 0 ++ cs ++ (madeCells z.cells (n * i.size)).toList.drop (0 + n)) = cs := by
      rw [List.drop_eq_nil_of_le (by rw [Array.length_toList, size_madeCells, hs]; omega)]
      simp
    rw [e]

end Go.Proofs.Qxb6617892a
