/-
  A SET OF STRINGS ('map[string]bool', every element true) that the call makes: look-up, store, length, in terms of the list of keys stored. By an AI agent.
-/
import Derived.Test.Qxb6617892aProg
import Derived.Test.Qxb6617892aPlainS
import Derived.Maps.OwnSet
import Derived.WalkKit
import Derived.WalkSpells
import Derived.WalkLawsBesides
namespace Go.Proofs.Qxb6617892a
open Go.RowKit Go.Maps
set_option linter.unusedVariables false

def tt : DataW Unit := .lit (.bool true)
def lits (K : List (List UInt8)) : List Lit := K.map Lit.string
theorem lits_key (K : List (List UInt8)) : ∀ x ∈ lits K, WideAt.IsKeyLit x := by
  intro x hx
  obtain ⟨a, _, rfl⟩ := List.mem_map.1 hx
  trivial

theorem any_lits (x : List UInt8) : ∀ K : List (List UInt8), (lits K).any (fun y => y.sameKey (.string x)) = K.contains x
  | [] => rfl
  | a :: r => by
    have ih := any_lits x r
    unfold lits at ih ⊢
    rw [List.map_cons, List.any_cons, ih]
    show ((a == x) || r.contains x) = (a :: r).contains x
    rw [List.contains_cons]
    congr 1
    exact BEq.comm

theorem has_lits (K : List (List UInt8)) (x : List UInt8) : Maps.has (Maps.setOf tt (lits K)) (.string x) = K.contains x := by
  rw [has_setOf tt _ _ (lits_key K), any_lits]

theorem addKey_lits (acc : List (List UInt8)) (x : List UInt8) : addKey (lits acc) (.string x) = lits (St.addL acc x) := by
  unfold addKey St.addL
  rw [any_lits]
  split <;> simp [lits]
theorem fold_lits : ∀ (K acc : List (List UInt8)), (lits K).foldl addKey (lits acc) = lits (K.foldl St.addL acc)
  | [], _ => rfl
  | x :: r, acc => by
    show (lits r).foldl addKey (addKey (lits acc) (.string x)) = _
    rw [addKey_lits, fold_lits r]
    rfl
theorem size_lits (K : List (List UInt8)) : Maps.size (Maps.setOf tt (lits K)) = St.card K := by
  rw [size_setOf tt _ (lits_key K)]
  have := fold_lits K []
  unfold St.card St.ded
  rw [show (lits K).foldl addKey [] = lits (K.foldl St.addL []) from this]
  simp [lits]

/-- what stands at a key: true where it is there -/
theorem at_fold (k : Lit) (z : DataW Unit) : ∀ (acc : List Lit) (m : DataW Unit), IsMap m → (∀ x ∈ acc, WideAt.IsKeyLit x) → (m.atKey k z = if Maps.has m k then tt else z) →
    (acc.foldl (fun m x => m.put x tt) m).atKey k z = if Maps.has (acc.foldl (fun m x => m.put x tt) m) k then tt else z
  | [], _, _, _, h => h
  | x :: r, m, hm, hk, h => by
    rw [List.foldl_cons]
    refine at_fold k z r _ (hm.put x tt) (fun y hy => hk y (by simp [hy])) ?_
    by_cases e : k = x
    · subst e
      rw [atKey_put_same hm (hk k (by simp)), has_put_same hm (hk k (by simp))]
      rfl
    · rw [atKey_put_other e, has_put_other e]
      exact h
theorem at_lits (K : List (List UInt8)) (x : List UInt8) : (Maps.setOf tt (lits K)).atKey (.string x) (.lit (.bool false)) = .lit (.bool (K.contains x)) := by
  have := at_fold (.string x) (.lit (.bool false)) (lits K) (.map []) isMap_empty (lits_key K) (by rfl)
  have h2 := has_lits K x
  unfold Maps.setOf at h2 ⊢
  rw [this, h2]
  cases K.contains x <;> rfl

/-- is the key there? (a name that the walk does not open) -/
def inK (K : List (List UInt8)) (x : List UInt8) : Bool := K.contains x

/-- block b is a set that holds just the keys K -/
def OM (w : World) (b n : Nat) (K : List (List UInt8)) : Prop := w.ownsMap Try.prog 9 (plainElem (H := Unit) Try.prog 4) b n (Maps.setOf tt (lits K))

theorem keyed9 : Keyed Try.prog 9 := string_keyed Try.underlying9
theorem zero4 (w : World) : (zeroValue 4).run Try.prog w = .ok (.bool false) w := by kernel_rfl

theorem OM.of_heap {w w' : World} {b n : Nat} {K : List (List UInt8)} (h : OM w b n K) (e : w'.heap[b]? = w.heap[b]?) : OM w' b n K := by
  obtain ⟨es, clock, hb, r⟩ := h
  exact ⟨es, clock, e.trans hb, r⟩
theorem OM.lt {w : World} {b n : Nat} {K : List (List UInt8)} (h : OM w b n K) : b < w.heap.size := World.ownsMap.lt h
theorem OM.below {w w' : World} {b n B : Nat} {K : List (List UInt8)} (h : OM w b n K) (hb : Below B w w') (hlt : b < B) : OM w' b n K := h.of_heap (hb.block b hlt)

theorem OM.made (w : World) : OM (w.alloc (.map #[] 0)) w.heap.size 0 [] := World.ownsMap_made w _ _ _

theorem plainElem_bool_inv {e : TypeId} {P : Program} (he : P.underlying e = some .bool) {v : Value} {z : DataW Unit × List MemPlace} (h : plainElem P e v = some z) : ∃ x, v = .bool x ∧ z = (.lit (.bool x), []) := by
  unfold plainElem at h
  rw [he] at h
  cases v <;> simp at h
  exact ⟨_, rfl, h.symm⟩

theorem OM.look {w : World} {b n : Nat} {K : List (List UInt8)} (h : OM w b n K) (s : ByteArray) (hs : s.size ≤ maxLen) :
    (Instr.lookup 26 (.map (some b)) (.string s) false).run Try.prog w = .ok (.bool (inK K s.data.toList)) w := by
  obtain ⟨v, ps, hrun, hv⟩ := World.ownsMap.lookup h keyed9 Try.underlying26 (zero4 w) (plainElem_bool Try.underlying4 false) (WideMaps.keyOf_string_mk Try.underlying9 hs)
  obtain ⟨x, rfl, hx⟩ := plainElem_bool_inv Try.underlying4 hv
  rw [at_lits] at hx
  simp at hx
  rw [hrun, ← hx.1]
  simp [inK]

theorem OM.put {w : World} {b n : Nat} {K : List (List UInt8)} (h : OM w b n K) (hn : n < maxLen) (s : ByteArray) (hs : s.size ≤ maxLen) :
    ∃ w', (Instr.mapUpdate 26 (.map (some b)) (.string s) (.bool true)).run Try.prog w = .ok () w' ∧ OM w' b (n + 1) (K ++ [s.data.toList]) ∧ w.grownBy w' (some b) := by
  obtain ⟨w', hrun, ho, hg⟩ := World.ownsMap.update h keyed9 Try.underlying26 hn (WideMaps.keyOf_string_mk Try.underlying9 hs) (plainElem_bool Try.underlying4 true)
  refine ⟨w', hrun, ?_, hg⟩
  have e : Maps.setOf tt (lits (K ++ [s.data.toList])) = (Maps.setOf tt (lits K)).put (.string s.data.toList) tt := by
    rw [← setOf_snoc]; simp [lits]
  unfold OM
  rw [e]; exact ho

theorem OM.len {w : World} {b n : Nat} {K : List (List UInt8)} (h : OM w b n K) (ty : TypeId) : (Builtin.len_ #[26] ty #[.map (some b)]).run Try.prog w = .ok (.int .i64 (St.card K)) w := by
  have := World.ownsMap.len h Try.underlying26 ty
  rw [size_lits] at this
  exact this

end Go.Proofs.Qxb6617892a
