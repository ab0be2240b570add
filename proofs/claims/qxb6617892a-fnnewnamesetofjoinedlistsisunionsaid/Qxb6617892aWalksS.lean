/-
  THE WALKS of 'newNameSet', 'ZZNewNameSet'. By an AI agent.
-/
import Derived.Test.Qxb6617892aSets
import Derived.Deep.LoopGhost
import Derived.Lib.Strings
import Derived.Deep.CutBlock
import Derived.Deep.DeepCutAuto
import Derived.BigQuiet
import Derived.Deep.QuietTactic
namespace Go.Proofs.Qxb6617892a
open Go.RowKit Go.Maps
set_option linter.unusedVariables false

/-- the string at place i (a name that the walk does not open) -/
def sat (ss : List ByteArray) (i : Nat) : ByteArray := ss.getD i ByteArray.empty
/-- The slice that begins at 'a' reads, in w, as the strings ss; each fits. -/
def RdS (w : World) (a : Option Addr) (ss : List ByteArray) : Prop :=
  (∀ i, i < ss.length → ∃ b off, a = some ⟨b, off, none⟩ ∧ w.cell? ⟨b, off + i, none⟩ = some (.string (sat ss i))) ∧ ∀ i, (sat ss i).size ≤ maxLen

def isStar (s : ByteArray) : Bool := s.data.toList == [42]
def keysOf (ss : List ByteArray) : List (List UInt8) := (ss.filter fun s => !isStar s).map fun s => s.data.toList
def starIn (ss : List ByteArray) : Bool := ss.any isStar

theorem take_snoc (ss : List ByteArray) (k : Nat) (h : k < ss.length) : ss.take (k + 1) = ss.take k ++ [sat ss k] := by
  rw [List.take_succ_eq_append_getElem h]; simp [sat, List.getD, h]
theorem keys_star (ss : List ByteArray) (k : Nat) (h : k < ss.length) (hs : isStar (sat ss k) = true) : keysOf (ss.take (k + 1)) = keysOf (ss.take k) := by
  rw [take_snoc ss k h]; simp [keysOf, List.filter_append, hs]
theorem keys_other (ss : List ByteArray) (k : Nat) (h : k < ss.length) (hs : isStar (sat ss k) = false) : keysOf (ss.take (k + 1)) = keysOf (ss.take k) ++ [(sat ss k).data.toList] := by
  rw [take_snoc ss k h]; simp [keysOf, List.filter_append, hs]
theorem star_star (ss : List ByteArray) (k : Nat) (h : k < ss.length) (hs : isStar (sat ss k) = true) : starIn (ss.take (k + 1)) = true := by
  rw [take_snoc ss k h]; simp [starIn, List.any_append, hs]
theorem star_other (ss : List ByteArray) (k : Nat) (h : k < ss.length) (hs : isStar (sat ss k) = false) : starIn (ss.take (k + 1)) = starIn (ss.take k) := by
  rw [take_snoc ss k h]; simp [starIn, List.any_append, hs]
theorem star_form (s : ByteArray) : (s.toList == [42]) = isStar s := by rw [isStar, Lib.toList_data]

theorem run_makeMap_hint (n : Int) (w : World) : (Instr.makeMap 26 (some (.int .i64 n))).run Try.prog w = .ok (.map (some w.heap.size)) (w.alloc (.map #[] 0)) := by
  simp [Instr.makeMap, run_underlying Try.underlying26, asInt, asIntOf]

/-- a block of two cells: read, written -/
theorem two_cells {w : World} {g : Nat} {u v : Value} {t : TypeId} (h : w.heap[g]? = some (.cells #[u, v] t (0, 0))) :
    w.cell? ⟨g, 0, none⟩ = some u ∧ w.cell? ⟨g, 1, none⟩ = some v ∧ w.frozen? ⟨g, 0, none⟩ = false ∧ w.frozen? ⟨g, 1, none⟩ = false := by
  simp [World.cell?, World.frozen?, h]
theorem two_set0 {w : World} {g : Nat} {u v x : Value} {t : TypeId} (h : w.heap[g]? = some (.cells #[u, v] t (0, 0))) :
    (w.setCell ⟨g, 0, none⟩ x).heap[g]? = some (.cells #[x, v] t (0, 0)) :=
  heap_setCell_same w g 0 #[u, v] t x h

theorem lt_of_cell {w : World} {p : Addr} {v : Value} (h : w.cell? p = some v) : p.block < w.heap.size := by
  unfold World.cell? at h
  split at h
  · rename_i c e f hb; exact (Array.getElem?_eq_some_iff.1 hb).1
  · cases h
theorem lt_of_heap {w : World} {g : Nat} {o : Obj} (h : w.heap[g]? = some o) : g < w.heap.size := (Array.getElem?_eq_some_iff.1 h).1

/-- What 'newNameSet' has made, behind k rounds: the result's block, the set's, the struct's. -/
def Mid (w wr : World) (all : Bool) (n : Nat) (K : List (List UInt8)) : Prop :=
  wr.heap[w.heap.size]? = some (.cells #[.bool false, .map none] 32 (0, 0)) ∧ OM wr (w.heap.size + 1) n K ∧
  wr.heap[w.heap.size + 1 + 1]? = some (.cells #[.bool all, .map (some (w.heap.size + 1))] 32 (0, 0)) ∧ Below w.heap.size w wr

theorem mid_start (w : World) : Mid w (((w.alloc (.cells #[.bool false, .map none] 32)).alloc (.map #[] 0)).alloc (.cells #[.bool false, .map (some (w.heap.size + 1))] 32)) false 0 [] := by
  have h1 : (w.alloc (.cells #[.bool false, .map none] 32)).heap.size = w.heap.size + 1 := by simp
  refine ⟨?_, ?_, ?_, ?_⟩
  · show (((w.heap.push _).push _).push _)[w.heap.size]? = _
    simp [Array.getElem?_push]; omega
  · have := OM.made (w.alloc (.cells #[.bool false, .map none] 32))
    rw [h1] at this
    exact this.of_heap (by show (((w.heap.push _).push _).push _)[w.heap.size + 1]? = ((w.heap.push _).push _)[w.heap.size + 1]?; rw [Array.getElem?_push, if_neg (by simp)])
  · show (((w.heap.push _).push _).push _)[w.heap.size + 1 + 1]? = _
    rw [Array.getElem?_push, if_pos (by simp)]
  · exact (((Below.refl _ _).alloc (Nat.le_refl _) _).alloc (by simp) _).alloc (by simp; omega) _

theorem mid_star {w wr : World} {all : Bool} {n : Nat} {K : List (List UInt8)} (h : Mid w wr all n K) : Mid w (wr.setCell ⟨w.heap.size + 1 + 1, 0, none⟩ (.bool true)) true (n + 1) K := by
  obtain ⟨h1, h2, h3, h4⟩ := h
  refine ⟨?_, ?_, two_set0 h3, h4.setCell (by simp; omega) _⟩
  · rw [Below.heap_setCell _ _ _ _ (by simp; omega)]; exact h1
  · have h2' : OM wr (w.heap.size + 1) (n + 1) K := World.ownsMap.mono h2 (Nat.le_succ _)
    exact h2'.of_heap (Below.heap_setCell _ _ _ _ (by simp))

theorem mid_put {w wr w1 : World} {all : Bool} {n : Nat} {K K' : List (List UInt8)} (h : Mid w wr all n K) (ho : OM w1 (w.heap.size + 1) (n + 1) K') (hg : wr.grownBy w1 (some (w.heap.size + 1))) : Mid w w1 all (n + 1) K' := by
  obtain ⟨h1, h2, h3, h4⟩ := h
  refine ⟨?_, ho, ?_, h4.grown hg (by have := lt_of_heap h1; omega) (fun k hk => by cases hk; omega)⟩
  · rw [hg.block _ (lt_of_heap h1) (by simp)]; exact h1
  · rw [hg.block _ (lt_of_heap h3) (by simp)]; exact h3

set_option maxRecDepth 100000 in
set_option maxHeartbeats 1000000 in
theorem newNameSet_any (a : Option Addr) (cap : Nat) (ss : List ByteArray) (w : World) (hr : RdS w a ss) (hl : ss.length ≤ 1048576) :
    Calls Try.prog 16 #[.slice a ss.length cap] w fun e w' => ∃ b n, e = .returned (.agg #[.bool (starIn ss), .map (some b)]) ∧ Below w.heap.size w w' ∧ w.heap.size ≤ b ∧ OM w' b n (keysOf ss) := by
  have HR : Hid (RdS w a ss) := hr
  clear hr
  have hmm := run_makeMap_hint (ss.length : Int)
  go_enter Try.func16, Try.ntmps16
  go_wp2
  go_loopw [12] (fun i wr => ∃ k : Nat, k ≤ ss.length ∧ i = .int .i64 k ∧ Hid (Mid w wr (starIn (ss.take k)) k (keysOf (ss.take k)))) (fun i _ => ss.length - (intOf i).toNat)
  case atStart => exact ⟨0, Nat.zero_le _, rfl, mid_start w⟩
  case round =>
    obtain ⟨k, hk, rfl, HM⟩ := hrel
    clear hmm
    obtain ⟨c0, c1, f0, f1⟩ := two_cells HM.out.2.2.1
    by_cases hlt : k < ss.length
    · obtain ⟨b, off, rfl, hc0⟩ := HR.out.1 k hlt
      have hc : wr.cell? ⟨b, off + k, none⟩ = some (.string (sat ss k)) := (HM.out.2.2.2.cell (lt_of_cell hc0)).trans hc0
      clear hc0
      cases hst : isStar (sat ss k) with
      | true =>
        have hst2 : ((sat ss k).toList == [42]) = true := by rw [star_form]; exact hst
        have HM2 : Hid (Mid w (wr.setCell ⟨w.heap.size + 1 + 1, 0, none⟩ (.bool true)) (starIn (ss.take (k + 1))) (k + 1) (keysOf (ss.take (k + 1)))) := by
          show Mid _ _ _ _ _
          rw [star_star ss k hlt hst, keys_star ss k hlt hst]; exact mid_star HM.out
        clear hst HM
        go_wp2
        go_roundw
        case rel => exact ⟨k + 1, by omega, by go_num, HM2⟩
        case measure => simp [intOf]; omega
      | false =>
        have hst2 : ((sat ss k).toList == [42]) = false := by rw [star_form]; exact hst
        obtain ⟨w1, hup, ho, hg⟩ := HM.out.2.1.put (by unfold maxLen; omega) (sat ss k) (HR.out.2 k)
        have HM2 : Hid (Mid w w1 (starIn (ss.take (k + 1))) (k + 1) (keysOf (ss.take (k + 1)))) := by
          show Mid _ _ _ _ _
          rw [star_other ss k hlt hst, keys_other ss k hlt hst]; exact mid_put HM.out ho hg
        clear hst HM ho hg
        go_wp2
        go_roundw
        case rel => exact ⟨k + 1, by omega, by go_num, HM2⟩
        case measure => simp [intOf]; omega
    · have hk2 : k = ss.length := by omega
      subst hk2
      obtain ⟨d0, d1, e0, e1⟩ := two_cells HM.out.1
      go_wp2
      have hkept : OM ((wr.setCell ⟨w.heap.size, 0, none⟩ (.bool (starIn ss))).setCell ⟨w.heap.size, 1, none⟩ (.map (some (w.heap.size + 1)))) (w.heap.size + 1) ss.length (keysOf ss) := by
        have h2 := HM.out.2.1
        rw [List.take_length] at h2
        refine h2.of_heap ?_
        rw [Below.heap_setCell _ _ _ _ (by simp), Below.heap_setCell _ _ _ _ (by simp)]
      have hbel := (HM.out.2.2.2.setCell (p := ⟨w.heap.size, 0, none⟩) (Nat.le_refl _) (.bool (starIn ss))).setCell (p := ⟨w.heap.size, 1, none⟩) (Nat.le_refl _) (.map (some (w.heap.size + 1)))
      exact bodyPost_ret (v := .agg #[.bool (starIn ss), .map (some (w.heap.size + 1))]) (by simp [results, Try.results16, go_sem, d0, d1]) rfl ⟨_, _, rfl, hbel, by omega, hkept⟩

set_option maxRecDepth 100000 in
set_option maxHeartbeats 1000000 in
theorem zzNewNameSet_any (a : Option Addr) (L cap : Nat) (ss : List ByteArray) (w : World) (hL : L = ss.length) (hr : RdS w a ss) (hl : ss.length ≤ 1048576) :
    Calls Try.prog 13 #[.slice a L cap] w fun e w' => ∃ b n, e = .returned (.tuple #[.bool (starIn ss), .map (some b)]) ∧ Below w.heap.size w w' ∧ w.heap.size ≤ b ∧ OM w' b n (keysOf ss) := by
  have HR : Hid (RdS w a ss) := hr
  subst hL
  clear hr
  go_enter Try.func13, Try.ntmps13
  go_wp2_with fail
  refine (newNameSet_any a cap ss _ HR.out hl).mono ?_
  rintro e w1 ⟨b, n, rfl, hb, hle, ho⟩
  have HB : Hid (Below w.heap.size w w1) := hb
  have HO : Hid (OM w1 b n (keysOf ss)) := ho
  clear hb ho
  go_wp2
  go_quiet (fail)
  go_wp2
  go_ret2
  refine ⟨b, n, rfl, below_drewN (HB.out.alloc HB.out.size _) _, hle, ?_⟩
  have h1 : OM (w1.alloc (Obj.cells #[Value.bool (starIn ss), Value.map (some b)] 32)) b n (keysOf ss) := World.ownsMap.alloc HO.out _
  exact h1.of_heap (by simp)
end Go.Proofs.Qxb6617892a
