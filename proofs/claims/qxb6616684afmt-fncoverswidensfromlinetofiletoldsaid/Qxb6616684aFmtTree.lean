/-
  THE WALKS of the tree of files: 'update', 'rebalanceUp', 'locate'. By an AI agent.
-/
import Derived.Test.Qxb6616684aFmtAtom
namespace Go.Proofs.Qxb6616684aFmt
open Go.RowKit
set_option linter.unusedVariables false

structure NodeCells (w : World) (n : Nat) (pa le ri fi : Option Addr) (s e bal h : Int) : Prop where
  c0 : w.cell? ⟨n, 0, none⟩ = some (.pointer pa)
  c1 : w.cell? ⟨n, 1, none⟩ = some (.pointer le)
  c2 : w.cell? ⟨n, 2, none⟩ = some (.pointer ri)
  c3 : w.cell? ⟨n, 3, none⟩ = some (.pointer fi)
  c4 : w.cell? ⟨n, 4, none⟩ = some (.int .i64 s)
  c5 : w.cell? ⟨n, 5, none⟩ = some (.int .i64 e)
  c6 : w.cell? ⟨n, 6, none⟩ = some (.int .i32 bal)
  c7 : w.cell? ⟨n, 7, none⟩ = some (.int .i32 h)
  z1 : w.frozen? ⟨n, 1, none⟩ = false
  z2 : w.frozen? ⟨n, 2, none⟩ = false
  z6 : w.frozen? ⟨n, 6, none⟩ = false
  z7 : w.frozen? ⟨n, 7, none⟩ = false
theorem nodeB_cells {w : World} {n : Nat} {pa le ri fi : Option Addr} {s e bal h : Int} (H : w.heap[n]? = some (nodeB pa le ri fi s e bal h)) : NodeCells w n pa le ri fi s e bal h :=
  ⟨cell_at H 0, cell_at H 1, cell_at H 2, cell_at H 3, cell_at H 4, cell_at H 5, cell_at H 6, cell_at H 7, free_at H 1, free_at H 2, free_at H 6, free_at H 7⟩

set_option maxRecDepth 100000 in
set_option maxHeartbeats 1000000 in
theorem update_leaf (n : Nat) (pa fi : Option Addr) (s e bal h : Int) (w : World) (H : w.heap[n]? = some (nodeB pa none none fi s e bal h)) :
    Calls Tryf.prog 69 #[.pointer (some ⟨n, 0, none⟩)] w fun r w' => r = .returned (.tuple #[]) ∧ w'.heap[n]? = some (nodeB pa none none fi s e 0 0) ∧ Kept [n] w w' := by
  have HH : Hid (w.heap[n]? = some (nodeB pa none none fi s e bal h)) := H
  obtain ⟨c0, c1, c2, c3, c4, c5, c6, c7, z1, z2, z6, z7⟩ := nodeB_cells H
  clear H
  go_enter Tryf.func69, Tryf.ntmps69
  go_wp2_with fail
  go_quiet ((go_at_call 83; exact Calls.quiet_of_same (safeHeight_nil _)))
  go_wp2_with fail
  go_end0
  refine ⟨rfl, ?_, ?_⟩
  · exact set_at (set_at HH.out rfl) rfl
  · exact (((Kept.refl _ _).drewN _).setCell (.inl (by simp)) _).setCell (.inl (by simp)) _

set_option maxRecDepth 100000 in
set_option maxHeartbeats 1000000 in
theorem update_right (n m : Nat) (pa fi : Option Addr) (s e bal h : Int) (w : World) (H : w.heap[n]? = some (nodeB pa none (some ⟨m, 0, none⟩) fi s e bal h)) (m7 : w.cell? ⟨m, 7, none⟩ = some (.int .i32 0)) :
    Calls Tryf.prog 69 #[.pointer (some ⟨n, 0, none⟩)] w fun r w' => r = .returned (.tuple #[]) ∧ w'.heap[n]? = some (nodeB pa none (some ⟨m, 0, none⟩) fi s e 1 1) ∧ Kept [n] w w' := by
  have HH : Hid (w.heap[n]? = some (nodeB pa none (some ⟨m, 0, none⟩) fi s e bal h)) := H
  obtain ⟨c0, c1, c2, c3, c4, c5, c6, c7, z1, z2, z6, z7⟩ := nodeB_cells H
  clear H
  go_enter Tryf.func69, Tryf.ntmps69
  go_wp2_with fail
  go_quiet ((go_at_call 83; first | exact Calls.quiet_of_same (safeHeight_nil _) | exact Calls.quiet_of_same (safeHeight_at m 0 _ (by exact m7))))
  go_wp2_with fail
  go_end0
  refine ⟨rfl, ?_, ?_⟩
  · exact set_at (set_at HH.out rfl) rfl
  · exact (((Kept.refl _ _).drewN _).setCell (.inl (by simp)) _).setCell (.inl (by simp)) _

set_option maxRecDepth 100000 in
set_option maxHeartbeats 1000000 in
theorem rebalance_one (t : Option Addr) (n : Nat) (fi : Option Addr) (s e : Int) (w : World) (H : w.heap[n]? = some (nodeB none none none fi s e 0 (-1))) :
    Calls Tryf.prog 61 #[.pointer t, .pointer (some ⟨n, 0, none⟩)] w fun r w' => r = .returned (.tuple #[]) ∧ w'.heap[n]? = some (nodeB none none none fi s e 0 0) ∧ Kept [n] w w' := by
  have HH : Hid (w.heap[n]? = some (nodeB none none none fi s e 0 (-1))) := H
  obtain ⟨c0, c1, c2, c3, c4, c5, c6, c7, z1, z2, z6, z7⟩ := nodeB_cells H
  clear H
  go_enter Tryf.func61, Tryf.ntmps61
  go_wp2_with fail
  refine wp_loop_rounds 2 ?_
  rw [rounds_succ]
  go_wp2_with fail
  refine (update_leaf n none fi s e 0 (-1) _ HH.out).mono ?_
  rintro r w1 ⟨rfl, h1, k1⟩
  have H1 : Hid (w1.heap[n]? = some (nodeB none none none fi s e 0 0) ∧ Kept [n] w w1) := ⟨h1, k1⟩
  clear c0 c1 c2 c3 c4 c5 c6 c7 z1 z2 z6 z7 k1
  obtain ⟨c0, c1, c2, c3, c4, c5, c6, c7, z1, z2, z6, z7⟩ := nodeB_cells h1
  clear h1
  go_wp2_with fail
  rw [rounds_succ]
  go_wp2_with fail
  go_end0
  exact ⟨rfl, H1.out⟩

set_option maxRecDepth 100000 in
set_option maxHeartbeats 1000000 in
theorem rebalance_two (t : Option Addr) (n m : Nat) (fn fm : Option Addr) (s e s' e' : Int) (w : World) (hne : n ≠ m) (H : w.heap[n]? = some (nodeB none none (some ⟨m, 0, none⟩) fn s e 0 0))
    (M : w.heap[m]? = some (nodeB (some ⟨n, 0, none⟩) none none fm s' e' 0 (-1))) :
    Calls Tryf.prog 61 #[.pointer t, .pointer (some ⟨m, 0, none⟩)] w fun r w' => r = .returned (.tuple #[]) ∧ w'.heap[n]? = some (nodeB none none (some ⟨m, 0, none⟩) fn s e 1 1) ∧ w'.heap[m]? = some (nodeB (some ⟨n, 0, none⟩) none none fm s' e' 0 0) ∧ Kept [n, m] w w' := by
  have HH : Hid (w.heap[n]? = some (nodeB none none (some ⟨m, 0, none⟩) fn s e 0 0)) := H
  have HM : Hid (w.heap[m]? = some (nodeB (some ⟨n, 0, none⟩) none none fm s' e' 0 (-1))) := M
  obtain ⟨c0, c1, c2, c3, c4, c5, c6, c7, z1, z2, z6, z7⟩ := nodeB_cells M
  clear H M
  go_enter Tryf.func61, Tryf.ntmps61
  go_wp2_with fail
  refine wp_loop_rounds 3 ?_
  rw [rounds_succ]
  go_wp2_with fail
  refine (update_leaf m (some ⟨n, 0, none⟩) fm s' e' 0 (-1) _ HM.out).mono ?_
  rintro r w1 ⟨rfl, h1, k1⟩
  have H1 : Hid (w1.heap[m]? = some (nodeB (some ⟨n, 0, none⟩) none none fm s' e' 0 0) ∧ Kept [n, m] w w1) := ⟨h1, k1.mono (by simp)⟩
  have N1 : Hid (w1.heap[n]? = some (nodeB none none (some ⟨m, 0, none⟩) fn s e 0 0)) := k1.at HH.out (by simp [hne])
  clear c0 c1 c2 c3 c4 c5 c6 c7 z1 z2 z6 z7 k1
  obtain ⟨c0, c1, c2, c3, c4, c5, c6, c7, z1, z2, z6, z7⟩ := nodeB_cells h1
  obtain ⟨d0, d1, d2, d3, d4, d5, d6, d7, y1, y2, y6, y7⟩ := nodeB_cells N1.out
  clear h1
  go_wp2_with fail
  rw [rounds_succ]
  go_wp2_with fail
  refine (update_right n m none fn s e 0 0 _ N1.out (by exact c7)).mono ?_
  rintro r w2 ⟨rfl, h2, k2⟩
  have H2 : Hid (w2.heap[n]? = some (nodeB none none (some ⟨m, 0, none⟩) fn s e 1 1) ∧ w2.heap[m]? = some (nodeB (some ⟨n, 0, none⟩) none none fm s' e' 0 0) ∧ Kept [n, m] w w2) := ⟨h2, k2.at H1.out.1 (by simp; omega), H1.out.2.trans (k2.mono (by simp))⟩
  clear c0 c1 c2 c3 c4 c5 c6 c7 z1 z2 z6 z7 k2
  clear d0 d1 d2 d3 d4 d5 d6 d7 y1 y2 y6 y7
  obtain ⟨c0, c1, c2, c3, c4, c5, c6, c7, z1, z2, z6, z7⟩ := nodeB_cells h2
  clear h2
  go_wp2_with fail
  rw [rounds_succ]
  go_wp2_with fail
  go_end0
  exact ⟨rfl, H2.out⟩
end Go.Proofs.Qxb6616684aFmt
