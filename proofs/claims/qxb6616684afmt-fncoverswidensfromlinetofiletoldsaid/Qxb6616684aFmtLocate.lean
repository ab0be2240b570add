/-
  THE WALKS of 'locate'. By an AI agent.
-/
import Derived.Test.Qxb6616684aFmtTree
namespace Go.Proofs.Qxb6616684aFmt
open Go.RowKit
set_option linter.unusedVariables false

theorem compareKey_kept (a b c d : Int) (w : World) :
    Calls Tryf.prog 60 #[.agg #[.int .i64 a, .int .i64 b], .agg #[.int .i64 c, .int .i64 d]] w fun e w' => e = .returned (.int .i64 (cmp a b c d)) ∧ Kept [] w w' :=
  (compareKey_any a b c d w).mono fun e w' h => ⟨h.1, by rw [h.2]; exact ((Kept.refl _ _).alloc _).alloc _⟩
theorem compareKey_v (a b c d v : Int) (w : World) (hv : cmp a b c d = v) :
    Calls Tryf.prog 60 #[.agg #[.int .i64 a, .int .i64 b], .agg #[.int .i64 c, .int .i64 d]] w fun e w' => e = .returned (.int .i64 v) ∧ Kept [] w w' :=
  (compareKey_kept a b c d w).mono fun e w' h => ⟨by rw [← hv]; exact h.1, h.2⟩

/-- what the walk of 'locate' starts from: the key's own block -/
structure KeyAt (w0 w : World) (a b : Int) : Prop where
  kept : Kept [] w0 w
  key : w.heap[w0.heap.size]? = some (keyB a b)
theorem KeyAt.next {w0 w w' : World} {a b : Int} (h : KeyAt w0 w a b) (k : Kept [] w w') : KeyAt w0 w' a b := ⟨h.kept.trans k, k.at h.key (by simp)⟩

set_option maxRecDepth 100000 in
set_option maxHeartbeats 1000000 in
theorem locate_empty (s : Nat) (a b : Int) (w : World) (c7 : w.cell? ⟨s, 7, none⟩ = some (.pointer none)) :
    Calls Tryf.prog 48 #[.pointer (some ⟨s, 7, none⟩), .agg #[.int .i64 a, .int .i64 b]] w fun r w' => r = .returned (.tuple #[.pointer (some ⟨s, 7, none⟩), .pointer none]) ∧ Kept [] w w' := by
  have HK : Hid (KeyAt w (w.alloc (.cells #[.int .i64 a, .int .i64 b] 100)) a b) := ⟨(Kept.refl _ _).alloc _, alloc_new _ _⟩
  have d7 : (w.alloc (.cells #[.int .i64 a, .int .i64 b] 100)).cell? ⟨s, 7, none⟩ = some (.pointer none) := cell_alloc_old _ c7
  clear c7
  go_enter Tryf.func48, Tryf.ntmps48
  go_wp2_with fail
  generalize (w.alloc (.cells #[.int .i64 a, .int .i64 b] 100)) = w1 at *
  go_quiet (fail)
  go_wp2_with fail
  refine wp_loop_rounds 1 ?_
  rw [rounds_succ]
  go_wp2_with fail
  go_ret2
  exact ⟨rfl, HK.out.kept.drewN _⟩

set_option maxRecDepth 100000 in
set_option maxHeartbeats 1000000 in
/-- the key meets the root -/
theorem locate_root (s n : Nat) (pa le ri fi : Option Addr) (s1 e1 bal h a b : Int) (w : World) (c7 : w.cell? ⟨s, 7, none⟩ = some (.pointer (some ⟨n, 0, none⟩))) (N : w.heap[n]? = some (nodeB pa le ri fi s1 e1 bal h)) (hc : cmp a b s1 e1 = 0) :
    Calls Tryf.prog 48 #[.pointer (some ⟨s, 7, none⟩), .agg #[.int .i64 a, .int .i64 b]] w fun r w' => r = .returned (.tuple #[.pointer (some ⟨s, 7, none⟩), .pointer none]) ∧ Kept [] w w' := by
  have HK : Hid (KeyAt w (w.alloc (.cells #[.int .i64 a, .int .i64 b] 100)) a b) := ⟨(Kept.refl _ _).alloc _, alloc_new _ _⟩
  have d7 : (w.alloc (.cells #[.int .i64 a, .int .i64 b] 100)).cell? ⟨s, 7, none⟩ = some (.pointer (some ⟨n, 0, none⟩)) := cell_alloc_old _ c7
  have HN : Hid ((w.alloc (.cells #[.int .i64 a, .int .i64 b] 100)).heap[n]? = some (nodeB pa le ri fi s1 e1 bal h)) := alloc_old _ N
  clear c7 N
  have hcz : Hid (cmp a b s1 e1 = 0) := hc
  clear hc
  go_enter Tryf.func48, Tryf.ntmps48
  go_wp2_with fail
  generalize (w.alloc (.cells #[.int .i64 a, .int .i64 b] 100)) = w1 at *
  have k0 := cell_at HK.out.key 0
  have k1 := cell_at HK.out.key 1
  simp at k0 k1
  obtain ⟨n0, n1, n2, n3, n4, n5, n6, n7, z1, z2, z6, z7⟩ := nodeB_cells HN.out
  clear n0 n1 n2 n3 n6 n7 z1 z2 z6 z7
  go_quiet (fail)
  go_wp2_with fail
  refine wp_loop_rounds 1 ?_
  rw [rounds_succ]
  go_wp2_with fail
  go_region_with (go_at_call 60; refine (compareKey_v a b s1 e1 0 _ hcz.out).mono ?_; rintro e w2 ⟨rfl, hk2⟩)
  all_goals
    go_wp2_with fail
    go_ret2
    exact ⟨rfl, (HK.out.kept.drewN (nq + 1)).trans hk2⟩

set_option maxRecDepth 100000 in
set_option maxHeartbeats 1000000 in
/-- the key lies ahead of the root, that has nothing to its left -/
theorem locate_left (s n : Nat) (pa ri fi : Option Addr) (s1 e1 bal h a b : Int) (w : World) (c7 : w.cell? ⟨s, 7, none⟩ = some (.pointer (some ⟨n, 0, none⟩))) (N : w.heap[n]? = some (nodeB pa none ri fi s1 e1 bal h)) (hc : cmp a b s1 e1 = -1) :
    Calls Tryf.prog 48 #[.pointer (some ⟨s, 7, none⟩), .agg #[.int .i64 a, .int .i64 b]] w fun r w' => r = .returned (.tuple #[.pointer (some ⟨n, 1, none⟩), .pointer (some ⟨n, 0, none⟩)]) ∧ Kept [] w w' := by
  have HK : Hid (KeyAt w (w.alloc (.cells #[.int .i64 a, .int .i64 b] 100)) a b) := ⟨(Kept.refl _ _).alloc _, alloc_new _ _⟩
  have d7 : (w.alloc (.cells #[.int .i64 a, .int .i64 b] 100)).cell? ⟨s, 7, none⟩ = some (.pointer (some ⟨n, 0, none⟩)) := cell_alloc_old _ c7
  have HN : Hid ((w.alloc (.cells #[.int .i64 a, .int .i64 b] 100)).heap[n]? = some (nodeB pa none ri fi s1 e1 bal h)) := alloc_old _ N
  clear c7 N
  have hcz : Hid (cmp a b s1 e1 = -1) := hc
  clear hc
  go_enter Tryf.func48, Tryf.ntmps48
  go_wp2_with fail
  generalize (w.alloc (.cells #[.int .i64 a, .int .i64 b] 100)) = w1 at *
  have k0 := cell_at HK.out.key 0
  have k1 := cell_at HK.out.key 1
  simp at k0 k1
  obtain ⟨n0, n1, n2, n3, n4, n5, n6, n7, z1, z2, z6, z7⟩ := nodeB_cells HN.out
  clear n0 n1 n2 n3 n6 n7 z1 z2 z6 z7
  go_quiet (fail)
  go_wp2_with fail
  refine wp_loop_rounds 2 ?_
  rw [rounds_succ]
  go_wp2_with fail
  go_region_with (go_at_call 60; refine (compareKey_v a b s1 e1 (-1) _ hcz.out).mono ?_; rintro e w2 ⟨rfl, hk2⟩)
  all_goals
    have HK2 : Hid (Kept [] w w2) := (HK.out.kept.drewN (nq + 1)).trans hk2
    have HN2 : Hid (w2.heap[n]? = some (nodeB pa none ri fi s1 e1 bal h)) := hk2.at (by exact HN.out) (by simp)
    clear hk2
    obtain ⟨q0, q1, q2, q3, q4, q5, q6, q7, y1, y2, y6, y7⟩ := nodeB_cells HN2.out
    clear q0 q2 q3 q4 q5 q6 q7 y1 y2 y6 y7
    clear k0 k1 n4 n5
    go_wp2_with fail
    go_quiet (fail)
    go_wp2_with fail
    rw [rounds_succ]
    go_wp2_with fail
    go_ret2
    exact ⟨rfl, HK2.out.drewN _⟩

set_option maxRecDepth 100000 in
set_option maxHeartbeats 1000000 in
/-- the key lies behind the root, that has nothing to its right -/
theorem locate_right (s n : Nat) (pa le fi : Option Addr) (s1 e1 bal h a b : Int) (w : World) (c7 : w.cell? ⟨s, 7, none⟩ = some (.pointer (some ⟨n, 0, none⟩))) (N : w.heap[n]? = some (nodeB pa le none fi s1 e1 bal h)) (hc : cmp a b s1 e1 = 1) :
    Calls Tryf.prog 48 #[.pointer (some ⟨s, 7, none⟩), .agg #[.int .i64 a, .int .i64 b]] w fun r w' => r = .returned (.tuple #[.pointer (some ⟨n, 2, none⟩), .pointer (some ⟨n, 0, none⟩)]) ∧ Kept [] w w' := by
  have HK : Hid (KeyAt w (w.alloc (.cells #[.int .i64 a, .int .i64 b] 100)) a b) := ⟨(Kept.refl _ _).alloc _, alloc_new _ _⟩
  have d7 : (w.alloc (.cells #[.int .i64 a, .int .i64 b] 100)).cell? ⟨s, 7, none⟩ = some (.pointer (some ⟨n, 0, none⟩)) := cell_alloc_old _ c7
  have HN : Hid ((w.alloc (.cells #[.int .i64 a, .int .i64 b] 100)).heap[n]? = some (nodeB pa le none fi s1 e1 bal h)) := alloc_old _ N
  clear c7 N
  have hcz : Hid (cmp a b s1 e1 = 1) := hc
  clear hc
  go_enter Tryf.func48, Tryf.ntmps48
  go_wp2_with fail
  generalize (w.alloc (.cells #[.int .i64 a, .int .i64 b] 100)) = w1 at *
  have k0 := cell_at HK.out.key 0
  have k1 := cell_at HK.out.key 1
  simp at k0 k1
  obtain ⟨n0, n1, n2, n3, n4, n5, n6, n7, z1, z2, z6, z7⟩ := nodeB_cells HN.out
  clear n0 n1 n2 n3 n6 n7 z1 z2 z6 z7
  go_quiet (fail)
  go_wp2_with fail
  refine wp_loop_rounds 2 ?_
  rw [rounds_succ]
  go_wp2_with fail
  go_region_with (go_at_call 60; refine (compareKey_v a b s1 e1 1 _ hcz.out).mono ?_; rintro e w2 ⟨rfl, hk2⟩)
  all_goals
    have HK2 : Hid (Kept [] w w2) := (HK.out.kept.drewN (nq + 1)).trans hk2
    have HN2 : Hid (w2.heap[n]? = some (nodeB pa le none fi s1 e1 bal h)) := hk2.at (by exact HN.out) (by simp)
    clear hk2
    obtain ⟨q0, q1, q2, q3, q4, q5, q6, q7, y1, y2, y6, y7⟩ := nodeB_cells HN2.out
    clear q0 q1 q3 q4 q5 q6 q7 y1 y2 y6 y7
    clear k0 k1 n4 n5
    go_wp2_with fail
    go_quiet (fail)
    go_wp2_with fail
    rw [rounds_succ]
    go_wp2_with fail
    go_ret2
    exact ⟨rfl, HK2.out.drewN _⟩

set_option maxRecDepth 100000 in
set_option maxHeartbeats 2000000 in
/-- the key lies behind the root and behind the node to its right -/
theorem locate_right2 (s n m : Nat) (pa le fi pa' le' fi' : Option Addr) (s1 e1 bal h s2 e2 bal' h' a b : Int) (w : World) (c7 : w.cell? ⟨s, 7, none⟩ = some (.pointer (some ⟨n, 0, none⟩))) (N : w.heap[n]? = some (nodeB pa le (some ⟨m, 0, none⟩) fi s1 e1 bal h))
    (M : w.heap[m]? = some (nodeB pa' le' none fi' s2 e2 bal' h')) (hc : cmp a b s1 e1 = 1) (hc' : cmp a b s2 e2 = 1) :
    Calls Tryf.prog 48 #[.pointer (some ⟨s, 7, none⟩), .agg #[.int .i64 a, .int .i64 b]] w fun r w' => r = .returned (.tuple #[.pointer (some ⟨m, 2, none⟩), .pointer (some ⟨m, 0, none⟩)]) ∧ Kept [] w w' := by
  have HK : Hid (KeyAt w (w.alloc (.cells #[.int .i64 a, .int .i64 b] 100)) a b) := ⟨(Kept.refl _ _).alloc _, alloc_new _ _⟩
  have d7 : (w.alloc (.cells #[.int .i64 a, .int .i64 b] 100)).cell? ⟨s, 7, none⟩ = some (.pointer (some ⟨n, 0, none⟩)) := cell_alloc_old _ c7
  have HN : Hid ((w.alloc (.cells #[.int .i64 a, .int .i64 b] 100)).heap[n]? = some (nodeB pa le (some ⟨m, 0, none⟩) fi s1 e1 bal h)) := alloc_old _ N
  have HM : Hid ((w.alloc (.cells #[.int .i64 a, .int .i64 b] 100)).heap[m]? = some (nodeB pa' le' none fi' s2 e2 bal' h')) := alloc_old _ M
  clear c7 N M
  have hcz : Hid (cmp a b s1 e1 = 1) := hc
  have hcz' : Hid (cmp a b s2 e2 = 1) := hc'
  clear hc hc'
  go_enter Tryf.func48, Tryf.ntmps48
  go_wp2_with fail
  generalize (w.alloc (.cells #[.int .i64 a, .int .i64 b] 100)) = w1 at *
  have k0 := cell_at HK.out.key 0
  have k1 := cell_at HK.out.key 1
  simp at k0 k1
  obtain ⟨n0, n1, n2, n3, n4, n5, n6, n7, z1, z2, z6, z7⟩ := nodeB_cells HN.out
  clear n0 n1 n2 n3 n6 n7 z1 z2 z6 z7
  go_quiet (fail)
  go_wp2_with fail
  refine wp_loop_rounds 3 ?_
  rw [rounds_succ]
  go_wp2_with fail
  go_region_with (go_at_call 60; refine (compareKey_v a b s1 e1 1 _ hcz.out).mono ?_; rintro e w2 ⟨rfl, hk2⟩)
  all_goals
    have HK2 : Hid (KeyAt w w2 a b) := HK.out.next (((Kept.refl _ _).drewN (nq + 1)).trans hk2)
    have HN2 : Hid (w2.heap[n]? = some (nodeB pa le (some ⟨m, 0, none⟩) fi s1 e1 bal h)) := hk2.at (by exact HN.out) (by simp)
    have HM2 : Hid (w2.heap[m]? = some (nodeB pa' le' none fi' s2 e2 bal' h')) := hk2.at (by exact HM.out) (by simp)
    clear hk2
    clear k0 k1 n4 n5
    have k0 := cell_at HK2.out.key 0
    have k1 := cell_at HK2.out.key 1
    simp at k0 k1
    have q2 := (nodeB_cells HN2.out).c2
    have r4 := (nodeB_cells HM2.out).c4
    have r5 := (nodeB_cells HM2.out).c5
    go_wp2_with fail
    go_quiet (fail)
    go_wp2_with fail
    rw [rounds_succ]
    go_wp2_with fail
    go_region_with (go_at_call 60; refine (compareKey_v a b s2 e2 1 _ hcz'.out).mono ?_; rintro e w3 ⟨rfl, hk3⟩)
  all_goals
    have HK3 : Hid (Kept [] w w3) := (HK2.out.kept.drewN _).trans hk3
    have HM3 : Hid (w3.heap[m]? = some (nodeB pa' le' none fi' s2 e2 bal' h')) := hk3.at (by exact HM2.out) (by simp)
    clear hk3
    clear k0 k1 q2 r4 r5
    have q2 := (nodeB_cells HM3.out).c2
    go_wp2_with fail
    go_quiet (fail)
    go_wp2_with fail
    rw [rounds_succ]
    go_wp2_with fail
    go_ret2
    exact ⟨rfl, HK3.out.drewN _⟩
end Go.Proofs.Qxb6616684aFmt
