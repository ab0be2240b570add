/-
  THE WALKS of 'set', 'add' on the tree of files. By an AI agent.
-/
import Derived.Test.Qxb6616684aFmtLocate
namespace Go.Proofs.Qxb6616684aFmt
open Go.RowKit
set_option linter.unusedVariables false

set_option maxRecDepth 100000 in
set_option maxHeartbeats 1000000 in
theorem set_one (s f : Nat) (nm : ByteArray) (base size wr rc fb : Int) (lines : Value) (last : Option Addr) (w : World) (S : w.heap[s]? = some (fsB wr rc fb none last)) (F : w.heap[f]? = some (fileB nm base size lines))
    (h0 : 0 ≤ size) (h2 : size ≤ 1048576) (hb0 : 0 ≤ base) (hb1 : base ≤ 1048576) :
    Calls Tryf.prog 50 #[.pointer (some ⟨s, 7, none⟩), .pointer (some ⟨f, 0, none⟩), .pointer (some ⟨s, 7, none⟩), .pointer none] w fun r w' => r = .returned (.tuple #[]) ∧
      ∃ n, w.heap.size ≤ n ∧ w'.heap[n]? = some (nodeB none none none (some ⟨f, 0, none⟩) base (base + size) 0 0) ∧ w'.heap[s]? = some (fsB wr rc fb (some ⟨n, 0, none⟩) last) ∧ Kept [s] w w' := by
  have HS : Hid (w.heap[s]? = some (fsB wr rc fb none last)) := S
  have HF : Hid (w.heap[f]? = some (fileB nm base size lines)) := F
  have c7 := cell_at S 7
  simp at c7
  have f1 := (fileB_cells F).c1
  have f2 := (fileB_cells F).c2
  clear S F
  go_enter Tryf.func50, Tryf.ntmps50
  go_wp2_with fail
  refine (key_any f base size _ f1 f2 h0 h2 hb0 hb1).mono ?_
  rintro e w1 ⟨rfl, k1⟩
  have HK : Hid (Kept [] w w1) := k1
  have HS1 : Hid (w1.heap[s]? = some (fsB wr rc fb none last)) := k1.at HS.out (by simp)
  clear c7 f1 f2 k1
  have c7 := cell_at (alloc_old (.cells #[.pointer none, .pointer none, .pointer none, .pointer (some ⟨f, 0, none⟩), .int .i64 base, .int .i64 (base + size), .int .i32 0, .int .i32 (-1)] 104) HS1.out) 7
  have z7 := free_at (alloc_old (.cells #[.pointer none, .pointer none, .pointer none, .pointer (some ⟨f, 0, none⟩), .int .i64 base, .int .i64 (base + size), .int .i32 0, .int .i32 (-1)] 104) HS1.out) 7
  simp at c7
  go_wp2_with fail
  have hsz := HK.out.size
  have hlt := lt_of_heap HS1.out
  have hn : ((w1.alloc (.cells #[.pointer none, .pointer none, .pointer none, .pointer (some ⟨f, 0, none⟩), .int .i64 base, .int .i64 (base + size), .int .i32 0, .int .i32 (-1)] 104)).setCell ⟨s, 7, none⟩ (.pointer (some ⟨w1.heap.size, 0, none⟩))).heap[w1.heap.size]? = some (nodeB none none none (some ⟨f, 0, none⟩) base (base + size) 0 (-1)) := set_ne (alloc_new _ _) (by omega)
  have hs : ((w1.alloc (.cells #[.pointer none, .pointer none, .pointer none, .pointer (some ⟨f, 0, none⟩), .int .i64 base, .int .i64 (base + size), .int .i32 0, .int .i32 (-1)] 104)).setCell ⟨s, 7, none⟩ (.pointer (some ⟨w1.heap.size, 0, none⟩))).heap[s]? = some (fsB wr rc fb (some ⟨w1.heap.size, 0, none⟩) last) := set_at (alloc_old _ HS1.out) rfl
  refine (rebalance_one _ w1.heap.size _ base (base + size) _ hn).mono ?_
  rintro e w2 ⟨rfl, hn2, k2⟩
  have HX : Hid (∃ n, w.heap.size ≤ n ∧ w2.heap[n]? = some (nodeB none none none (some ⟨f, 0, none⟩) base (base + size) 0 0) ∧ w2.heap[s]? = some (fsB wr rc fb (some ⟨n, 0, none⟩) last) ∧ Kept [s] w w2) :=
    ⟨w1.heap.size, hsz, hn2, k2.at hs (by simp; omega), (((HK.out.mono (by simp)).alloc _).setCell (.inl (by simp)) _).fresh k2 (by simp; omega)⟩
  clear hn hs hn2 k2 c7 z7
  go_wp2_with fail
  go_end0
  exact ⟨rfl, HX.out⟩

set_option maxRecDepth 100000 in
set_option maxHeartbeats 1000000 in
theorem set_two (t : Option Addr) (n f : Nat) (nm : ByteArray) (base size s1 e1 : Int) (lines : Value) (f1 : Option Addr) (w : World) (N : w.heap[n]? = some (nodeB none none none f1 s1 e1 0 0)) (F : w.heap[f]? = some (fileB nm base size lines))
    (h0 : 0 ≤ size) (h2 : size ≤ 1048576) (hb0 : 0 ≤ base) (hb1 : base ≤ 1048576) :
    Calls Tryf.prog 50 #[.pointer t, .pointer (some ⟨f, 0, none⟩), .pointer (some ⟨n, 2, none⟩), .pointer (some ⟨n, 0, none⟩)] w fun r w' => r = .returned (.tuple #[]) ∧
      ∃ m, w.heap.size ≤ m ∧ w'.heap[m]? = some (nodeB (some ⟨n, 0, none⟩) none none (some ⟨f, 0, none⟩) base (base + size) 0 0) ∧ w'.heap[n]? = some (nodeB none none (some ⟨m, 0, none⟩) f1 s1 e1 1 1) ∧ Kept [n] w w' := by
  have HN : Hid (w.heap[n]? = some (nodeB none none none f1 s1 e1 0 0)) := N
  have HF : Hid (w.heap[f]? = some (fileB nm base size lines)) := F
  have c2 := (nodeB_cells N).c2
  have g1 := (fileB_cells F).c1
  have g2 := (fileB_cells F).c2
  clear N F
  go_enter Tryf.func50, Tryf.ntmps50
  go_wp2_with fail
  refine (key_any f base size _ g1 g2 h0 h2 hb0 hb1).mono ?_
  rintro e w1 ⟨rfl, k1⟩
  have HK : Hid (Kept [] w w1) := k1
  have HN1 : Hid (w1.heap[n]? = some (nodeB none none none f1 s1 e1 0 0)) := k1.at HN.out (by simp)
  clear c2 g1 g2 k1
  have c2 := cell_at (alloc_old (.cells #[.pointer (some ⟨n, 0, none⟩), .pointer none, .pointer none, .pointer (some ⟨f, 0, none⟩), .int .i64 base, .int .i64 (base + size), .int .i32 0, .int .i32 (-1)] 104) HN1.out) 2
  have z2 := free_at (alloc_old (.cells #[.pointer (some ⟨n, 0, none⟩), .pointer none, .pointer none, .pointer (some ⟨f, 0, none⟩), .int .i64 base, .int .i64 (base + size), .int .i32 0, .int .i32 (-1)] 104) HN1.out) 2
  simp at c2
  go_wp2_with fail
  have hsz := HK.out.size
  have hlt := lt_of_heap HN1.out
  have hm : ((w1.alloc (.cells #[.pointer (some ⟨n, 0, none⟩), .pointer none, .pointer none, .pointer (some ⟨f, 0, none⟩), .int .i64 base, .int .i64 (base + size), .int .i32 0, .int .i32 (-1)] 104)).setCell ⟨n, 2, none⟩ (.pointer (some ⟨w1.heap.size, 0, none⟩))).heap[w1.heap.size]? = some (nodeB (some ⟨n, 0, none⟩) none none (some ⟨f, 0, none⟩) base (base + size) 0 (-1)) := set_ne (alloc_new _ _) (by omega)
  have hn : ((w1.alloc (.cells #[.pointer (some ⟨n, 0, none⟩), .pointer none, .pointer none, .pointer (some ⟨f, 0, none⟩), .int .i64 base, .int .i64 (base + size), .int .i32 0, .int .i32 (-1)] 104)).setCell ⟨n, 2, none⟩ (.pointer (some ⟨w1.heap.size, 0, none⟩))).heap[n]? = some (nodeB none none (some ⟨w1.heap.size, 0, none⟩) f1 s1 e1 0 0) := set_at (alloc_old _ HN1.out) rfl
  refine (rebalance_two _ n w1.heap.size f1 _ s1 e1 base (base + size) _ (by omega) hn hm).mono ?_
  rintro e w2 ⟨rfl, hn2, hm2, k2⟩
  have HX : Hid (∃ m, w.heap.size ≤ m ∧ w2.heap[m]? = some (nodeB (some ⟨n, 0, none⟩) none none (some ⟨f, 0, none⟩) base (base + size) 0 0) ∧ w2.heap[n]? = some (nodeB none none (some ⟨m, 0, none⟩) f1 s1 e1 1 1) ∧ Kept [n] w w2) :=
    ⟨w1.heap.size, hsz, hm2, hn2, (((HK.out.mono (by simp)).alloc _).setCell (.inl (by simp)) _).fresh k2 (by simp; omega)⟩
  clear hn hm hn2 hm2 k2 c2 z2
  go_wp2_with fail
  go_end0
  exact ⟨rfl, HX.out⟩

set_option maxRecDepth 100000 in
set_option maxHeartbeats 1000000 in
theorem add_one (s f : Nat) (nm : ByteArray) (base size wr rc fb : Int) (lines : Value) (last : Option Addr) (w : World) (S : w.heap[s]? = some (fsB wr rc fb none last)) (F : w.heap[f]? = some (fileB nm base size lines))
    (h0 : 0 ≤ size) (h2 : size ≤ 1048576) (hb0 : 0 ≤ base) (hb1 : base ≤ 1048576) :
    Calls Tryf.prog 28 #[.pointer (some ⟨s, 7, none⟩), .pointer (some ⟨f, 0, none⟩)] w fun r w' => r = .returned (.tuple #[]) ∧
      ∃ n, w.heap.size ≤ n ∧ w'.heap[n]? = some (nodeB none none none (some ⟨f, 0, none⟩) base (base + size) 0 0) ∧ w'.heap[s]? = some (fsB wr rc fb (some ⟨n, 0, none⟩) last) ∧ Kept [s] w w' := by
  have HS : Hid (w.heap[s]? = some (fsB wr rc fb none last)) := S
  have HF : Hid (w.heap[f]? = some (fileB nm base size lines)) := F
  clear S F
  go_enter Tryf.func28, Tryf.ntmps28
  go_wp2_with fail
  refine (key_any f base size _ (fileB_cells HF.out).c1 (fileB_cells HF.out).c2 h0 h2 hb0 hb1).mono ?_
  rintro e w1 ⟨rfl, k1⟩
  go_wp2_with fail
  refine (locate_empty s base (base + size) w1 (cell_at (k1.at HS.out (by simp)) 7)).mono ?_
  rintro e w2 ⟨rfl, k2⟩
  have HK2 : Hid (Kept [] w w2) := k1.trans k2
  have HS2 : Hid (w2.heap[s]? = some (fsB wr rc fb none last)) := HK2.out.at HS.out (by simp)
  have HF2 : Hid (w2.heap[f]? = some (fileB nm base size lines)) := HK2.out.at HF.out (by simp)
  clear k1 k2
  have c7 := cell_at HS2.out 7
  simp at c7
  go_wp2_with fail
  refine (set_one s f nm base size wr rc fb lines last _ HS2.out HF2.out h0 h2 hb0 hb1).mono ?_
  rintro e w3 ⟨rfl, n, hn, hx, hs, k3⟩
  have HX : Hid (∃ n, w.heap.size ≤ n ∧ w3.heap[n]? = some (nodeB none none none (some ⟨f, 0, none⟩) base (base + size) 0 0) ∧ w3.heap[s]? = some (fsB wr rc fb (some ⟨n, 0, none⟩) last) ∧ Kept [s] w w3) :=
    ⟨n, Nat.le_trans HK2.out.size hn, hx, hs, (HK2.out.mono (by simp)).trans k3⟩
  clear hn hx hs k3 c7
  go_wp2_with fail
  refine bodyPost_ret (results_none rfl _ _ _) rfl ?_
  exact ⟨rfl, HX.out⟩

set_option maxRecDepth 100000 in
set_option maxHeartbeats 1000000 in
theorem add_two (s f n : Nat) (nm : ByteArray) (base size wr rc fb s1 e1 : Int) (lines : Value) (last f1 : Option Addr) (w : World) (S : w.heap[s]? = some (fsB wr rc fb (some ⟨n, 0, none⟩) last)) (F : w.heap[f]? = some (fileB nm base size lines))
    (N : w.heap[n]? = some (nodeB none none none f1 s1 e1 0 0)) (h0 : 0 ≤ size) (h2 : size ≤ 1048576) (hb0 : 0 ≤ base) (hb1 : base ≤ 1048576) (hs1 : s1 ≤ base) (he1 : e1 < base) :
    Calls Tryf.prog 28 #[.pointer (some ⟨s, 7, none⟩), .pointer (some ⟨f, 0, none⟩)] w fun r w' => r = .returned (.tuple #[]) ∧
      ∃ m, w.heap.size ≤ m ∧ w'.heap[m]? = some (nodeB (some ⟨n, 0, none⟩) none none (some ⟨f, 0, none⟩) base (base + size) 0 0) ∧ w'.heap[n]? = some (nodeB none none (some ⟨m, 0, none⟩) f1 s1 e1 1 1) ∧ Kept [n] w w' := by
  have HS : Hid (w.heap[s]? = some (fsB wr rc fb (some ⟨n, 0, none⟩) last)) := S
  have HF : Hid (w.heap[f]? = some (fileB nm base size lines)) := F
  have HN : Hid (w.heap[n]? = some (nodeB none none none f1 s1 e1 0 0)) := N
  have hcmp : Hid (cmp base (base + size) s1 e1 = 1) := by show _ = _; unfold cmp; rw [if_neg (by omega), if_pos (by omega)]
  clear S F N
  go_enter Tryf.func28, Tryf.ntmps28
  go_wp2_with fail
  refine (key_any f base size _ (fileB_cells HF.out).c1 (fileB_cells HF.out).c2 h0 h2 hb0 hb1).mono ?_
  rintro e w1 ⟨rfl, k1⟩
  go_wp2_with fail
  refine (locate_right s n none none f1 s1 e1 0 0 base (base + size) w1 (cell_at (k1.at HS.out (by simp)) 7) (k1.at HN.out (by simp)) hcmp.out).mono ?_
  rintro e w2 ⟨rfl, k2⟩
  have HK2 : Hid (Kept [] w w2) := k1.trans k2
  have HN2 : Hid (w2.heap[n]? = some (nodeB none none none f1 s1 e1 0 0)) := HK2.out.at HN.out (by simp)
  have HF2 : Hid (w2.heap[f]? = some (fileB nm base size lines)) := HK2.out.at HF.out (by simp)
  clear k1 k2
  have c2 := (nodeB_cells HN2.out).c2
  go_wp2_with fail
  refine (set_two _ n f nm base size s1 e1 lines f1 _ HN2.out HF2.out h0 h2 hb0 hb1).mono ?_
  rintro e w3 ⟨rfl, m, hn, hx, hs, k3⟩
  have HX : Hid (∃ m, w.heap.size ≤ m ∧ w3.heap[m]? = some (nodeB (some ⟨n, 0, none⟩) none none (some ⟨f, 0, none⟩) base (base + size) 0 0) ∧ w3.heap[n]? = some (nodeB none none (some ⟨m, 0, none⟩) f1 s1 e1 1 1) ∧ Kept [n] w w3) :=
    ⟨m, Nat.le_trans HK2.out.size hn, hx, hs, (HK2.out.mono (by simp)).trans k3⟩
  clear hn hx hs k3 c2
  go_wp2_with fail
  refine bodyPost_ret (results_none rfl _ _ _) rfl ?_
  exact ⟨rfl, HX.out⟩
end Go.Proofs.Qxb6616684aFmt
