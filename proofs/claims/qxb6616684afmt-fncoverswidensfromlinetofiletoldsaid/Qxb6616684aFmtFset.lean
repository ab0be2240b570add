/-
  THE WALKS of 'NewFileSet', 'AddFile'. By an AI agent.
-/
import Derived.Test.Qxb6616684aFmtAdd
namespace Go.Proofs.Qxb6616684aFmt
open Go.RowKit
set_option linter.unusedVariables false

theorem wlockB (s : Nat) (b : Int) (r l : Option Addr) (w : World) (S : w.heap[s]? = some (fsB 0 0 b r l)) :
    Calls Tryf.prog 25 #[.pointer (some ⟨s, 0, none⟩)] w fun e w' => e = .returned (.tuple #[]) ∧ w'.heap[s]? = some (fsB 1 (-1073741824) b r l) ∧ Kept [s] w w' := by
  refine (RwLone.wlock_free Tryf.rwWLib s 0 _ _ w (cell_at S 0) (cell_at S 2) (cell_at S 3) (cell_at S 4) (free_at S 0) (free_at S 4)).mono ?_
  rintro e w' ⟨rfl, rfl⟩
  exact ⟨rfl, set_at (set_at S rfl) rfl, ((Kept.refl _ _).setCell (.inl (by simp)) _).setCell (.inl (by simp)) _⟩
theorem wunlockB (s : Nat) (b : Int) (r l : Option Addr) (u : FrameMode) (w : World) (S : w.heap[s]? = some (fsB 1 (-1073741824) b r l)) :
    CallsD Tryf.prog 26 #[.pointer (some ⟨s, 0, none⟩)] u w fun e u' w' => u' = u ∧ (e = .returned (.tuple #[]) ∧ w'.heap[s]? = some (fsB 0 0 b r l) ∧ Kept [s] w w') := by
  refine (RwLone.wunlock_deferred Tryf.rwWLib s 0 _ _ u w (cell_at S 0) (cell_at S 2) (cell_at S 3) (cell_at S 4) (free_at S 0) (free_at S 4)).mono ?_
  rintro e u' w' ⟨rfl, rfl, rfl⟩
  exact ⟨rfl, rfl, set_at (set_at S rfl) rfl, ((Kept.refl _ _).setCell (.inl (by simp)) _).setCell (.inl (by simp)) _⟩
theorem up1 : wrap32 (0 + 1) = 1 := by unfold wrap32; decide
theorem down1 : wrap32 (1 + -1) = 0 := by unfold wrap32; decide
theorem rlockB (s : Nat) (b : Int) (r l : Option Addr) (w : World) (S : w.heap[s]? = some (fsB 0 0 b r l)) :
    Calls Tryf.prog 66 #[.pointer (some ⟨s, 0, none⟩)] w fun e w' => e = .returned (.tuple #[]) ∧ w'.heap[s]? = some (fsB 0 1 b r l) ∧ Kept [s] w w' := by
  refine (RwLone.rlock_open Tryf.rwRLib s 0 0 _ _ w (cell_at S 0) (cell_at S 3) (cell_at S 4) (free_at S 4) (by rw [up1]; decide)).mono ?_
  rintro e w' ⟨rfl, rfl⟩
  rw [up1]
  exact ⟨rfl, set_at S rfl, (Kept.refl _ _).setCell (.inl (by simp)) _⟩
theorem runlockB (s : Nat) (b : Int) (r l : Option Addr) (u : FrameMode) (w : World) (S : w.heap[s]? = some (fsB 0 1 b r l)) :
    CallsD Tryf.prog 67 #[.pointer (some ⟨s, 0, none⟩)] u w fun e u' w' => u' = u ∧ (e = .returned (.tuple #[]) ∧ w'.heap[s]? = some (fsB 0 0 b r l) ∧ Kept [s] w w') := by
  refine (RwLone.runlock_deferred Tryf.rwRLib s 0 1 _ _ u w (cell_at S 0) (cell_at S 2) (cell_at S 4) (free_at S 4) (by rw [down1]; decide)).mono ?_
  rintro e u' w' ⟨rfl, rfl, rfl⟩
  rw [down1]
  exact ⟨rfl, rfl, set_at S rfl, (Kept.refl _ _).setCell (.inl (by simp)) _⟩

set_option maxRecDepth 100000 in
set_option maxHeartbeats 1000000 in
theorem newFileSet_any (w : World) :
    Calls Tryf.prog 17 #[] w fun e w' => e = .returned (.pointer (some ⟨w.heap.size, 0, none⟩)) ∧ w'.heap[w.heap.size]? = some (fsB 0 0 1 none none) ∧ Kept [] w w' := by
  go_enter Tryf.func17, Tryf.ntmps17
  go_wp2_with fail
  go_ret
  exact ⟨rfl, alloc_new _ _, (Kept.refl _ _).alloc _⟩

set_option maxRecDepth 100000 in
set_option maxHeartbeats 1000000 in
theorem addFile_one (s : Nat) (nm : ByteArray) (size fb : Int) (last : Option Addr) (w : World) (S : w.heap[s]? = some (fsB 0 0 fb none last)) (h0 : 0 ≤ size) (h2 : size ≤ 65536) (hb0 : 1 ≤ fb) (hb1 : fb ≤ 262144) :
    Calls Tryf.prog 18 #[.pointer (some ⟨s, 0, none⟩), .string nm, .int .i64 (-1), .int .i64 size] w fun r w' => ∃ f, r = .returned (.pointer (some ⟨f, 0, none⟩)) ∧ w.heap.size ≤ f ∧
      (∃ lines, w'.heap[f]? = some (fileB nm fb size lines)) ∧ (∃ n, w.heap.size ≤ n ∧ w'.heap[n]? = some (nodeB none none none (some ⟨f, 0, none⟩) fb (fb + size) 0 0) ∧
      w'.heap[s]? = some (fsB 0 0 (fb + (size + 1)) (some ⟨n, 0, none⟩) (some ⟨f, 0, none⟩))) ∧ Kept [s] w w' := by
  have HS : Hid (w.heap[s]? = some (fsB 0 0 fb none last)) := S
  have hlt := lt_of_heap S
  clear S
  go_enter_defers Tryf.func18, Tryf.ntmps18
  go_wp2_with fail
  refine (wlockB s fb none last _ (alloc_old _ (alloc_old _ HS.out))).mono ?_
  rintro e w1 ⟨rfl, hs1, k1⟩
  have HF1 : Hid (w1.heap[w.heap.size + 1]? = some (fileB nm 0 size (.slice (some ⟨w.heap.size, 0, none⟩) 1 1))) := k1.at (by
    have h := alloc_new (w.alloc (.cells #[.int .i64 0] 3)) (.cells #[.string nm, .int .i64 0, .int .i64 size, .int .i32 0, .int .u32 0, .slice (some ⟨w.heap.size, 0, none⟩) 1 1, .slice none 0 0] 79)
    rw [show (w.alloc (.cells #[.int .i64 0] 3)).heap.size = w.heap.size + 1 by simp] at h
    exact h) (by simp; omega)
  have HK1 : Hid (Kept [s] w w1) := (((Kept.refl _ _).alloc _).alloc _).trans (k1)
  have HS1 : Hid (w1.heap[s]? = some (fsB 1 (-1073741824) fb none last)) := hs1
  clear hs1 k1
  have hF : ∃ f, f = w.heap.size + 1 := ⟨_, rfl⟩
  obtain ⟨f, hf⟩ := hF
  have hfs : f ≠ s := by omega
  rw [← hf] at HF1 ⊢
  have HFe : Hid (f = w.heap.size + 1) := hf
  clear hf
  have s6 := cell_at HS1.out 6
  have z6 := free_at HS1.out 6
  have g1 := (fileB_cells HF1.out).c1
  have y1 := (fileB_cells HF1.out).z1
  simp at s6
  go_wp2_with fail
  have hS2 : ((w1.setCell ⟨f, 1, none⟩ (.int .i64 fb)).setCell ⟨s, 6, none⟩ (.int .i64 (fb + (size + 1)))).heap[s]? = some (fsB 1 (-1073741824) (fb + (size + 1)) none last) := set_at (set_ne HS1.out (by omega)) rfl
  have hF2 : ((w1.setCell ⟨f, 1, none⟩ (.int .i64 fb)).setCell ⟨s, 6, none⟩ (.int .i64 (fb + (size + 1)))).heap[f]? = some (fileB nm fb size (.slice (some ⟨w.heap.size, 0, none⟩) 1 1)) := set_ne (set_at HF1.out rfl) hfs
  have hK2 : Kept [s] w ((w1.setCell ⟨f, 1, none⟩ (.int .i64 fb)).setCell ⟨s, 6, none⟩ (.int .i64 (fb + (size + 1)))) := (HK1.out.setCell (.inr (by have := HFe.out; simp; omega)) _).setCell (.inl (by simp)) _
  generalize ((w1.setCell ⟨f, 1, none⟩ (.int .i64 fb)).setCell ⟨s, 6, none⟩ (.int .i64 (fb + (size + 1)))) = w2 at *
  refine (add_one s f nm fb size _ _ (fb + (size + 1)) (.slice (some ⟨w.heap.size, 0, none⟩) 1 1) last w2 hS2 hF2 h0 (by omega) (by omega) (by omega)).mono ?_
  rintro e w3 ⟨rfl, n, hn, hx, hs3, k3⟩
  have hnw : w.heap.size ≤ n := Nat.le_trans hK2.size hn
  have HS3 : Hid (w3.heap[s]? = some (fsB 1 (-1073741824) (fb + (size + 1)) (some ⟨n, 0, none⟩) last)) := hs3
  have HF3 : Hid (w3.heap[f]? = some (fileB nm fb size (.slice (some ⟨w.heap.size, 0, none⟩) 1 1))) := k3.at hF2 (by simp; omega)
  have HN3 : Hid (w3.heap[n]? = some (nodeB none none none (some ⟨f, 0, none⟩) fb (fb + size) 0 0)) := hx
  have HK3 : Hid (Kept [s] w w3) := hK2.trans k3
  have HM : Hid (w.heap.size ≤ n) := hnw
  clear hx hs3 k3 hS2 hF2 hK2 hn hnw s6 z6 g1 y1
  go_wp2_with fail
  refine (Store_any s f _ _ w3 HF3.out rfl (cell_at HS3.out 8) (free_at HS3.out 8)).mono ?_
  rintro e w4 ⟨rfl, hw4⟩
  have HS4 : Hid (w4.heap[s]? = some (fsB 1 (-1073741824) (fb + (size + 1)) (some ⟨n, 0, none⟩) (some ⟨f, 0, none⟩))) := by
    show _ = _; rw [hw4]; exact set_at HS3.out rfl
  have HK4 : Hid (Kept [s] w3 w4) := by
    show Kept _ _ _; rw [hw4]; exact (Kept.refl _ _).setCell (.inl (by simp)) _
  clear hw4
  go_wp2_with fail
  refine leaves_cons (f := 26) (args := #[.pointer (some ⟨s, 0, none⟩)]) (by simp) (by simp [go_sem]) ?_
  refine (wunlockB s _ _ _ .returning w4 HS4.out).mono ?_
  rintro e u' w5 ⟨rfl, rfl, hs5, k5⟩
  have K5 := HK4.out.trans k5
  have hFe := HFe.out
  have hM := HM.out
  exact ⟨_, results_tmp rfl _ _ _, f, rfl, by omega, ⟨_, K5.at HF3.out (by simp; omega)⟩, ⟨n, hM, K5.at HN3.out (by simp; omega), hs5⟩, HK3.out.trans K5⟩

set_option maxRecDepth 100000 in
set_option maxHeartbeats 1000000 in
theorem addFile_two (s : Nat) (nm : ByteArray) (size fb : Int) (last : Option Addr) (n1 : Nat) (f1 : Option Addr) (s1 e1 : Int) (w : World) (S : w.heap[s]? = some (fsB 0 0 fb (some ⟨n1, 0, none⟩) last)) (N : w.heap[n1]? = some (nodeB none none none f1 s1 e1 0 0)) (hs1 : s1 ≤ fb) (he1 : e1 < fb) (h0 : 0 ≤ size) (h2 : size ≤ 65536) (hb0 : 1 ≤ fb) (hb1 : fb ≤ 262144) :
    Calls Tryf.prog 18 #[.pointer (some ⟨s, 0, none⟩), .string nm, .int .i64 (-1), .int .i64 size] w fun r w' => ∃ f, r = .returned (.pointer (some ⟨f, 0, none⟩)) ∧ w.heap.size ≤ f ∧
      (∃ lines, w'.heap[f]? = some (fileB nm fb size lines)) ∧ (∃ n, w.heap.size ≤ n ∧ w'.heap[n]? = some (nodeB (some ⟨n1, 0, none⟩) none none (some ⟨f, 0, none⟩) fb (fb + size) 0 0) ∧ w'.heap[n1]? = some (nodeB none none (some ⟨n, 0, none⟩) f1 s1 e1 1 1)) ∧
      w'.heap[s]? = some (fsB 0 0 (fb + (size + 1)) (some ⟨n1, 0, none⟩) (some ⟨f, 0, none⟩)) ∧ Kept [s, n1] w w' := by
  have HS : Hid (w.heap[s]? = some (fsB 0 0 fb (some ⟨n1, 0, none⟩) last)) := S
  have hlt := lt_of_heap S
  have HN : Hid (w.heap[n1]? = some (nodeB none none none f1 s1 e1 0 0)) := N
  have hltn := lt_of_heap N
  have hsn : s ≠ n1 := fun e => by rw [e, N] at S; simp [nodeB, fsB] at S
  clear N
  clear S
  go_enter_defers Tryf.func18, Tryf.ntmps18
  go_wp2_with fail
  refine (wlockB s fb (some ⟨n1, 0, none⟩) last _ (alloc_old _ (alloc_old _ HS.out))).mono ?_
  rintro e w1 ⟨rfl, hs1, k1⟩
  have HF1 : Hid (w1.heap[w.heap.size + 1]? = some (fileB nm 0 size (.slice (some ⟨w.heap.size, 0, none⟩) 1 1))) := k1.at (by
    have h := alloc_new (w.alloc (.cells #[.int .i64 0] 3)) (.cells #[.string nm, .int .i64 0, .int .i64 size, .int .i32 0, .int .u32 0, .slice (some ⟨w.heap.size, 0, none⟩) 1 1, .slice none 0 0] 79)
    rw [show (w.alloc (.cells #[.int .i64 0] 3)).heap.size = w.heap.size + 1 by simp] at h
    exact h) (by simp; omega)
  have HK1 : Hid (Kept [s, n1] w w1) := (((Kept.refl _ _).alloc _).alloc _).trans (k1.mono (by simp))
  have HS1 : Hid (w1.heap[s]? = some (fsB 1 (-1073741824) fb (some ⟨n1, 0, none⟩) last)) := hs1
  have HN1 : Hid (w1.heap[n1]? = some (nodeB none none none f1 s1 e1 0 0)) := k1.at (alloc_old _ (alloc_old _ HN.out)) (by simp; omega)
  clear hs1 k1
  have hF : ∃ f, f = w.heap.size + 1 := ⟨_, rfl⟩
  obtain ⟨f, hf⟩ := hF
  have hfs : f ≠ s := by omega
  rw [← hf] at HF1 ⊢
  have HFe : Hid (f = w.heap.size + 1) := hf
  clear hf
  have s6 := cell_at HS1.out 6
  have z6 := free_at HS1.out 6
  have g1 := (fileB_cells HF1.out).c1
  have y1 := (fileB_cells HF1.out).z1
  simp at s6
  go_wp2_with fail
  have hS2 : ((w1.setCell ⟨f, 1, none⟩ (.int .i64 fb)).setCell ⟨s, 6, none⟩ (.int .i64 (fb + (size + 1)))).heap[s]? = some (fsB 1 (-1073741824) (fb + (size + 1)) (some ⟨n1, 0, none⟩) last) := set_at (set_ne HS1.out (by omega)) rfl
  have hF2 : ((w1.setCell ⟨f, 1, none⟩ (.int .i64 fb)).setCell ⟨s, 6, none⟩ (.int .i64 (fb + (size + 1)))).heap[f]? = some (fileB nm fb size (.slice (some ⟨w.heap.size, 0, none⟩) 1 1)) := set_ne (set_at HF1.out rfl) hfs
  have hK2 : Kept [s, n1] w ((w1.setCell ⟨f, 1, none⟩ (.int .i64 fb)).setCell ⟨s, 6, none⟩ (.int .i64 (fb + (size + 1)))) := (HK1.out.setCell (.inr (by have := HFe.out; simp; omega)) _).setCell (.inl (by simp)) _
  have hfn : f ≠ n1 := by have := HFe.out; omega
  have hN2 : ((w1.setCell ⟨f, 1, none⟩ (.int .i64 fb)).setCell ⟨s, 6, none⟩ (.int .i64 (fb + (size + 1)))).heap[n1]? = some (nodeB none none none f1 s1 e1 0 0) := set_ne (set_ne HN1.out (by omega)) (by omega)
  generalize ((w1.setCell ⟨f, 1, none⟩ (.int .i64 fb)).setCell ⟨s, 6, none⟩ (.int .i64 (fb + (size + 1)))) = w2 at *
  refine (add_two s f n1 nm fb size _ _ (fb + (size + 1)) s1 e1 (.slice (some ⟨w.heap.size, 0, none⟩) 1 1) last f1 w2 hS2 hF2 hN2 h0 (by omega) (by omega) (by omega) hs1 he1).mono ?_
  rintro e w3 ⟨rfl, n, hn, hx, hx1, k3⟩
  have hnw : w.heap.size ≤ n := Nat.le_trans hK2.size hn
  have HS3 : Hid (w3.heap[s]? = some (fsB 1 (-1073741824) (fb + (size + 1)) (some ⟨n1, 0, none⟩) last)) := k3.at hS2 (by simp; omega)
  have HF3 : Hid (w3.heap[f]? = some (fileB nm fb size (.slice (some ⟨w.heap.size, 0, none⟩) 1 1))) := k3.at hF2 (by simp; omega)
  have HN3 : Hid (w3.heap[n]? = some (nodeB (some ⟨n1, 0, none⟩) none none (some ⟨f, 0, none⟩) fb (fb + size) 0 0) ∧ w3.heap[n1]? = some (nodeB none none (some ⟨n, 0, none⟩) f1 s1 e1 1 1)) := ⟨hx, hx1⟩
  have HK3 : Hid (Kept [s, n1] w w3) := hK2.trans (k3.mono (by simp))
  have HM : Hid (w.heap.size ≤ n) := hnw
  clear hx hx1 k3 hS2 hF2 hK2 hN2 hn hnw s6 z6 g1 y1
  go_wp2_with fail
  refine (Store_any s f _ _ w3 HF3.out rfl (cell_at HS3.out 8) (free_at HS3.out 8)).mono ?_
  rintro e w4 ⟨rfl, hw4⟩
  have HS4 : Hid (w4.heap[s]? = some (fsB 1 (-1073741824) (fb + (size + 1)) (some ⟨n1, 0, none⟩) (some ⟨f, 0, none⟩))) := by
    show _ = _; rw [hw4]; exact set_at HS3.out rfl
  have HK4 : Hid (Kept [s] w3 w4) := by
    show Kept _ _ _; rw [hw4]; exact (Kept.refl _ _).setCell (.inl (by simp)) _
  clear hw4
  go_wp2_with fail
  refine leaves_cons (f := 26) (args := #[.pointer (some ⟨s, 0, none⟩)]) (by simp) (by simp [go_sem]) ?_
  refine (wunlockB s _ _ _ .returning w4 HS4.out).mono ?_
  rintro e u' w5 ⟨rfl, rfl, hs5, k5⟩
  have K5 := HK4.out.trans k5
  have hFe := HFe.out
  have hM := HM.out
  exact ⟨_, results_tmp rfl _ _ _, f, rfl, by omega, ⟨_, K5.at HF3.out (by simp; omega)⟩, ⟨n, hM, K5.at HN3.out.1 (by simp; omega), K5.at HN3.out.2 (by simp; omega)⟩, hs5, HK3.out.trans (K5.mono (by simp))⟩
end Go.Proofs.Qxb6616684aFmt
