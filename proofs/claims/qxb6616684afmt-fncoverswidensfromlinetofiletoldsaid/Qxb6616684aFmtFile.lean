/-
  THE WALKS of 'file', 'File'. By an AI agent.
-/
import Derived.Test.Qxb6616684aFmtBuild
namespace Go.Proofs.Qxb6616684aFmt
open Go.RowKit
set_option linter.unusedVariables false

theorem neq_files (w : World) (x y : Nat) (cx cy : Array Value) (hx : w.heap[x]? = some (.cells cx 79 (0, 0))) (hy : w.heap[y]? = some (.cells cy 79 (0, 0))) (hne : x ≠ y) :
    (binOp .neq 36 (.pointer (some ⟨x, 0, none⟩)) (.pointer (some ⟨y, 0, none⟩))).run Tryf.prog w = .ok (.bool true) w := by
  have hi : (Tryf.prog.info? 79).map (fun i => decide (i.size = 0)) = some false := by kernel_rfl
  obtain ⟨i, hi1, hi2⟩ := Option.map_eq_some_iff.1 hi
  have hsz : i.size ≠ 0 := by simpa using hi2
  have hp : Tryf.prog.underlying 36 = some (.pointer 79) := by kernel_rfl
  have h : ∀ d : Nat, (Op.equalIn (d + 1) 36 (.pointer (some ⟨x, 0, none⟩)) (.pointer (some ⟨y, 0, none⟩))).run Tryf.prog w = .ok false w := fun d => by
    simp [Op.equalIn, run_underlying hp, sizeOf, typeInfo, hi1, hsz, run_sameAddr_other w (a := ⟨x, 0, none⟩) (b := ⟨y, 0, none⟩) (fun e => hne (congrArg Addr.block e)) hx hy]
  simp only [binOp]
  simp [Op.equal, Op.maxDepth, h 9999]

/-- where a panic does not come up, nothing is asked of it -/
theorem wp_no {P : Program} {c : Code} {K : Act → World → Prop} {Q' : Exit → Act → World → Prop} {a : Act} {w : World} (h : c.wp P (Exit.then K (fun _ _ _ => False)) a w) : c.wp P (Exit.then K Q') a w :=
  Code.wp_mono (fun e a w h => by cases e <;> first | exact h | exact h.elim) h

theorem storeB (s f : Nat) (fb : Int) (r l : Option Addr) (nm : ByteArray) (base size : Int) (li : Value) (w : World) (F : w.heap[f]? = some (fileB nm base size li)) (S : w.heap[s]? = some (fsB 0 1 fb r l)) :
    Calls Tryf.prog 29 #[.pointer (some ⟨s, 8, none⟩), .pointer (some ⟨f, 0, none⟩)] w fun e w' => e = .returned (.tuple #[]) ∧ w'.heap[s]? = some (fsB 0 1 fb r (some ⟨f, 0, none⟩)) ∧ Kept [s] w w' :=
  (Store_any s f _ _ w F rfl (cell_at S 8) (free_at S 8)).mono fun e w' h => ⟨h.1, by rw [h.2]; exact ⟨set_at S rfl, (Kept.refl _ _).setCell (.inl (by simp)) _⟩⟩

set_option maxRecDepth 100000 in
set_option maxHeartbeats 1000000 in
/-- the set's last file holds the place -/
theorem file_hit (s f : Nat) (nm : ByteArray) (base size fb p : Int) (li : Value) (r : Option Addr) (w : World) (S : w.heap[s]? = some (fsB 0 0 fb r (some ⟨f, 0, none⟩))) (F : w.heap[f]? = some (fileB nm base size li))
    (hb0 : 0 ≤ base) (hb1 : base ≤ 1048576) (h0 : 0 ≤ size) (h1 : size ≤ 1048576) (hp0 : base ≤ p) (hp1 : p ≤ base + size) :
    Calls Tryf.prog 57 #[.pointer (some ⟨s, 0, none⟩), .int .i64 p] w fun e w' => e = .returned (.pointer (some ⟨f, 0, none⟩)) ∧ Kept [s] w w' := by
  have HS : Hid (w.heap[s]? = some (fsB 0 0 fb r (some ⟨f, 0, none⟩))) := S
  have HF : Hid (w.heap[f]? = some (fileB nm base size li)) := F
  have g1 := (fileB_cells F).c1
  have g2 := (fileB_cells F).c2
  clear S F
  go_enter_defers Tryf.func57, Tryf.ntmps57
  go_wp2_with fail
  refine (Load_any s f _ w HF.out rfl (cell_at HS.out 8)).mono ?_
  rintro e w1 ⟨rfl, rfl⟩
  go_wp2_with fail
  go_quiet (fail)
  go_wp2_with fail
  exact ⟨_, results_tmp rfl _ _ _, rfl, (Kept.refl _ _).drewN _⟩

set_option maxRecDepth 100000 in
set_option maxHeartbeats 1000000 in
/-- the first file holds the place -/
theorem file_one (s f f1 n1 : Nat) (nm nm1 : ByteArray) (base size size1 fb p s1 e1 bal hh : Int) (li li1 : Value) (pa le ri : Option Addr) (w : World) (S : w.heap[s]? = some (fsB 0 0 fb (some ⟨n1, 0, none⟩) (some ⟨f, 0, none⟩)))
    (F : w.heap[f]? = some (fileB nm base size li)) (F1 : w.heap[f1]? = some (fileB nm1 s1 size1 li1)) (N : w.heap[n1]? = some (nodeB pa le ri (some ⟨f1, 0, none⟩) s1 e1 bal hh))
    (hp : p < base) (hp0 : s1 ≤ p) (hp1 : p ≤ e1) :
    Calls Tryf.prog 57 #[.pointer (some ⟨s, 0, none⟩), .int .i64 p] w fun e w' => e = .returned (.pointer (some ⟨f1, 0, none⟩)) ∧ Kept [s] w w' := by
  have HS : Hid (w.heap[s]? = some (fsB 0 0 fb (some ⟨n1, 0, none⟩) (some ⟨f, 0, none⟩))) := S
  have HF : Hid (w.heap[f]? = some (fileB nm base size li)) := F
  have HF1 : Hid (w.heap[f1]? = some (fileB nm1 s1 size1 li1)) := F1
  have HN : Hid (w.heap[n1]? = some (nodeB pa le ri (some ⟨f1, 0, none⟩) s1 e1 bal hh)) := N
  have hsn := ne_sn S N
  have hsf := ne_sf S F1
  have hcmp : Hid (cmp p p s1 e1 = 0) := by show _ = _; unfold cmp; rw [if_neg (by omega), if_neg (by omega)]
  have g1 := (fileB_cells F).c1
  have g2 := (fileB_cells F).c2
  have hd : decide (base ≤ p) = false := by simp; omega
  clear S F F1 N
  go_enter_defers Tryf.func57, Tryf.ntmps57
  go_wp2_with fail
  refine (Load_any s f _ w HF.out rfl (cell_at HS.out 8)).mono ?_
  rintro e w1 ⟨rfl, rfl⟩
  go_wp2_with fail
  go_quiet (fail)
  go_wp2_with fail
  refine (rlockB s fb _ _ (w.drewN nq) HS.out).mono ?_
  rintro e w2 ⟨rfl, hS2, k2⟩
  have HK2 : Hid (Kept [s] w w2) := ((Kept.refl _ _).drewN nq).trans k2
  have HS2 : Hid (w2.heap[s]? = some (fsB 0 1 fb (some ⟨n1, 0, none⟩) (some ⟨f, 0, none⟩))) := hS2
  clear hS2 k2 g1 g2 hd
  go_wp2_with fail
  refine (locate_root s n1 pa le ri (some ⟨f1, 0, none⟩) s1 e1 bal hh p p w2 (cell_at HS2.out 7) (HK2.out.at HN.out (by simp; omega)) hcmp.out).mono ?_
  rintro e w3 ⟨rfl, k3⟩
  have HK3 : Hid (Kept [s] w w3) := HK2.out.trans (k3.mono (by simp))
  have HS3 : Hid (w3.heap[s]? = some (fsB 0 1 fb (some ⟨n1, 0, none⟩) (some ⟨f, 0, none⟩))) := k3.at HS2.out (by simp)
  have c7 := cell_at HS3.out 7
  have c8 := cell_at HS3.out 8
  have z8 := free_at HS3.out 8
  have n3 := (nodeB_cells (HK3.out.at HN.out (by simp; omega))).c3
  have HF3 : Hid (w3.heap[f1]? = some (fileB nm1 s1 size1 li1)) := HK3.out.at HF1.out (by simp; omega)
  simp at c7 c8
  clear k3
  go_wp2_with fail
  refine wp_no ?_
  go_region_with (go_at_call 29; refine (storeB s f1 fb _ _ nm1 s1 size1 li1 _ (by exact HF3.out) (by exact HS3.out)).mono ?_; rintro e w4 ⟨rfl, hS4, k4⟩)
  all_goals
    have HK4 : Hid (Kept [s] w w4) := HK3.out.trans ⟨k4.os, k4.tape, k4.output, k4.size, k4.block⟩
    have HS4 : Hid (w4.heap[s]? = some (fsB 0 1 fb (some ⟨n1, 0, none⟩) (some ⟨f1, 0, none⟩))) := hS4
    clear c7 c8 z8 n3 k4 hS4
    have n3 := (nodeB_cells (HK4.out.at HN.out (by simp; omega))).c3
    go_wp2_with fail
    refine leaves_cons (f := 67) (args := #[.pointer (some ⟨s, 0, none⟩)]) (by simp) (by simp [go_sem]) ?_
    refine (runlockB s _ _ _ .returning w4 HS4.out).mono ?_
    rintro e u' w5 ⟨rfl, rfl, hs5, k5⟩
    exact ⟨_, results_tmp rfl _ _ _, rfl, HK4.out.trans k5⟩

set_option maxRecDepth 100000 in
set_option maxHeartbeats 1000000 in
/-- no file holds the place -/
theorem file_none1 (s f b off : Nat) (nm : ByteArray) (base size fb p : Int) (li : Value) (root par : Option Addr) (w : World) (S : w.heap[s]? = some (fsB 0 0 fb root (some ⟨f, 0, none⟩)))
    (F : w.heap[f]? = some (fileB nm base size li)) (hb0 : 0 ≤ base) (hb1 : base ≤ 1048576) (h0 : 0 ≤ size) (h1 : size ≤ 1048576) (hp : p < base) (hbs : b ≠ s) (hc : w.cell? ⟨b, off, none⟩ = some (.pointer none))
    (hl : ∀ w2, Kept [s] w w2 → w2.heap[s]? = some (fsB 0 1 fb root (some ⟨f, 0, none⟩)) →
      Calls Tryf.prog 48 #[.pointer (some ⟨s, 7, none⟩), .agg #[.int .i64 p, .int .i64 p]] w2 fun r w' => r = .returned (.tuple #[.pointer (some ⟨b, off, none⟩), .pointer par]) ∧ Kept [] w2 w') :
    Calls Tryf.prog 57 #[.pointer (some ⟨s, 0, none⟩), .int .i64 p] w fun e w' => e = .returned (.pointer none) ∧ Kept [s] w w' := by
  have HS : Hid (w.heap[s]? = some (fsB 0 0 fb root (some ⟨f, 0, none⟩))) := S
  have HF : Hid (w.heap[f]? = some (fileB nm base size li)) := F
  have HL : Hid (∀ w2, Kept [s] w w2 → w2.heap[s]? = some (fsB 0 1 fb root (some ⟨f, 0, none⟩)) →
      Calls Tryf.prog 48 #[.pointer (some ⟨s, 7, none⟩), .agg #[.int .i64 p, .int .i64 p]] w2 fun r w' => r = .returned (.tuple #[.pointer (some ⟨b, off, none⟩), .pointer par]) ∧ Kept [] w2 w') := hl
  have HC : Hid (w.cell? ⟨b, off, none⟩ = some (.pointer none)) := hc
  have g1 := (fileB_cells F).c1
  have g2 := (fileB_cells F).c2
  have hd : decide (base ≤ p) = false := by simp; omega
  clear S F hl hc
  go_enter_defers Tryf.func57, Tryf.ntmps57
  go_wp2_with fail
  refine (Load_any s f _ w HF.out rfl (cell_at HS.out 8)).mono ?_
  rintro e w1 ⟨rfl, rfl⟩
  go_wp2_with fail
  go_quiet (fail)
  go_wp2_with fail
  refine (rlockB s fb _ _ (w.drewN nq) HS.out).mono ?_
  rintro e w2 ⟨rfl, hS2, k2⟩
  have HK2 : Hid (Kept [s] w w2) := ((Kept.refl _ _).drewN nq).trans k2
  have HS2 : Hid (w2.heap[s]? = some (fsB 0 1 fb root (some ⟨f, 0, none⟩))) := hS2
  clear hS2 k2 g1 g2 hd
  go_wp2_with fail
  refine (HL.out w2 HK2.out HS2.out).mono ?_
  rintro e w3 ⟨rfl, k3⟩
  have HK3 : Hid (Kept [s] w w3) := HK2.out.trans (k3.mono (by simp))
  have HS3 : Hid (w3.heap[s]? = some (fsB 0 1 fb root (some ⟨f, 0, none⟩))) := k3.at HS2.out (by simp)
  have c7 : w3.cell? ⟨b, off, none⟩ = some (.pointer none) := by
    rw [World.cell?_of_block (w := w) (a := ⟨b, off, none⟩) (HK3.out.block b (lt_of_cell HC.out) (by simp; omega))]; exact HC.out
  clear k3
  go_wp2_with fail
  refine leaves_cons (f := 67) (args := #[.pointer (some ⟨s, 0, none⟩)]) (by simp) (by simp [go_sem]) ?_
  refine (runlockB s _ _ _ .returning w3 HS3.out).mono ?_
  rintro e u' w5 ⟨rfl, rfl, hs5, k5⟩
  exact ⟨_, results_tmp rfl _ _ _, rfl, HK3.out.trans k5⟩

set_option maxRecDepth 100000 in
set_option maxHeartbeats 1000000 in
/-- no file holds the place -/
theorem file_none2 (s f b off : Nat) (nm : ByteArray) (base size fb p : Int) (li : Value) (root par : Option Addr) (w : World) (S : w.heap[s]? = some (fsB 0 0 fb root (some ⟨f, 0, none⟩)))
    (F : w.heap[f]? = some (fileB nm base size li)) (hb0 : 0 ≤ base) (hb1 : base ≤ 1048576) (h0 : 0 ≤ size) (h1 : size ≤ 1048576) (hp : base ≤ p) (hp2 : base + size < p) (hbs : b ≠ s) (hc : w.cell? ⟨b, off, none⟩ = some (.pointer none))
    (hl : ∀ w2, Kept [s] w w2 → w2.heap[s]? = some (fsB 0 1 fb root (some ⟨f, 0, none⟩)) →
      Calls Tryf.prog 48 #[.pointer (some ⟨s, 7, none⟩), .agg #[.int .i64 p, .int .i64 p]] w2 fun r w' => r = .returned (.tuple #[.pointer (some ⟨b, off, none⟩), .pointer par]) ∧ Kept [] w2 w') :
    Calls Tryf.prog 57 #[.pointer (some ⟨s, 0, none⟩), .int .i64 p] w fun e w' => e = .returned (.pointer none) ∧ Kept [s] w w' := by
  have HS : Hid (w.heap[s]? = some (fsB 0 0 fb root (some ⟨f, 0, none⟩))) := S
  have HF : Hid (w.heap[f]? = some (fileB nm base size li)) := F
  have HL : Hid (∀ w2, Kept [s] w w2 → w2.heap[s]? = some (fsB 0 1 fb root (some ⟨f, 0, none⟩)) →
      Calls Tryf.prog 48 #[.pointer (some ⟨s, 7, none⟩), .agg #[.int .i64 p, .int .i64 p]] w2 fun r w' => r = .returned (.tuple #[.pointer (some ⟨b, off, none⟩), .pointer par]) ∧ Kept [] w2 w') := hl
  have HC : Hid (w.cell? ⟨b, off, none⟩ = some (.pointer none)) := hc
  have g1 := (fileB_cells F).c1
  have g2 := (fileB_cells F).c2
  have hd : decide (p ≤ base + size) = false := by simp; omega
  clear S F hl hc
  go_enter_defers Tryf.func57, Tryf.ntmps57
  go_wp2_with fail
  refine (Load_any s f _ w HF.out rfl (cell_at HS.out 8)).mono ?_
  rintro e w1 ⟨rfl, rfl⟩
  go_wp2_with fail
  go_quiet (fail)
  go_wp2_with fail
  refine (rlockB s fb _ _ (w.drewN nq) HS.out).mono ?_
  rintro e w2 ⟨rfl, hS2, k2⟩
  have HK2 : Hid (Kept [s] w w2) := ((Kept.refl _ _).drewN nq).trans k2
  have HS2 : Hid (w2.heap[s]? = some (fsB 0 1 fb root (some ⟨f, 0, none⟩))) := hS2
  clear hS2 k2 g1 g2 hd
  go_wp2_with fail
  refine (HL.out w2 HK2.out HS2.out).mono ?_
  rintro e w3 ⟨rfl, k3⟩
  have HK3 : Hid (Kept [s] w w3) := HK2.out.trans (k3.mono (by simp))
  have HS3 : Hid (w3.heap[s]? = some (fsB 0 1 fb root (some ⟨f, 0, none⟩))) := k3.at HS2.out (by simp)
  have c7 : w3.cell? ⟨b, off, none⟩ = some (.pointer none) := by
    rw [World.cell?_of_block (w := w) (a := ⟨b, off, none⟩) (HK3.out.block b (lt_of_cell HC.out) (by simp; omega))]; exact HC.out
  clear k3
  go_wp2_with fail
  refine leaves_cons (f := 67) (args := #[.pointer (some ⟨s, 0, none⟩)]) (by simp) (by simp [go_sem]) ?_
  refine (runlockB s _ _ _ .returning w3 HS3.out).mono ?_
  rintro e u' w5 ⟨rfl, rfl, hs5, k5⟩
  exact ⟨_, results_tmp rfl _ _ _, rfl, HK3.out.trans k5⟩

def fileOf (f1 f2 : Nat) (l1 l2 p : Int) : Option Addr :=
  if 1 + (l1 + 1) ≤ p ∧ p ≤ 1 + (l1 + 1) + l2 then some ⟨f2, 0, none⟩ else if 1 ≤ p ∧ p ≤ 1 + l1 then some ⟨f1, 0, none⟩ else none

theorem file_any {lo : Nat} {w : World} {d s f1 : Nat} {s1 : ByteArray} {o : Nat} {verb : ByteArray} {alone : Bool} {c n1 n2 f2 : Nat} {nm nm2 txt : ByteArray} {l2 fb : Int} {a : Option Addr} {n cap : Nat} {lines2 : Value}
    (h : BuiltX lo w d s f1 s1 o verb alone c n1 n2 f2 nm nm2 txt l2 fb a n cap lines2) (p : Int) :
    Calls Tryf.prog 57 #[.pointer (some ⟨s, 0, none⟩), .int .i64 p] w fun e w' => e = .returned (.pointer (fileOf f1 f2 s1.size l2 p)) ∧ Kept [s] w w' := by
  have hl := h.len
  have hl2 := h.len2
  have hs1 := ne_sn h.set h.one
  have hs2 := ne_sn h.set h.two
  by_cases hA : 1 + ((s1.size : Int) + 1) ≤ p ∧ p ≤ 1 + (s1.size + 1) + l2
  · rw [fileOf, if_pos hA]
    exact file_hit s f2 nm2 _ l2 fb p lines2 _ w h.set h.file2 (by omega) (by omega) (by omega) (by omega) hA.1 hA.2
  · rw [fileOf, if_neg hA]
    by_cases hB : 1 ≤ p ∧ p ≤ 1 + (s1.size : Int)
    · rw [if_pos hB]
      exact file_one s f2 f1 n1 nm2 nm _ l2 _ fb p 1 (1 + s1.size) 1 1 lines2 _ _ _ _ w h.set h.file2 h.file.heap h.one (by omega) hB.1 hB.2
    · rw [if_neg hB]
      by_cases hC : p < 1
      · refine file_none1 s f2 n1 1 nm2 _ l2 fb p lines2 _ (some ⟨n1, 0, none⟩) w h.set h.file2 (by omega) (by omega) (by omega) (by omega) (by omega) (by omega) (nodeB_cells h.one).c1 ?_
        intro w2 k2 hS2
        exact locate_left s n1 _ _ _ 1 (1 + s1.size) 1 1 p p w2 (cell_at hS2 7) (k2.at h.one (by simp; omega)) (by unfold cmp; rw [if_pos (by omega)])
      · refine file_none2 s f2 n2 2 nm2 _ l2 fb p lines2 _ (some ⟨n2, 0, none⟩) w h.set h.file2 (by omega) (by omega) (by omega) (by omega) (by omega) (by omega) (by omega) (nodeB_cells h.two).c2 ?_
        intro w2 k2 hS2
        exact locate_right2 s n1 n2 _ _ _ _ _ _ 1 (1 + s1.size) 1 1 _ _ 0 0 p p w2 (cell_at hS2 7) (k2.at h.one (by simp; omega)) (k2.at h.two (by simp; omega))
          (by unfold cmp; rw [if_neg (by omega), if_pos (by omega)]) (by unfold cmp; rw [if_neg (by omega), if_pos (by omega)])
end Go.Proofs.Qxb6616684aFmt
