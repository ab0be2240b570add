/-
  THE WALKS of 'File', 'IsValid', 'Pos', 'covers', 'ZZcovers'. By an AI agent.
-/
import Derived.Test.Qxb6616684aFmtFile
namespace Go.Proofs.Qxb6616684aFmt
open Go.RowKit
set_option linter.unusedVariables false

set_option maxRecDepth 100000 in
set_option maxHeartbeats 400000 in
theorem isValid_any (p : Int) (w : World) : Calls Tryf.prog 33 #[.int .i64 p] w fun e w' => e = .returned (.bool (p != 0)) ∧ w' = w := by
  go_enter Tryf.func33, Tryf.ntmps33
  go_wp2
  go_ret
  exact ⟨rfl, rfl⟩

set_option maxRecDepth 100000 in
set_option maxHeartbeats 400000 in
theorem comPos_any (c : Nat) (p : Int) (t : ByteArray) (w : World) (h : w.heap[c]? = some (comB p t)) : Calls Tryf.prog 36 #[.pointer (some ⟨c, 0, none⟩)] w fun e w' => e = .returned (.int .i64 p) ∧ w = w' := by
  have c0 := cell_at h 0
  simp at c0
  clear h
  go_enter Tryf.func36, Tryf.ntmps36
  go_wp2
  go_ret
  exact ⟨rfl, rfl⟩

set_option maxRecDepth 100000 in
set_option maxHeartbeats 400000 in
theorem File_any {lo : Nat} {w : World} {d s f1 : Nat} {s1 : ByteArray} {o : Nat} {verb : ByteArray} {alone : Bool} {c n1 n2 f2 : Nat} {nm nm2 txt : ByteArray} {l2 fb : Int} {a : Option Addr} {n cap : Nat} {lines2 : Value}
    (h : BuiltX lo w d s f1 s1 o verb alone c n1 n2 f2 nm nm2 txt l2 fb a n cap lines2) (p : Int) (hp : p ≠ 0) :
    Calls Tryf.prog 34 #[.pointer (some ⟨s, 0, none⟩), .int .i64 p] w fun e w' => e = .returned (.pointer (fileOf f1 f2 s1.size l2 p)) ∧ Kept [s] w w' := by
  have HB : Hid (BuiltX lo w d s f1 s1 o verb alone c n1 n2 f2 nm nm2 txt l2 fb a n cap lines2) := h
  have hp2 : (p != 0) = true := by simp [hp]
  clear h
  go_enter Tryf.func34, Tryf.ntmps34
  go_wp2_with fail
  refine (file_any HB.out p).mono ?_
  rintro e w1 ⟨rfl, k1⟩
  have HK : Hid (Kept [s] w w1) := k1
  clear k1
  go_wp2_with fail
  go_ret
  exact ⟨rfl, HK.out⟩

/-- what the later half of 'covers' reads -/
structure Cov (w : World) (d c f1 : Nat) (s1 : ByteArray) (o : Nat) (verb : ByteArray) (alone : Bool) (nm txt : ByteArray) (a : Option Addr) (n cap : Nat) : Prop where
  dir : w.heap[d]? = some (dirB (some ⟨c, 0, none⟩) (some ⟨f1, 0, none⟩) verb alone)
  com : w.heap[c]? = some (comB (1 + o) txt)
  file : FileAt w f1 nm 1 s1.size a n cap (Ln.linesTo (B s1) s1.size)
theorem Cov.of_heap {w w' : World} {d c f1 : Nat} {s1 : ByteArray} {o : Nat} {verb : ByteArray} {alone : Bool} {nm txt : ByteArray} {a : Option Addr} {n cap : Nat} (h : Cov w d c f1 s1 o verb alone nm txt a n cap) (e : w'.heap = w.heap) : Cov w' d c f1 s1 o verb alone nm txt a n cap :=
  ⟨by rw [e]; exact h.dir, by rw [e]; exact h.com, { h.file with heap := by rw [e]; exact h.file.heap, lines := rdI_same h.file.lines (fun b off _ _ => by rw [e]) }⟩
theorem ne_df {w : World} {x y : Nat} {c f : Option Addr} {v : ByteArray} {al : Bool} {nm : ByteArray} {base size : Int} {li : Value} (h : w.heap[x]? = some (dirB c f v al)) (k : w.heap[y]? = some (fileB nm base size li)) : x ≠ y := fun e => by
  subst e; rw [h] at k; simp [dirB, fileB] at k
theorem ne_cf {w : World} {x y : Nat} {p : Int} {t : ByteArray} {nm : ByteArray} {base size : Int} {li : Value} (h : w.heap[x]? = some (comB p t)) (k : w.heap[y]? = some (fileB nm base size li)) : x ≠ y := fun e => by
  subst e; rw [h] at k; simp [comB, fileB] at k
theorem ne_ds {w : World} {x y : Nat} {c f : Option Addr} {v : ByteArray} {al : Bool} {wr rc b : Int} {r l : Option Addr} (h : w.heap[x]? = some (dirB c f v al)) (k : w.heap[y]? = some (fsB wr rc b r l)) : x ≠ y := fun e => by
  subst e; rw [h] at k; simp [dirB, fsB] at k
theorem ne_cs {w : World} {x y : Nat} {p : Int} {t : ByteArray} {wr rc b : Int} {r l : Option Addr} (h : w.heap[x]? = some (comB p t)) (k : w.heap[y]? = some (fsB wr rc b r l)) : x ≠ y := fun e => by
  subst e; rw [h] at k; simp [comB, fsB] at k

theorem line_cov {w : World} {d c f1 : Nat} {s1 : ByteArray} {o : Nat} {verb : ByteArray} {alone : Bool} {nm txt : ByteArray} {a : Option Addr} {n cap : Nat} (h : Cov w d c f1 s1 o verb alone nm txt a n cap) (p : Int) (k : Nat) (hp : p = 1 + (k : Int)) (hk : k ≤ s1.size) :
    Calls Tryf.prog 35 #[.pointer (some ⟨f1, 0, none⟩), .int .i64 p] w fun e w' => e = .returned (.int .i64 (Ln.lineOf (B s1) k : Nat)) ∧ Cov w' d c f1 s1 o verb alone nm txt a n cap ∧ Kept [f1] w w' := by
  refine (Line_any f1 nm 1 s1.size p a n cap _ w h.file (by omega) (by omega)).mono ?_
  rintro e w' ⟨i, rfl, hU, hf, hk'⟩
  have hd := ne_df h.dir h.file.heap
  have hc := ne_cf h.com h.file.heap
  have hi : i = Ln.lineOf (B s1) k := by
    apply Ln.line_is
    rw [B_length]
    rw [hp, show (1 : Int) + k - 1 = k by omega] at hU
    exact hU
  exact ⟨by rw [hi], ⟨hk'.at h.dir (by simp; omega), hk'.at h.com (by simp; omega), h.file.kept hk' hf (fun b off e => by have := h.file.apart b off e; simp; omega)⟩, hk'⟩

/-- the law of 'covers' -/
def coversOf (s1 : ByteArray) (o : Nat) (verb : ByteArray) (alone : Bool) (p : Int) : Bool :=
  if 1 ≤ p ∧ p ≤ 1 + (s1.size : Int) then
    isFile verb || (((Ln.lineOf (B s1) (p - 1).toNat : Int) == (Ln.lineOf (B s1) o : Int)) || (alone && ((Ln.lineOf (B s1) (p - 1).toNat : Int) == (Ln.lineOf (B s1) o : Int) + 1)))
  else false

set_option maxRecDepth 100000 in
set_option maxHeartbeats 2000000 in
theorem covers_zero {lo : Nat} {w : World} {d s f1 : Nat} {s1 : ByteArray} {o : Nat} {verb : ByteArray} {alone : Bool} {c n1 n2 f2 : Nat} {nm nm2 txt : ByteArray} {l2 fb : Int} {a : Option Addr} {n cap : Nat} {lines2 : Value}
    (h : BuiltX lo w d s f1 s1 o verb alone c n1 n2 f2 nm nm2 txt l2 fb a n cap lines2) :
    Calls Tryf.prog 22 #[.pointer (some ⟨d, 0, none⟩), .pointer (some ⟨s, 0, none⟩), .int .i64 0] w fun e w' => e = .returned (.bool false) ∧ Kept [s, f1] w w' := by
  go_enter Tryf.func22, Tryf.ntmps22
  go_wp2_with fail
  go_quiet ((go_at_call 33; exact Calls.quiet_of_same (isValid_any 0 _)))
  go_wp2_with fail
  go_ret
  exact ⟨rfl, (Kept.refl _ _).drewN _⟩

theorem neq_nil (w : World) (y : Nat) : (binOp .neq 36 (.pointer none) (.pointer (some ⟨y, 0, none⟩))).run Tryf.prog w = .ok (.bool true) w := by
  have hp : Tryf.prog.underlying 36 = some (.pointer 79) := by kernel_rfl
  have h : ∀ d : Nat, (Op.equalIn (d + 1) 36 (.pointer none) (.pointer (some ⟨y, 0, none⟩))).run Tryf.prog w = .ok false w := fun d => by
    simp [Op.equalIn, run_underlying hp]
  simp only [binOp]
  simp [Op.equal, Op.maxDepth, h 9999]
theorem neq_same (w : World) (y : Nat) : (binOp .neq 36 (.pointer (some ⟨y, 0, none⟩)) (.pointer (some ⟨y, 0, none⟩))).run Tryf.prog w = .ok (.bool false) w := by
  have hi : (Tryf.prog.info? 79).isSome = true := by kernel_rfl
  obtain ⟨i, hi1⟩ := Option.isSome_iff_exists.1 hi
  exact Lib.run_neq_ptr_same w (te := 79) _ (by kernel_rfl) hi1

/-- the place's file, asked from a world that is w but for draws -/
theorem File_from {lo : Nat} {w : World} {d s f1 : Nat} {s1 : ByteArray} {o : Nat} {verb : ByteArray} {alone : Bool} {c n1 n2 f2 : Nat} {nm nm2 txt : ByteArray} {l2 fb : Int} {a : Option Addr} {n cap : Nat} {lines2 : Value}
    (h : BuiltX lo w d s f1 s1 o verb alone c n1 n2 f2 nm nm2 txt l2 fb a n cap lines2) (p : Int) (hp : p ≠ 0) (q : Option Addr) (bb : Bool) (hq : fileOf f1 f2 s1.size l2 p = q) (hbb : bb = !(decide (1 ≤ p ∧ p ≤ 1 + (s1.size : Int)))) (W : World) (hW : W.heap = w.heap) (kW : Kept [] w W) :
    Calls Tryf.prog 34 #[.pointer (some ⟨s, 0, none⟩), .int .i64 p] W fun e w' => e = .returned (.pointer q) ∧ w'.cell? ⟨d, 1, none⟩ = some (.pointer (some ⟨f1, 0, none⟩)) ∧ (binOp .neq 36 (.pointer q) (.pointer (some ⟨f1, 0, none⟩))).run Tryf.prog w' = .ok (.bool bb) w' ∧ Kept [s] w w' := by
  refine (File_any (h.carry (w' := W) (fun k _ _ => by rw [hW])) p hp).mono ?_
  rintro e w' ⟨rfl, k⟩
  have hds := ne_ds h.dir h.set
  have hsf := ne_sf h.set h.file.heap
  have hsf2 := ne_sf h.set h.file2
  have K := (kW.mono (S' := [s]) (by simp)).trans k
  refine ⟨by rw [hq], cell_at (K.at h.dir (by simp; omega)) 1, ?_, K⟩
  rw [← hq, hbb]
  unfold fileOf
  by_cases hA : 1 + ((s1.size : Int) + 1) ≤ p ∧ p ≤ 1 + (s1.size + 1) + l2
  · rw [if_pos hA, decide_eq_false (by omega)]
    exact neq_files w' f2 f1 _ _ (K.at h.file2 (by simp; omega)) (K.at h.file.heap (by simp; omega)) (fun e => h.ne e.symm)
  · rw [if_neg hA]
    by_cases hB : 1 ≤ p ∧ p ≤ 1 + (s1.size : Int)
    · rw [if_pos hB, decide_eq_true hB]
      exact neq_same w' f1
    · rw [if_neg hB, decide_eq_false hB]
      exact neq_nil w' f1

set_option maxRecDepth 100000 in
set_option maxHeartbeats 2000000 in
theorem covers_out {lo : Nat} {w : World} {d s f1 : Nat} {s1 : ByteArray} {o : Nat} {verb : ByteArray} {alone : Bool} {c n1 n2 f2 : Nat} {nm nm2 txt : ByteArray} {l2 fb : Int} {a : Option Addr} {n cap : Nat} {lines2 : Value}
    (h : BuiltX lo w d s f1 s1 o verb alone c n1 n2 f2 nm nm2 txt l2 fb a n cap lines2) (p : Int) (hp : p ≠ 0) (hb : ¬ (1 ≤ p ∧ p ≤ 1 + (s1.size : Int))) :
    Calls Tryf.prog 22 #[.pointer (some ⟨d, 0, none⟩), .pointer (some ⟨s, 0, none⟩), .int .i64 p] w fun e w' => e = .returned (.bool false) ∧ Kept [s, f1] w w' := by
  obtain ⟨q, hq⟩ : ∃ q, fileOf f1 f2 s1.size l2 p = q := ⟨_, rfl⟩
  obtain ⟨bb, hbb⟩ : ∃ bb, bb = true := ⟨_, rfl⟩
  have HC : Hid (∀ W : World, W.heap = w.heap → Kept [] w W → Calls Tryf.prog 34 #[.pointer (some ⟨s, 0, none⟩), .int .i64 p] W fun e w' => e = .returned (.pointer q) ∧ w'.cell? ⟨d, 1, none⟩ = some (.pointer (some ⟨f1, 0, none⟩)) ∧ (binOp .neq 36 (.pointer q) (.pointer (some ⟨f1, 0, none⟩))).run Tryf.prog w' = .ok (.bool bb) w' ∧ Kept [s] w w') := File_from h p hp q bb hq (by rw [decide_eq_false hb]; exact hbb)
  have hp2 : (p != 0) = true := by simp [hp]
  have e1 := cell_at h.dir 1
  simp at e1
  subst hbb
  clear h hq hp hb
  go_enter Tryf.func22, Tryf.ntmps22
  go_wp2_with fail
  go_region_with (first
    | (go_at_call 33; refine (isValid_any p _).mono ?_; rintro e w1 ⟨rfl, rfl⟩; rw [hp2])
    | (go_at_call 34; refine (HC.out _ ?_ ?_).mono ?_; rfl; exact (Kept.refl _ _).drew; rintro e w1 ⟨rfl, d1, hbo, k1⟩))
  all_goals
    have HK : Hid (Kept [s, f1] w w1) := k1.mono (by simp)
    clear k1 hbo
    go_wp2_with fail
    go_ret
    exact ⟨rfl, HK.out⟩
end Go.Proofs.Qxb6616684aFmt
