/-
  THE WALKS of 'ZZcovers', 'zzBytes', and what the two laws stand on. By an AI agent.
-/
import Derived.Test.Qxb6616684aFmtCoversIn
namespace Go.Proofs.Qxb6616684aFmt
open Go.RowKit
set_option linter.unusedVariables false

theorem covers_any {lo : Nat} {w : World} {d s f1 : Nat} {s1 : ByteArray} {o : Nat} {verb : ByteArray} {alone : Bool} (h : BuiltAt lo w d s f1 s1 o verb alone) (p : Int) :
    Calls Tryf.prog 22 #[.pointer (some ⟨d, 0, none⟩), .pointer (some ⟨s, 0, none⟩), .int .i64 p] w fun e w' => e = .returned (.bool (coversOf s1 o verb alone p)) ∧ Kept [s, f1] w w' := by
  obtain ⟨c, n1, n2, f2, nm, nm2, txt, l2, fb, a, n, cap, lines2, H⟩ := h
  by_cases hb : 1 ≤ p ∧ p ≤ 1 + (s1.size : Int)
  · exact covers_in H p hb
  · have hf : coversOf s1 o verb alone p = false := by unfold coversOf; rw [if_neg hb]
    rw [hf]
    by_cases hp : p = 0
    · subst hp; exact covers_zero H
    · exact covers_out H p hp hb

set_option maxRecDepth 100000 in
set_option maxHeartbeats 400000 in
theorem zzCovers_any {lo : Nat} {w : World} {d s f1 : Nat} {s1 : ByteArray} {o : Nat} {verb : ByteArray} {alone : Bool} (h : BuiltAt lo w d s f1 s1 o verb alone) (p : Int) :
    Calls Tryf.prog 9 #[.pointer (some ⟨d, 0, none⟩), .pointer (some ⟨s, 0, none⟩), .int .i64 p] w fun e w' => e = .returned (.bool (coversOf s1 o verb alone p)) ∧ Kept [s, f1] w w' := by
  have HB : Hid (BuiltAt lo w d s f1 s1 o verb alone) := h
  clear h
  go_enter Tryf.func9, Tryf.ntmps9
  go_wp2_with fail
  refine (covers_any HB.out p).mono ?_
  rintro e w1 ⟨rfl, k1⟩
  have HK : Hid (Kept [s, f1] w w1) := k1
  clear k1
  go_wp2_with fail
  go_ret
  exact ⟨rfl, HK.out⟩

def IsB (e : Ending) : Prop := ∃ b : Bool, e = .returned (.bool b)
theorem isB (b : Bool) : IsB (.returned (.bool b)) := ⟨b, rfl⟩

set_option maxRecDepth 100000 in
set_option maxHeartbeats 1000000 in
theorem zzBytes6_any (s1 s2 v : ByteArray) (x p : Int) (alone : Bool) (w : World) :
    Calls Tryf.prog 6 #[.string s1, .string s2, .int .i64 x, .string v, .bool alone, .int .i64 p] w fun e w' => IsB e ∧ w = w' := by
  go_enter Tryf.func6, Tryf.ntmps6
  go_wp2
  all_goals
    go_ret
    exact ⟨isB _, rfl⟩

set_option maxRecDepth 100000 in
set_option maxHeartbeats 1000000 in
theorem zzBytes12_any (s1 s2 v : ByteArray) (x p : Int) (alone : Bool) (w : World) :
    Calls Tryf.prog 12 #[.string s1, .string s2, .int .i64 x, .string v, .bool alone, .int .i64 p] w fun e w' => IsB e ∧ w = w' := by
  go_enter Tryf.func12, Tryf.ntmps12
  go_wp2
  all_goals
    go_ret
    exact ⟨isB _, rfl⟩

/-- the place is a place of the first text -/
def inside (s1 : ByteArray) (p : Int) : Bool := decide (1 ≤ p ∧ p ≤ 1 + (s1.size : Int))
theorem covers_outside {s1 : ByteArray} {o : Nat} {v : ByteArray} {al : Bool} {p : Int} (h : ¬ (1 ≤ p ∧ p ≤ 1 + (s1.size : Int))) : coversOf s1 o v al p = false := by unfold coversOf; rw [if_neg h]
theorem covers_file {s1 : ByteArray} {o : Nat} {v : ByteArray} {al : Bool} {p : Int} (h : 1 ≤ p ∧ p ≤ 1 + (s1.size : Int)) (hv : isFile v = true) : coversOf s1 o v al p = true := by unfold coversOf; rw [if_pos h, hv]; rfl
theorem covers_line {s1 : ByteArray} {o : Nat} {v : ByteArray} {p : Int} (h : 1 ≤ p ∧ p ≤ 1 + (s1.size : Int)) (hv : isFile v = false) : coversOf s1 o v false p = ((Ln.lineOf (B s1) (p - 1).toNat : Int) == (Ln.lineOf (B s1) o : Int)) := by
  unfold coversOf; rw [if_pos h, hv]; simp
theorem covers_below {s1 : ByteArray} {o : Nat} {v : ByteArray} {p : Int} (h : 1 ≤ p ∧ p ≤ 1 + (s1.size : Int)) (hv : isFile v = false) : coversOf s1 o v true p = (((Ln.lineOf (B s1) (p - 1).toNat : Int) == (Ln.lineOf (B s1) o : Int)) || ((Ln.lineOf (B s1) (p - 1).toNat : Int) == (Ln.lineOf (B s1) o : Int) + 1)) := by
  unfold coversOf; rw [if_pos h, hv]; simp
theorem lineOf_le (s1 : ByteArray) (k : Nat) (h : s1.size ≤ 65536) : Ln.lineOf (B s1) k ≤ 65536 := by
  have h1 := Ln.linesTo_le (B s1) (min (B s1).length (k + 1))
  unfold Ln.lineOf
  rw [B_length] at h1 ⊢
  omega
end Go.Proofs.Qxb6616684aFmt
