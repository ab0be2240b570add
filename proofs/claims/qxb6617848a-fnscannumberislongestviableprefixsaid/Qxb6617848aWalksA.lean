/-
  THE WALKS of 'at', 'isDigit', 'skipDigits', 'scanNumber', 'ZZScanNumber': each returns what the plain functions of Qxb6617848aPlain.lean say; the world is as it was. By an AI agent.
-/
import Derived.Test.Qxb6617848aProg
import Derived.Test.Qxb6617848aPlain
import Derived.WalkKit
import Derived.WalkSpells
import Derived.WalkLawsBesides
namespace Go.Proofs.Qxb6617848a
open Go.RowKit
set_option linter.unusedVariables false

/-- The slice that begins at 'a' reads, in w, as the bytes l. -/
def Rd (w : World) (a : Option Addr) (l : List Int) : Prop :=
  ∀ i, i < l.length → ∃ b off, a = some ⟨b, off, none⟩ ∧ w.cell? ⟨b, off + i, none⟩ = some (.int .u8 (l.getD i 0))

/-- the byte at place i, 0 past the end: a name that the walk does not open -/
def byt (l : List Int) (i : Nat) : Int := l.getD i 0

theorem ret_int {k : IntKind} {a b : Int} (h : a = b) : Ending.returned (.int k a) = .returned (.int k b) := by rw [h]

set_option maxHeartbeats 400000 in
theorem at_any (a : Option Addr) (cap : Nat) (l : List Int) (i : Nat) (w : World) (hr : Rd w a l) (hl : l.length ≤ 1048576) :
    Calls Try.prog 37 #[.slice a l.length cap, .int .i64 i] w fun e w' => e = .returned (.int .u8 (byt l i)) ∧ w = w' := by
  by_cases h : i < l.length
  · obtain ⟨b, off, rfl, hc⟩ := hr i h
    clear hr
    go_enter Try.func37, Try.ntmps37
    go_wp2
    go_ret
    exact ⟨ret_int (by simp [byt, List.getD, h]), rfl⟩
  · clear hr
    go_enter Try.func37, Try.ntmps37
    go_wp2
    go_ret
    exact ⟨ret_int (by simp [byt, List.getD, h]), rfl⟩

set_option maxHeartbeats 400000 in
theorem isDigit_any (c : Int) (w : World) :
    Calls Try.prog 38 #[.int .u8 c] w fun e w' => e = .returned (.bool (Num.isD c)) ∧ w = w' := by
  by_cases h1 : 48 ≤ c
  · by_cases h2 : c ≤ 57
    · go_enter Try.func38, Try.ntmps38
      go_wp2
      go_ret
      exact ⟨by simp [Num.isD, h1, h2], rfl⟩
    · go_enter Try.func38, Try.ntmps38
      go_wp2
      go_ret
      exact ⟨by simp [Num.isD, h1, h2], rfl⟩
  · go_enter Try.func38, Try.ntmps38
    go_wp2
    go_ret
    exact ⟨by rw [Num.isD, decide_eq_false (by omega : ¬ 48 ≤ c)]; rfl, rfl⟩

/-- a list's digits from place j on, when the byte at j is a digit -/
theorem digs_step (l : List Int) (j : Nat) (h : Num.isD (byt l j) = true) : j < l.length ∧ Num.digs (l.drop j) = Num.digs (l.drop (j + 1)) + 1 := by
  unfold byt at h
  rcases Num.drop_cases l j with ⟨h1, h0⟩ | h1
  · rw [h0] at h; exact absurd h (by decide)
  · refine ⟨?_, by rw [h1]; exact Num.digs_cons h⟩
    rcases Nat.lt_or_ge j l.length with h2 | h2
    · exact h2
    · rw [List.drop_eq_nil_of_le h2] at h1; simp at h1
theorem digs_stop (l : List Int) (j : Nat) (h : Num.isD (byt l j) = false) : Num.digs (l.drop j) = 0 := by
  unfold byt at h
  rcases Num.drop_cases l j with ⟨h1, h0⟩ | h1
  · rw [h1]; rfl
  · rw [h1]; simp only [Num.digs, h]; rfl
theorem digs_le (l : List Int) : Num.digs l ≤ l.length := by
  have := Num.R_le l 8 _ (Num.R8 l); exact this

set_option maxHeartbeats 400000 in
theorem skipDigits_any (a : Option Addr) (cap : Nat) (l : List Int) (i : Nat) (w : World) (hr : Rd w a l) (hl : l.length ≤ 1048576) (hi : i ≤ l.length) :
    Calls Try.prog 39 #[.slice a l.length cap, .int .i64 i] w fun e w' => e = .returned (.int .i64 ((i + Num.digs (l.drop i) : Nat) : Int)) ∧ w = w' := by
  have HR : Hid (Rd w a l) := hr
  clear hr
  go_enter Try.func39, Try.ntmps39
  go_wp2
  go_loop [1] (fun v => ∃ k : Nat, i ≤ k ∧ k ≤ l.length ∧ v = .int .i64 k ∧ Hid (k + Num.digs (l.drop k) = i + Num.digs (l.drop i))) (fun v => l.length - (intOf v).toNat)
  case atStart => exact ⟨i, Nat.le_refl _, hi, rfl, rfl⟩
  case round =>
    obtain ⟨k, hk1, hk2, rfl, hk3⟩ := hrel
    cases hd : Num.isD (byt l k) with
    | true =>
      have hs := digs_step l k hd
      obtain ⟨hlt, hs2⟩ := hs
      have hs3 : Hid (k + 1 + Num.digs (l.drop (k + 1)) = i + Num.digs (l.drop i)) := by have := hk3.out; show _ = _; omega
      clear hs2 hk3
      go_wp2_with (first | (go_at_call 37; refine (at_any a cap l k _ HR.out hl).mono ?_; rintro e w' ⟨rfl, rfl⟩) | (go_at_call 38; refine (isDigit_any _ _).mono ?_; rintro e w' ⟨rfl, rfl⟩))
      go_round
      case rel => exact ⟨k + 1, by omega, by omega, by go_num, hs3⟩
      case measure => simp [intOf]; omega
    | false =>
      have hs := digs_stop l k hd
      have hs3 : Hid (k = i + Num.digs (l.drop i)) := by have := hk3.out; show _ = _; omega
      clear hs hk3
      go_wp2_with (first | (go_at_call 37; refine (at_any a cap l k _ HR.out hl).mono ?_; rintro e w' ⟨rfl, rfl⟩) | (go_at_call 38; refine (isDigit_any _ _).mono ?_; rintro e w' ⟨rfl, rfl⟩))
      go_ret
      exact ⟨ret_int (by rw [← hs3.out]), rfl⟩

end Go.Proofs.Qxb6617848a
