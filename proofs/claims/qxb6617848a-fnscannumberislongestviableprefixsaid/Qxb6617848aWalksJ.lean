/-
  THE WALKS of 'numberByte', 'digitsOnly'. By an AI agent.
-/
import Derived.Test.Qxb6617848aWalksA
import Derived.Test.Qxb6617848aPlainU
import Derived.Deep.DeepCutAuto
namespace Go.Proofs.Qxb6617848a
open Go.RowKit
set_option linter.unusedVariables false

theorem ret_bool {a b : Bool} (h : a = b) : Ending.returned (.bool a) = .returned (.bool b) := by rw [h]

/-- What 'numberByte(t, n, k)' reads: the text u. -/
def Ct (w : World) (a : Option Addr) (l : List Int) (n : Nat) (u : List Int) : Prop :=
  Rd w a l ∧ n ≤ l.length ∧ l.length ≤ 1048576 ∧ ∀ k, (l.take n).getD k 48 = Num.uby u k

set_option maxHeartbeats 400000 in
theorem nb_any (a : Option Addr) (L cap : Nat) (l : List Int) (n : Nat) (u : List Int) (x : Int) (k : Nat) (w : World) (hx : x = (k : Int)) (hL : L = l.length) (h : Ct w a l n u) :
    Calls Try.prog 33 #[.slice a L cap, .int .i64 (n : Int), .int .i64 x] w fun e w' => e = .returned (.int .u8 (Num.uby u k)) ∧ w = w' := by
  obtain ⟨hr, hn, hl, hu⟩ := h
  subst hx hL
  by_cases hk : k < n
  · obtain ⟨b, off, rfl, hc⟩ := hr k (by omega)
    have e : l.getD k 0 = Num.uby u k := by
      rw [← hu k]; simp [List.getD, hk, show k < l.length by omega]
    rw [e] at hc
    clear hr hu e
    go_enter Try.func33, Try.ntmps33
    go_wp2
    go_ret
    exact ⟨rfl, rfl⟩
  · have e : 48 = Num.uby u k := by
      rw [← hu k, List.getD, List.getElem?_eq_none (by rw [List.length_take]; omega)]; rfl
    have HE : Hid (48 = Num.uby u k) := e
    clear hr hu e
    go_enter Try.func33, Try.ntmps33
    go_wp2
    go_ret
    exact ⟨ret_int HE.out, rfl⟩

set_option maxHeartbeats 1000000 in
theorem digitsOnly_any (a : Option Addr) (L cap : Nat) (l : List Int) (n : Nat) (u : List Int) (x y : Int) (A B : Nat) (w : World) (hx : x = (A : Int)) (hy : y = (B : Int)) (hL : L = l.length) (hAB : A ≤ B) (hB : B ≤ 2000000) (h : Ct w a l n u) :
    Calls Try.prog 34 #[.slice a L cap, .int .i64 (n : Int), .int .i64 x, .int .i64 y] w fun e w' => e = .returned (.bool (Num.dOnly u A B)) ∧ w = w' := by
  have HC : Hid (Ct w a l n u) := h
  have HL : Hid (L = l.length) := hL
  subst hx hy
  clear h hL
  go_enter Try.func34, Try.ntmps34
  go_wp2
  go_loop [9] (fun v => ∃ k : Nat, A ≤ k ∧ k ≤ B ∧ v = .int .i64 k ∧ Hid (Num.dOnly u A B = Num.dOnly u k B)) (fun v => B - (intOf v).toNat)
  case atStart => exact ⟨A, Nat.le_refl _, hAB, rfl, rfl⟩
  case round =>
    obtain ⟨k, hk1, hk2, rfl, hk3⟩ := hrel
    by_cases hlt : k < B
    · have hs := Num.dOnly_step u k B hlt
      cases hd : Num.isD (Num.uby u k) with
      | true =>
        have h3 : Hid (Num.dOnly u A B = Num.dOnly u (k + 1) B) := by
          show _ = _; rw [hk3.out, hs, hd]; rfl
        have h1 := (Num.isD_iff.1 hd).1
        have h2 := (Num.isD_iff.1 hd).2
        clear hs hk3 hd
        go_wp2_with (go_at_call 33; refine (nb_any a L cap l n u _ k _ rfl HL.out HC.out).mono ?_; rintro e w' ⟨rfl, rfl⟩)
        go_round
        case rel => exact ⟨k + 1, by omega, by omega, by go_num, h3⟩
        case measure => simp [intOf]; omega
      | false =>
        have h3 : Hid (Num.dOnly u A B = false) := by
          show _ = _; rw [hk3.out, hs, hd]; rfl
        have h12 : Num.uby u k < 48 ∨ (48 ≤ Num.uby u k ∧ 57 < Num.uby u k) := by
          have : ¬ (48 ≤ Num.uby u k ∧ Num.uby u k ≤ 57) := fun h => by rw [Num.isD_iff.2 h] at hd; cases hd
          omega
        clear hs hk3 hd
        rcases h12 with h1 | ⟨h1, h2⟩
        all_goals
          go_wp2_with (go_at_call 33; refine (nb_any a L cap l n u _ k _ rfl HL.out HC.out).mono ?_; rintro e w' ⟨rfl, rfl⟩)
          go_ret
          exact ⟨ret_bool h3.out.symm, rfl⟩
    · have h3 : Hid (Num.dOnly u A B = true) := by
        show _ = _; rw [hk3.out]; exact Num.dOnly_end u k B (by omega)
      clear hk3
      go_wp2_with fail
      go_ret
      exact ⟨ret_bool h3.out.symm, rfl⟩

end Go.Proofs.Qxb6617848a
