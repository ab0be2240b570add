/-
  THE WALK of 'viableNumberPrefix' and of 'FnScanNumberIsLongestViablePrefix'. By an AI agent.
-/
import Derived.Test.Qxb6617848aWalksJ2
import Derived.Test.Qxb6617848aLawE
namespace Go.Proofs.Qxb6617848a
open Go.RowKit
set_option linter.unusedVariables false

theorem U_false (l : List Int) (n : Nat) : Num.U l n false = l.take n := by simp [Num.U]
theorem U_true (l : List Int) (n : Nat) : Num.U l n true = l.take n ++ [48] := by simp [Num.U]

theorem isJ_f (a : Option Addr) (L cap : Nat) (l : List Int) (x : Int) (n : Nat) (w : World) (hx : x = (n : Int)) (hL : L = l.length) (hr : Rd w a l) (hn : n ≤ l.length) (hl : l.length ≤ 1048576) :
    Calls Try.prog 20 #[.slice a L cap, .int .i64 x, .bool false] w fun e w' => e = .returned (.bool (Num.isJ (l.take n))) ∧ w = w' := by
  subst hx; rw [← U_false]; exact isJ_any a L cap l n false w hL hr hn hl
theorem isJ_t (a : Option Addr) (L cap : Nat) (l : List Int) (x : Int) (n : Nat) (w : World) (hx : x = (n : Int)) (hL : L = l.length) (hr : Rd w a l) (hn : n ≤ l.length) (hl : l.length ≤ 1048576) :
    Calls Try.prog 20 #[.slice a L cap, .int .i64 x, .bool true] w fun e w' => e = .returned (.bool (Num.isJ (l.take n ++ [48]))) ∧ w = w' := by
  subst hx; rw [← U_true]; exact isJ_any a L cap l n true w hL hr hn hl

set_option maxHeartbeats 400000 in
theorem viable_any (a : Option Addr) (L cap : Nat) (l : List Int) (x : Int) (n : Nat) (w : World) (hx : x = (n : Int)) (hL : L = l.length) (hr : Rd w a l) (hn : n ≤ l.length) (hl : l.length ≤ 1048576) :
    Calls Try.prog 19 #[.slice a L cap, .int .i64 x] w fun e w' => e = .returned (.bool (Num.viable l n)) ∧ w = w' := by
  have HR : Hid (Rd w a l) := hr
  have HL : Hid (L = l.length) := hL
  subst hx
  clear hr hL
  cases h1 : Num.isJ (l.take n) with
  | true =>
    have HV : Hid (true = Num.viable l n) := by show _ = _; simp [Num.viable, h1]
    go_enter Try.func19, Try.ntmps19
    go_wp2_with fail
    refine (isJ_f a L cap l _ n _ rfl HL.out HR.out hn hl).mono ?_
    rintro e w' ⟨rfl, rfl⟩
    go_wp2_with fail
    go_ret
    exact ⟨ret_bool HV.out, rfl⟩
  | false =>
    have HV : Hid (Num.isJ (l.take n ++ [48]) = Num.viable l n) := by show _ = _; simp [Num.viable, h1]
    go_enter Try.func19, Try.ntmps19
    go_wp2_with fail
    refine (isJ_f a L cap l _ n _ rfl HL.out HR.out hn hl).mono ?_
    rintro e w' ⟨rfl, rfl⟩
    go_wp2_with fail
    refine (isJ_t a L cap l _ n _ rfl HL.out HR.out hn hl).mono ?_
    rintro e w' ⟨rfl, rfl⟩
    go_wp2_with fail
    go_ret
    exact ⟨ret_bool HV.out, rfl⟩

set_option maxHeartbeats 400000 in
theorem zb17 (a : Option Addr) (len cap : Nat) (x : Int) (w : World) (hl : len ≤ 1048576) :
    Calls Try.prog 17 #[.slice a len cap, .int .i64 x] w fun e w' => e = .returned (.bool true) ∧ w = w' := by
  go_enter Try.func17, Try.ntmps17
  go_wp2
  go_ret
  exact ⟨rfl, rfl⟩

set_option maxHeartbeats 400000 in
theorem lawV_big (a : Option Addr) (len cap : Nat) (x : Int) (w : World) (hl : 1048576 < len) (hm : len ≤ 9223372036854775807) :
    Calls Try.prog 4 #[.slice a len cap, .int .i64 x] w fun e w' => e = .returned (.bool true) ∧ w = w' := by
  go_enter Try.func4, Try.ntmps4
  go_wp2
  go_ret
  exact ⟨rfl, rfl⟩

set_option maxHeartbeats 400000 in
theorem lawV_neg (a : Option Addr) (len cap : Nat) (x : Int) (w : World) (hl : len ≤ 1048576) (hx : x < 0) :
    Calls Try.prog 4 #[.slice a len cap, .int .i64 x] w fun e w' => e = .returned (.bool true) ∧ w = w' := by
  go_enter Try.func4, Try.ntmps4
  go_wp2
  go_ret
  exact ⟨rfl, rfl⟩

set_option maxRecDepth 100000 in
set_option maxHeartbeats 1000000 in
theorem lawV_main (a : Option Addr) (len cap : Nat) (l : List Int) (i : Nat) (w : World) (hlen : l.length = len) (hl : len ≤ 1048576) (hi : i ≤ 9223372036854775807)
    (hnil : a = none → len = 0 ∧ cap = 0) (hlc : len ≤ cap) (hm : cap ≤ 9223372036854775807)
    (hsrc : ∀ j v, (l.map (Value.int .u8))[j]? = some v → ∃ ad, a = some ad ∧ w.cell? (ad.add j) = some v) :
    Calls Try.prog 4 #[.slice a len cap, .int .i64 (i : Int)] w fun e w' => e = .returned (.bool true) ∧ Below w.heap.size w w' := by
  obtain ⟨i0, hi0, hz0, hz1, hz2⟩ := info_parts info5
  obtain ⟨W1, W2, hmk, hcp, hbel, hheap⟩ := clone_runs (P := Try.prog) 22 5 i0 (.int .u8 0) Try.underlying22 hi0 hz0 hz1 w a len cap (l.map (Value.int .u8)) (by simpa using hlen) (by rw [hz2]; omega) hl hsrc (by intro v hv; obtain ⟨c, _, rfl⟩ := List.mem_map.1 hv; rfl)
  have HRd : Hid (Rd W2 (some ⟨w.heap.size, 0, none⟩) l) := rd_of_heap hheap
  have HB : Hid (Below w.heap.size w W2) := hbel
  have hne := fun wx => run_neq_slice_nil_any (P := Try.prog) wx 22 5 a len cap 0 0 Try.underlying22
  clear hheap hbel hi0 hz0 hz1 hz2 i0 hsrc
  have HN : Hid (a = none → len = 0 ∧ cap = 0) := hnil
  clear hnil
  have HL : Hid (l.length = len) := hlen
  clear hlen
  go_enter Try.func4, Try.ntmps4
  go_upto_if 22 with (go_at_call 17; refine (zb17 _ _ _ _ _ hl).mono ?_; rintro e w' ⟨rfl, rfl⟩)
  go_cut [0, 5] (fun v _ w1 => ∃ a1 cap1, v = .slice a1 len cap1 ∧ len ≤ cap1 ∧ cap1 ≤ 9223372036854775807 ∧ Hid (Rd w1 a1 l) ∧ Hid (Below w.heap.size w w1))
  case first =>
    cases a with
    | none =>
      have HR : Hid (Rd w none l) := by intro j hj; have := HL.out; have := (HN.out rfl).1; omega
      clear hmk hcp HRd HB
      go_wp2_with fail
      go_meet
      case rel => exact ⟨none, cap, rfl, hlc, hm, HR, Below.refl _ _⟩
    | some ad =>
      go_wp2_with fail
      go_meet
      case rel => exact ⟨_, len, rfl, Nat.le_refl _, by omega, HRd, HB⟩
  case rest =>
    clear hmk hcp HRd HB HN hlc hm hne
    obtain ⟨a1, cap1, rfl, hlc, hm, HR, HB⟩ := hcut
    by_cases hil : len ≤ i
    · have hs : Hid (Num.sc l i = -1) := Num.sc_end l i (by have := HL.out; omega)
      go_wp2_with (go_at_call 18; refine (zzScan_is _ _ _ l _ i (-1) _ rfl HR.out HL.out.symm (by have := HL.out; omega) hi hs.out).mono ?_; rintro e w' ⟨rfl, rfl⟩)
      go_ret
      exact ⟨rfl, HB.out⟩
    · have hilb : i < len := by omega
      obtain ⟨b, off, rfl, hc0⟩ := HR.out 0 (by have := HL.out; omega)
      clear hc0
      obtain ⟨r, hr⟩ : ∃ r, Hid (Num.sc l i = r) := ⟨_, rfl⟩
      obtain ⟨T, hT⟩ : ∃ T, Hid (T = len - i) := ⟨_, rfl⟩
      have hT2 : Hid (T = (l.drop i).length) := by show _ = _; rw [List.length_drop, HL.out]; exact hT.out
      have HT : Hid (Rd wc (some ⟨b, off + i, none⟩) (l.drop i)) := rd_drop HR.out i
      have hTl : T ≤ 1048576 := by have := hT.out; omega
      go_wp2_with (go_at_call 18; refine (zzScan_is _ _ _ l _ i r _ rfl HR.out HL.out.symm (by have := HL.out; omega) hi hr.out).mono ?_; rintro e w' ⟨rfl, rfl⟩)
      go_loop [9, 10] (fun v9 v10 => ∃ lo hi : Nat, lo < hi ∧ hi ≤ T + 1 ∧ v9 = .int .i64 lo ∧ v10 = .int .i64 hi ∧ Hid (Num.viable (l.drop i) lo = true) ∧ Hid (hi = T + 1 ∨ Num.viable (l.drop i) hi = false)) (fun v9 v10 => (intOf v10 - intOf v9).toNat)
      case atStart => exact ⟨0, T + 1, by omega, by omega, rfl, by have := hT.out; go_num, Num.viable_zero _, .inl rfl⟩
      case round =>
        obtain ⟨lo, hi', hlh, hhT, rfl, rfl, hv1, hv2⟩ := hrel
        by_cases hgap : 1 < hi' - lo
        · obtain ⟨mid, hmid⟩ : ∃ mid : Nat, Hid (mid = lo + (hi' - lo) / 2) := ⟨_, rfl⟩
          have hm1 : lo < mid := by have := hmid.out; omega
          have hm2 : mid < hi' := by have := hmid.out; omega
          cases hv : Num.viable (l.drop i) mid with
          | true =>
            go_wp2_with (go_at_call 19; refine (viable_any _ _ _ (l.drop i) _ mid _ ?_ ?_ HT.out ?_ ?_).mono ?_; (have := hmid.out; omega); (rw [← hT2.out]; exact hT.out.symm); (rw [← hT2.out]; omega); (rw [← hT2.out]; omega); rintro e w' ⟨rfl, rfl⟩)
            go_round
            case rel => exact ⟨mid, hi', by omega, by omega, by have := hmid.out; go_num, rfl, hv, hv2⟩
            case measure => simp [intOf]; omega
          | false =>
            go_wp2_with (go_at_call 19; refine (viable_any _ _ _ (l.drop i) _ mid _ ?_ ?_ HT.out ?_ ?_).mono ?_; (have := hmid.out; omega); (rw [← hT2.out]; exact hT.out.symm); (rw [← hT2.out]; omega); (rw [← hT2.out]; omega); rintro e w' ⟨rfl, rfl⟩)
            go_round
            case rel => exact ⟨lo, mid, by omega, by omega, rfl, by have := hmid.out; go_num, hv1, .inr hv⟩
            case measure => simp [intOf]; omega
        · have hlo : hi' = lo + 1 := by omega
          have hlong := Num.longest l i lo (by rw [← hT2.out]; omega) hv1.out (by
            rcases hv2.out with h | h
            · left; rw [← hT2.out]; omega
            · right; rw [← hlo]; exact h)
          rw [hr.out] at hlong
          have hloT : lo ≤ T := by omega
          clear hlo
          cases hJ : Num.isJ ((l.drop i).take lo) with
          | true =>
            rw [hJ, if_pos rfl] at hlong
            have hq : (r == (i : Int) + (lo : Int)) = true := by simp [hlong]
            clear hlong hv1 hv2
            go_wp2_with (go_at_call 20; refine (isJ_f _ _ _ (l.drop i) _ lo _ rfl ?_ HT.out ?_ ?_).mono ?_; (rw [← hT2.out]; exact hT.out.symm); (rw [← hT2.out]; omega); (rw [← hT2.out]; omega); rintro e w' ⟨rfl, rfl⟩)
            go_ret
            exact ⟨rfl, HB.out⟩
          | false =>
            rw [hJ, if_neg (by decide)] at hlong
            have hq : (r == -1) = true := by simp [hlong]
            clear hlong hv1 hv2
            go_wp2_with (go_at_call 20; refine (isJ_f _ _ _ (l.drop i) _ lo _ rfl ?_ HT.out ?_ ?_).mono ?_; (rw [← hT2.out]; exact hT.out.symm); (rw [← hT2.out]; omega); (rw [← hT2.out]; omega); rintro e w' ⟨rfl, rfl⟩)
            go_ret
            exact ⟨rfl, HB.out⟩
end Go.Proofs.Qxb6617848a
