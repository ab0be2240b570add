/-
  THE WALK of 'scanNumber' and 'ZZScanNumber'. By an AI agent.
-/
import Derived.Test.Qxb6617848aWalksA
import Derived.Deep.DeepCutAuto
namespace Go.Proofs.Qxb6617848a
open Go.RowKit
set_option linter.unusedVariables false

theorem byt_lt {l : List Int} {j : Nat} (h : byt l j ≠ 0) : j < l.length := by
  rcases Nat.lt_or_ge j l.length with h1 | h1
  · exact h1
  · exfalso; apply h; simp [byt, List.getD, h1]
theorem byt_lt_eq {l : List Int} {j : Nat} {c : Int} (h : (byt l j == c) = true) (hc : c ≠ 0) : j < l.length :=
  byt_lt (by have : byt l j = c := by simpa using h
             rw [this]; exact hc)
theorem byt_lt_D {l : List Int} {j : Nat} (h : Num.isD (byt l j) = true) : j < l.length :=
  byt_lt (by intro e; rw [e] at h; exact absurd h (by decide))

theorem scan_minus {l : List Int} {i : Nat} (h : (byt l i == 45) = true) : Num.scan l i = Num.scanI l (i + 1) := by
  have : l.getD i 0 = 45 := by simpa [byt] using h
  simp only [Num.scan, this, if_true]
theorem scan_plain {l : List Int} {i : Nat} (h : (byt l i == 45) = false) : Num.scan l i = Num.scanI l i := by
  have : ¬ l.getD i 0 = 45 := by simpa [byt] using h
  simp only [Num.scan, this, if_false]
theorem scanI_zero {l : List Int} {i : Nat} (h : (byt l i == 48) = true) : Num.scanI l i = Num.scanF l (i + 1) := by
  have : l.getD i 0 = 48 := by simpa [byt] using h
  simp only [Num.scanI, this, if_true]
theorem scanI_digs {l : List Int} {i : Nat} (h : (byt l i == 48) = false) (hd : Num.isD (byt l i) = true) : Num.scanI l i = Num.scanF l (i + Num.digs (l.drop i)) := by
  have : ¬ l.getD i 0 = 48 := by simpa [byt] using h
  have hd' : Num.isD (l.getD i 0) = true := hd
  simp only [Num.scanI, this, hd', if_false, if_true]
theorem scanI_none {l : List Int} {i : Nat} (h : (byt l i == 48) = false) (hd : Num.isD (byt l i) = false) : Num.scanI l i = none := by
  have : ¬ l.getD i 0 = 48 := by simpa [byt] using h
  have hd' : ¬ Num.isD (l.getD i 0) = true := by simpa [byt] using hd
  rw [Num.scanI, if_neg this, if_neg hd']
theorem scanF_dot {l : List Int} {i : Nat} (h : (byt l i == 46) = true) (hd : Num.isD (byt l (i + 1)) = true) : Num.scanF l i = Num.scanE l (i + 1 + Num.digs (l.drop (i + 1))) := by
  have : l.getD i 0 = 46 := by simpa [byt] using h
  have hd' : Num.isD (l.getD (i + 1) 0) = true := hd
  simp only [Num.scanF, this, hd', if_true]
theorem scanF_none {l : List Int} {i : Nat} (h : (byt l i == 46) = true) (hd : Num.isD (byt l (i + 1)) = false) : Num.scanF l i = none := by
  have : l.getD i 0 = 46 := by simpa [byt] using h
  have hd' : ¬ Num.isD (l.getD (i + 1) 0) = true := by simpa [byt] using hd
  rw [Num.scanF, if_pos this, if_neg hd']
theorem scanF_plain {l : List Int} {i : Nat} (h : (byt l i == 46) = false) : Num.scanF l i = Num.scanE l i := by
  have : ¬ l.getD i 0 = 46 := by simpa [byt] using h
  simp only [Num.scanF, this, if_false]
theorem isE_of {c : Int} (h : (c == 101) = true ∨ (c == 69) = true) : Num.isE c = true := by simpa [Num.isE] using h
theorem isE_no {c : Int} (h1 : (c == 101) = false) (h2 : (c == 69) = false) : Num.isE c = false := by simp [Num.isE, h1, h2]
theorem isS_of {c : Int} (h : (c == 43) = true ∨ (c == 45) = true) : Num.isS c = true := by simpa [Num.isS] using h
theorem isS_no {c : Int} (h1 : (c == 43) = false) (h2 : (c == 45) = false) : Num.isS c = false := by simp [Num.isS, h1, h2]
theorem scanE_plain {l : List Int} {i : Nat} (h : Num.isE (byt l i) = false) : Num.scanE l i = some i := by
  have h' : ¬ Num.isE (l.getD i 0) = true := by simpa [byt] using h
  rw [Num.scanE, if_neg h']
/-- where the exponent's digits begin -/
theorem scanE_from {l : List Int} {i j : Nat} (h : Num.isE (byt l i) = true) (hj : (Num.isS (byt l (i + 1)) = true ∧ j = i + 2) ∨ (Num.isS (byt l (i + 1)) = false ∧ j = i + 1)) :
    Num.scanE l i = if Num.isD (byt l j) = true then some (j + Num.digs (l.drop j)) else none := by
  have h' : Num.isE (l.getD i 0) = true := h
  rcases hj with ⟨hs, rfl⟩ | ⟨hs, rfl⟩
  · have hs' : Num.isS (l.getD (i + 1) 0) = true := hs
    rw [Num.scanE, if_pos h', if_pos hs']; rfl
  · have hs' : ¬ Num.isS (l.getD (i + 1) 0) = true := by simpa [byt] using hs
    rw [Num.scanE, if_pos h', if_neg hs']; rfl

theorem sc_of_none {l : List Int} {i : Nat} (h : Num.scan l i = none) : Num.sc l i = -1 := by simp [Num.sc, h, Num.ans]
theorem sc_of_some {l : List Int} {i n : Nat} (h : Num.scan l i = some n) : Num.sc l i = n := by simp [Num.sc, h, Num.ans]

theorem at_int (a : Option Addr) (cap : Nat) (l : List Int) (x : Int) (i : Nat) (w : World) (hx : x = (i : Int)) (hr : Rd w a l) (hl : l.length ≤ 1048576) :
    Calls Try.prog 37 #[.slice a l.length cap, .int .i64 x] w fun e w' => e = .returned (.int .u8 (byt l i)) ∧ w = w' := by
  subst hx; exact at_any a cap l i w hr hl
theorem skipDigits_int (a : Option Addr) (cap : Nat) (l : List Int) (x : Int) (i : Nat) (w : World) (hx : x = (i : Int)) (hr : Rd w a l) (hl : l.length ≤ 1048576) (hi : i ≤ l.length) :
    Calls Try.prog 39 #[.slice a l.length cap, .int .i64 x] w fun e w' => e = .returned (.int .i64 ((i + Num.digs (l.drop i) : Nat) : Int)) ∧ w = w' := by
  subst hx; exact skipDigits_any a cap l i w hr hl hi

set_option maxHeartbeats 1000000 in
theorem scanNumber_any (a : Option Addr) (cap : Nat) (l : List Int) (i : Nat) (w : World) (hr : Rd w a l) (hl : l.length ≤ 1048576) (hi : i ≤ 9223372036854775807) :
    Calls Try.prog 32 #[.slice a l.length cap, .int .i64 i] w fun e w' => e = .returned (.int .i64 (Num.sc l i)) ∧ w = w' := by
  have HR : Hid (Rd w a l) := hr
  clear hr
  go_enter Try.func32, Try.ntmps32
  go_upto_if 8 with (go_at_call 37; refine (at_any a cap l _ _ HR.out hl).mono ?_; rintro e w' ⟨rfl, rfl⟩)
  go_cut [1] (fun v w1 => ∃ j : Nat, v = .int .i64 j ∧ w = w1 ∧ j ≤ 9223372036854775807 ∧ Hid (Num.scan l i = Num.scanI l j))
  case first =>
    cases h45 : (byt l i == 45) with
    | true =>
      have hlt := byt_lt_eq h45 (by decide)
      go_wp2_with fail
      go_meet
      case rel => exact ⟨i + 1, by go_num, rfl, by omega, scan_minus h45⟩
    | false =>
      go_wp2_with fail
      go_meet
      case rel => exact ⟨i, rfl, rfl, hi, scan_plain h45⟩
  case rest =>
    obtain ⟨j, rfl, rfl, hj, hjs⟩ := hcut
    clear hi
    go_upto_if 14 with (go_at_call 37; refine (at_any a cap l _ _ HR.out hl).mono ?_; rintro e w' ⟨rfl, rfl⟩)
    go_cut [1] (fun v w1 => ∃ j : Nat, v = .int .i64 j ∧ w = w1 ∧ j ≤ l.length ∧ Hid (Num.scan l i = Num.scanF l j))
    case first =>
      cases h48 : (byt l j == 48) with
      | true =>
        have hlt := byt_lt_eq h48 (by decide)
        have hs : Hid (Num.scan l i = Num.scanF l (j + 1)) := hjs.out.trans (scanI_zero h48)
        go_wp2_with fail
        go_meet
        case rel => exact ⟨j + 1, by go_num, rfl, by omega, hs⟩
      | false =>
        cases hd : Num.isD (byt l j) with
        | true =>
          have hlt := byt_lt_D hd
          have hle := digs_le (l.drop j)
          have hle2 : j + Num.digs (l.drop j) ≤ l.length := by rw [List.length_drop] at hle; omega
          have hs : Hid (Num.scan l i = Num.scanF l (j + Num.digs (l.drop j))) := hjs.out.trans (scanI_digs h48 hd)
          clear hle
          go_wp2_with (first | (go_at_call 37; refine (at_any a cap l _ _ HR.out hl).mono ?_; rintro e w' ⟨rfl, rfl⟩) | (go_at_call 38; refine (isDigit_any _ _).mono ?_; rintro e w' ⟨rfl, rfl⟩) | (go_at_call 39; refine (skipDigits_any a cap l j _ HR.out hl (by omega)).mono ?_; rintro e w' ⟨rfl, rfl⟩))
          go_meet
          case rel => exact ⟨j + Num.digs (l.drop j), by go_num, rfl, hle2, hs⟩
        | false =>
          have hs : Hid (Num.sc l i = -1) := sc_of_none (hjs.out.trans (scanI_none h48 hd))
          go_wp2_with (first | (go_at_call 37; refine (at_any a cap l _ _ HR.out hl).mono ?_; rintro e w' ⟨rfl, rfl⟩) | (go_at_call 38; refine (isDigit_any _ _).mono ?_; rintro e w' ⟨rfl, rfl⟩))
          go_ret
          exact ⟨ret_int hs.out.symm, rfl⟩
    case rest =>
      clear hjs hj
      obtain ⟨j1, rfl, rfl, hj1, hjs⟩ := hcut
      go_upto_if 27 with (go_at_call 37; refine (at_any a cap l _ _ HR.out hl).mono ?_; rintro e w' ⟨rfl, rfl⟩)
      go_cut [1] (fun v w1 => ∃ j : Nat, v = .int .i64 j ∧ w = w1 ∧ j ≤ l.length ∧ Hid (Num.scan l i = Num.scanE l j))
      case first =>
        cases h46 : (byt l j1 == 46) with
        | true =>
          have hlt := byt_lt_eq h46 (by decide)
          cases hd : Num.isD (byt l (j1 + 1)) with
          | true =>
            have hlt1 := byt_lt_D hd
            have hle := digs_le (l.drop (j1 + 1))
            have hle2 : j1 + 1 + Num.digs (l.drop (j1 + 1)) ≤ l.length := by rw [List.length_drop] at hle; omega
            have hs : Hid (Num.scan l i = Num.scanE l (j1 + 1 + Num.digs (l.drop (j1 + 1)))) := hjs.out.trans (scanF_dot h46 hd)
            clear hle
            go_wp2_with (first | (go_at_call 37; refine (at_int a cap l _ (j1 + 1) _ (by omega) HR.out hl).mono ?_; rintro e w' ⟨rfl, rfl⟩) | (go_at_call 38; refine (isDigit_any _ _).mono ?_; rintro e w' ⟨rfl, rfl⟩) | (go_at_call 39; refine (skipDigits_int a cap l _ (j1 + 1) _ (by omega) HR.out hl (by omega)).mono ?_; rintro e w' ⟨rfl, rfl⟩))
            go_meet
            case rel => exact ⟨_, rfl, rfl, hle2, hs⟩
          | false =>
            have hs : Hid (Num.sc l i = -1) := sc_of_none (hjs.out.trans (scanF_none h46 hd))
            go_wp2_with (first | (go_at_call 37; refine (at_int a cap l _ (j1 + 1) _ (by omega) HR.out hl).mono ?_; rintro e w' ⟨rfl, rfl⟩) | (go_at_call 38; refine (isDigit_any _ _).mono ?_; rintro e w' ⟨rfl, rfl⟩))
            go_ret
            exact ⟨ret_int hs.out.symm, rfl⟩
        | false =>
          have hs : Hid (Num.scan l i = Num.scanE l j1) := hjs.out.trans (scanF_plain h46)
          go_wp2_with fail
          go_meet
          case rel => exact ⟨j1, rfl, rfl, hj1, hs⟩
      case rest =>
        clear hjs hj1
        obtain ⟨j2, rfl, rfl, hj2, hjs⟩ := hcut
        cases he : Num.isE (byt l j2) with
        | false =>
          have h101 : (byt l j2 == 101) = false := by rw [Num.isE] at he; exact (Bool.or_eq_false_iff.1 he).1
          have h69 : (byt l j2 == 69) = false := by rw [Num.isE] at he; exact (Bool.or_eq_false_iff.1 he).2
          have hs : Hid (Num.sc l i = j2) := sc_of_some (hjs.out.trans (scanE_plain he))
          clear he
          go_wp2_with (go_at_call 37; refine (at_any a cap l _ _ HR.out hl).mono ?_; rintro e w' ⟨rfl, rfl⟩)
          go_ret
          exact ⟨ret_int hs.out.symm, rfl⟩
        | true =>
          have hlt : j2 < l.length := byt_lt (by intro e; rw [e] at he; exact absurd he (by decide))
          have hE : (byt l j2 == 101) = true ∨ ((byt l j2 == 101) = false ∧ (byt l j2 == 69) = true) := by
            rw [Num.isE] at he
            cases h : (byt l j2 == 101) with
            | true => exact .inl rfl
            | false => rw [h] at he; exact .inr ⟨rfl, he⟩
          have hS : ∃ j, Hid (j = j2 + 2 ∧ Num.scanE l j2 = if Num.isD (byt l j) = true then some (j + Num.digs (l.drop j)) else none) ∧ ((byt l (j2 + 1) == 43) = true ∨ ((byt l (j2 + 1) == 43) = false ∧ (byt l (j2 + 1) == 45) = true)) ∨
              Hid (j = j2 + 1 ∧ Num.scanE l j2 = if Num.isD (byt l j) = true then some (j + Num.digs (l.drop j)) else none) ∧ (byt l (j2 + 1) == 43) = false ∧ (byt l (j2 + 1) == 45) = false := by
            cases hs : Num.isS (byt l (j2 + 1)) with
            | true =>
              refine ⟨j2 + 2, .inl ⟨⟨rfl, scanE_from he (.inl ⟨hs, rfl⟩)⟩, ?_⟩⟩
              rw [Num.isS] at hs
              cases h : (byt l (j2 + 1) == 43) with
              | true => exact .inl rfl
              | false => rw [h] at hs; exact .inr ⟨rfl, hs⟩
            | false =>
              refine ⟨j2 + 1, .inr ⟨⟨rfl, scanE_from he (.inr ⟨hs, rfl⟩)⟩, ?_⟩⟩
              rw [Num.isS] at hs
              exact Bool.or_eq_false_iff.1 hs
          clear he
          obtain ⟨j, hS⟩ := hS
          cases hd : Num.isD (byt l j) with
          | true =>
            have hltj := byt_lt_D hd
            have hle := digs_le (l.drop j)
            have hle2 : j + Num.digs (l.drop j) ≤ l.length := by rw [List.length_drop] at hle; omega
            have hs : Hid (Num.sc l i = ((j + Num.digs (l.drop j) : Nat) : Int)) := by
              refine sc_of_some (hjs.out.trans ?_)
              rcases hS with ⟨hJ, _⟩ | ⟨hJ, _⟩ <;> exact hJ.out.2.trans (if_pos hd)
            clear hle hjs
            rcases hE with h101 | ⟨h101, h69⟩ <;> rcases hS with ⟨hJ, h43 | ⟨h43, h45⟩⟩ | ⟨hJ, h43, h45⟩
            all_goals
              have hJ1 := hJ.out.1
              have HJ : Hid (j = _) := hJ1
              have hd2 := hd
              rw [hJ1] at hd2
              clear hJ hJ1
              go_wp2_with (first | (go_at_call 37; refine (at_int a cap l _ j2 _ ?_ HR.out hl).mono ?_; omega; rintro e w' ⟨rfl, rfl⟩) | (go_at_call 37; refine (at_int a cap l _ (j2 + 1) _ ?_ HR.out hl).mono ?_; omega; rintro e w' ⟨rfl, rfl⟩) | (go_at_call 37; refine (at_int a cap l _ j _ ?_ HR.out hl).mono ?_; (have := HJ.out; omega); rintro e w' ⟨rfl, rfl⟩) | (go_at_call 38; refine (isDigit_any _ _).mono ?_; rintro e w' ⟨rfl, rfl⟩) | (go_at_call 39; refine (skipDigits_int a cap l _ j _ ?_ HR.out hl ?_).mono ?_; (have := HJ.out; omega); omega; rintro e w' ⟨rfl, rfl⟩))
              go_ret
              exact ⟨ret_int hs.out.symm, rfl⟩
          | false =>
            have hs : Hid (Num.sc l i = -1) := by
              refine sc_of_none (hjs.out.trans ?_)
              rcases hS with ⟨hJ, _⟩ | ⟨hJ, _⟩ <;> exact hJ.out.2.trans (if_neg (by rw [hd]; decide))
            clear hjs
            rcases hE with h101 | ⟨h101, h69⟩ <;> rcases hS with ⟨hJ, h43 | ⟨h43, h45⟩⟩ | ⟨hJ, h43, h45⟩
            all_goals
              have hJ1 := hJ.out.1
              have HJ : Hid (j = _) := hJ1
              have hd2 := hd
              rw [hJ1] at hd2
              clear hJ hJ1
              go_wp2_with (first | (go_at_call 37; refine (at_int a cap l _ j2 _ ?_ HR.out hl).mono ?_; omega; rintro e w' ⟨rfl, rfl⟩) | (go_at_call 37; refine (at_int a cap l _ (j2 + 1) _ ?_ HR.out hl).mono ?_; omega; rintro e w' ⟨rfl, rfl⟩) | (go_at_call 37; refine (at_int a cap l _ j _ ?_ HR.out hl).mono ?_; (have := HJ.out; omega); rintro e w' ⟨rfl, rfl⟩) | (go_at_call 38; refine (isDigit_any _ _).mono ?_; rintro e w' ⟨rfl, rfl⟩))
              go_ret
              exact ⟨ret_int hs.out.symm, rfl⟩

set_option maxHeartbeats 400000 in
theorem zzScan_any (a : Option Addr) (cap n : Nat) (l : List Int) (x : Int) (i : Nat) (w : World) (hx : x = (i : Int)) (hr : Rd w a l) (hn : n = l.length) (hl : l.length ≤ 1048576) (hi : i ≤ 9223372036854775807) :
    Calls Try.prog 18 #[.slice a n cap, .int .i64 x] w fun e w' => e = .returned (.int .i64 (Num.sc l i)) ∧ w = w' := by
  subst hx hn
  have HR : Hid (Rd w a l) := hr
  clear hr
  go_enter Try.func18, Try.ntmps18
  go_wp2_with (go_at_call 32; refine (scanNumber_any a cap l i _ HR.out hl hi).mono ?_; rintro e w' ⟨rfl, rfl⟩)
  go_ret
  exact ⟨rfl, rfl⟩
end Go.Proofs.Qxb6617848a
