/-
  THE WALK of 'FnScanNumberEndsWhereItsNumberEnds'. By an AI agent.
-/
import Derived.Test.Qxb6617848aWalksB
import Derived.Test.Qxb6617848aClone
namespace Go.Proofs.Qxb6617848a
open Go.RowKit
set_option linter.unusedVariables false

theorem info5 : (Try.prog.info? 5).map (fun i => (i.zero, i.size, i.bytes)) = some (some (.int .u8 0), 1, 1) := by kernel_rfl

/-- the copy reads as the bytes that were copied -/
theorem rd_of_heap {w : World} {g : Nat} {t : TypeId} {l : List Int} (h : w.heap[g]? = some (.cells (l.map (Value.int .u8)).toArray t (0, 0))) : Rd w (some ⟨g, 0, none⟩) l := by
  intro i hi
  refine ⟨g, 0, rfl, ?_⟩
  simp [World.cell?, h, List.getD, hi]

theorem rd_drop {w : World} {b off : Nat} {l : List Int} (h : Rd w (some ⟨b, off, none⟩) l) (i : Nat) : Rd w (some ⟨b, off + i, none⟩) (l.drop i) := by
  intro j hj
  have hj' : i + j < l.length := by rw [List.length_drop] at hj; omega
  obtain ⟨b', off', e, hc⟩ := h (i + j) hj'
  cases e
  refine ⟨b, off + i, rfl, ?_⟩
  rw [Nat.add_assoc, hc]
  simp [List.getD]

theorem rd_take {w : World} {a : Option Addr} {l : List Int} (h : Rd w a l) (n : Nat) : Rd w a (l.take n) := by
  intro j hj
  rw [List.length_take] at hj
  obtain ⟨b, off, e, hc⟩ := h j (by omega)
  refine ⟨b, off, e, ?_⟩
  rw [hc]
  simp [show j < n from by omega]

theorem zzScan_is (a : Option Addr) (cap n : Nat) (l : List Int) (x : Int) (i : Nat) (r : Int) (w : World) (hx : x = (i : Int)) (hr : Rd w a l) (hn : n = l.length) (hl : l.length ≤ 1048576) (hi : i ≤ 9223372036854775807) (hs : Num.sc l i = r) :
    Calls Try.prog 18 #[.slice a n cap, .int .i64 x] w fun e w' => e = .returned (.int .i64 r) ∧ w = w' := by
  rw [← hs]; exact zzScan_any a cap n l x i w hx hr hn hl hi

set_option maxHeartbeats 400000 in
theorem zb21 (a : Option Addr) (len cap : Nat) (x y : Int) (w : World) (hl : len ≤ 1048576) :
    Calls Try.prog 21 #[.slice a len cap, .int .i64 x, .int .i64 y] w fun e w' => e = .returned (.bool true) ∧ w = w' := by
  go_enter Try.func21, Try.ntmps21
  go_wp2
  go_ret
  exact ⟨rfl, rfl⟩

set_option maxHeartbeats 400000 in
theorem lawE_big (a : Option Addr) (len cap : Nat) (x y : Int) (w : World) (hl : 1048576 < len) (hm : len ≤ 9223372036854775807) :
    Calls Try.prog 5 #[.slice a len cap, .int .i64 x, .int .i64 y] w fun e w' => e = .returned (.bool true) ∧ w = w' := by
  go_enter Try.func5, Try.ntmps5
  go_wp2
  go_ret
  exact ⟨rfl, rfl⟩

set_option maxHeartbeats 400000 in
theorem lawE_neg (a : Option Addr) (len cap : Nat) (x y : Int) (w : World) (hl : len ≤ 1048576) (hx : x < 0) :
    Calls Try.prog 5 #[.slice a len cap, .int .i64 x, .int .i64 y] w fun e w' => e = .returned (.bool true) ∧ w = w' := by
  go_enter Try.func5, Try.ntmps5
  go_wp2
  go_ret
  exact ⟨rfl, rfl⟩

set_option maxRecDepth 100000 in
set_option maxHeartbeats 1000000 in
theorem lawE_main (a : Option Addr) (len cap : Nat) (l : List Int) (i : Nat) (y : Int) (w : World) (hlen : l.length = len) (hl : len ≤ 1048576) (hi : i ≤ 9223372036854775807) (hy : -9223372036854775808 ≤ y) (hy2 : y ≤ 9223372036854775807)
    (hnil : a = none → len = 0 ∧ cap = 0) (hlc : len ≤ cap) (hm : cap ≤ 9223372036854775807)
    (hsrc : ∀ j v, (l.map (Value.int .u8))[j]? = some v → ∃ ad, a = some ad ∧ w.cell? (ad.add j) = some v) :
    Calls Try.prog 5 #[.slice a len cap, .int .i64 (i : Int), .int .i64 y] w fun e w' => e = .returned (.bool true) ∧ Below w.heap.size w w' := by
  obtain ⟨i0, hi0, hz0, hz1, hz2⟩ := info_parts info5
  obtain ⟨W1, W2, hmk, hcp, hbel, hheap⟩ := clone_runs (P := Try.prog) 22 5 i0 (.int .u8 0) Try.underlying22 hi0 hz0 hz1 w a len cap (l.map (Value.int .u8)) (by simpa using hlen) (by rw [hz2]; omega) hl hsrc (by intro v hv; obtain ⟨c, _, rfl⟩ := List.mem_map.1 hv; rfl)
  have HRd : Hid (Rd W2 (some ⟨w.heap.size, 0, none⟩) l) := rd_of_heap hheap
  have HB : Hid (Below w.heap.size w W2) := hbel
  have hne := fun wx => run_neq_slice_nil_any (P := Try.prog) wx 22 5 a len cap 0 0 Try.underlying22
  clear hheap hbel hi0 hz0 hz1 hz2 i0 hsrc
  have HN : Hid (a = none → len = 0 ∧ cap = 0) := hnil
  clear hnil
  have HL : Hid (l.length = len) := hlen
  clear hlen
  go_enter Try.func5, Try.ntmps5
  go_upto_if 21 with (go_at_call 21; refine (zb21 _ _ _ _ _ _ hl).mono ?_; rintro e w' ⟨rfl, rfl⟩)
  go_cut [0, 7] (fun v _ w1 => ∃ a1 cap1, v = .slice a1 len cap1 ∧ len ≤ cap1 ∧ cap1 ≤ 9223372036854775807 ∧ Hid (Rd w1 a1 l) ∧ Hid (Below w.heap.size w w1))
  case first =>
    cases a with
    | none =>
      have HR : Hid (Rd w none l) := by intro j hj; have := HL.out; have := (HN.out rfl).1; omega
      clear hmk hcp HRd HB
      go_wp2_with fail
      go_meet
      case rel => exact ⟨none, cap, rfl, hlc, hm, HR, Below.refl _ _⟩
    | some ad =>
      go_wp2_with fail
      go_meet
      case rel => exact ⟨_, len, rfl, Nat.le_refl _, by omega, HRd, HB⟩
  case rest =>
    clear hmk hcp HRd HB HN hlc hm hne
    obtain ⟨a1, cap1, rfl, hlc, hm, HR, HB⟩ := hcut
    by_cases hil : len ≤ i
    · have hs : Hid (Num.sc l i = -1) := Num.sc_end l i (by have := HL.out; omega)
      go_wp2_with (go_at_call 18; refine (zzScan_is _ _ _ l _ i (-1) _ rfl HR.out HL.out.symm (by have := HL.out; omega) hi hs.out).mono ?_; rintro e w' ⟨rfl, rfl⟩)
      go_ret
      exact ⟨rfl, HB.out⟩
    · obtain ⟨b, off, rfl, _⟩ := HR.out 0 (by have := HL.out; omega)
      rcases Num.sc_facts l i with ⟨h1, h2⟩ | ⟨n, hn1, hn2, h1, h2, h3, h4⟩
      · have H1 : Hid (Num.sc l i = -1) := h1
        have H2 : Hid (Num.sc (l.drop i) 0 = -1) := h2
        clear h1 h2
        go_wp2_with fail
        refine (zzScan_is _ _ _ l _ i (-1) _ rfl HR.out HL.out.symm (by have := HL.out; omega) hi H1.out).mono ?_
        rintro e w' ⟨rfl, rfl⟩
        go_wp2_with fail
        refine (zzScan_is _ _ _ (l.drop i) _ 0 (-1) _ rfl (rd_drop HR.out i) (by rw [List.length_drop, HL.out]) (by rw [List.length_drop, HL.out]; omega) (by omega) H2.out).mono ?_
        rintro e w' ⟨rfl, rfl⟩
        go_wp2_with fail
        go_ret
        exact ⟨rfl, HB.out⟩
      · have H1 : Hid (Num.sc l i = (i : Int) + (n : Int)) := by rw [h1]; exact Int.natCast_add i n
        have H2 : Hid (Num.sc (l.drop i) 0 = (n : Int)) := h2
        have H3 : Hid (Num.sc ((l.take (i + n)).drop i) 0 = (n : Int)) := h3
        have H4 : Hid (∀ cut, i + n ≤ cut → Num.sc (l.take cut) i = (i : Int) + (n : Int)) := fun cut hc => by rw [h4 cut hc]; exact Int.natCast_add i n
        have hin : i + n ≤ len := by have := HL.out; omega
        clear h1 h2 h3 h4 hn2
        have c1 : ((i : Int) + (n : Int) == -1) = false := by simp; omega
        have c2 : ((n : Int) != (i : Int) + (n : Int) - (i : Int)) = false := by simp; omega
        by_cases hc1 : (i : Int) + (n : Int) ≤ y
        · by_cases hc2 : y ≤ (len : Int)
          · obtain ⟨cut, rfl⟩ := Int.eq_ofNat_of_zero_le (show 0 ≤ y by omega)
            have c3 : ((i : Int) + (n : Int) != (i : Int) + (n : Int)) = false := by simp
            go_wp2_with fail
            refine (zzScan_is _ _ _ l _ i ((i : Int) + (n : Int)) _ rfl HR.out HL.out.symm (by have := HL.out; omega) hi H1.out).mono ?_
            rintro e w' ⟨rfl, rfl⟩
            go_wp2_with fail
            refine (zzScan_is _ _ _ (l.drop i) _ 0 n _ rfl (rd_drop HR.out i) (by rw [List.length_drop, HL.out]) (by rw [List.length_drop, HL.out]; omega) (by omega) H2.out).mono ?_
            rintro e w' ⟨rfl, rfl⟩
            go_wp2_with fail
            refine (zzScan_is _ _ _ ((l.take (i + n)).drop i) _ 0 n _ rfl (rd_drop (rd_take HR.out (i + n)) i) (by rw [List.length_drop, List.length_take, HL.out]; omega) (by rw [List.length_drop, List.length_take, HL.out]; omega) (by omega) H3.out).mono ?_
            rintro e w' ⟨rfl, rfl⟩
            go_wp2_with fail
            refine (zzScan_is _ _ _ (l.take cut) _ i ((i : Int) + (n : Int)) _ rfl (rd_take HR.out cut) (by rw [List.length_take, HL.out]; omega) (by rw [List.length_take, HL.out]; omega) hi (H4.out cut (by omega))).mono ?_
            rintro e w' ⟨rfl, rfl⟩
            go_wp2_with fail
            go_ret
            exact ⟨rfl, HB.out⟩
          · have hd : decide (y ≤ (len : Int)) = false := by simpa using hc2
            go_wp2_with fail
            refine (zzScan_is _ _ _ l _ i ((i : Int) + (n : Int)) _ rfl HR.out HL.out.symm (by have := HL.out; omega) hi H1.out).mono ?_
            rintro e w' ⟨rfl, rfl⟩
            go_wp2_with fail
            refine (zzScan_is _ _ _ (l.drop i) _ 0 n _ rfl (rd_drop HR.out i) (by rw [List.length_drop, HL.out]) (by rw [List.length_drop, HL.out]; omega) (by omega) H2.out).mono ?_
            rintro e w' ⟨rfl, rfl⟩
            go_wp2_with fail
            refine (zzScan_is _ _ _ ((l.take (i + n)).drop i) _ 0 n _ rfl (rd_drop (rd_take HR.out (i + n)) i) (by rw [List.length_drop, List.length_take, HL.out]; omega) (by rw [List.length_drop, List.length_take, HL.out]; omega) (by omega) H3.out).mono ?_
            rintro e w' ⟨rfl, rfl⟩
            go_wp2_with fail
            go_ret
            exact ⟨rfl, HB.out⟩
        · have hd : decide ((i : Int) + (n : Int) ≤ y) = false := by simpa using hc1
          go_wp2_with fail
          refine (zzScan_is _ _ _ l _ i ((i : Int) + (n : Int)) _ rfl HR.out HL.out.symm (by have := HL.out; omega) hi H1.out).mono ?_
          rintro e w' ⟨rfl, rfl⟩
          go_wp2_with fail
          refine (zzScan_is _ _ _ (l.drop i) _ 0 n _ rfl (rd_drop HR.out i) (by rw [List.length_drop, HL.out]) (by rw [List.length_drop, HL.out]; omega) (by omega) H2.out).mono ?_
          rintro e w' ⟨rfl, rfl⟩
          go_wp2_with fail
          refine (zzScan_is _ _ _ ((l.take (i + n)).drop i) _ 0 n _ rfl (rd_drop (rd_take HR.out (i + n)) i) (by rw [List.length_drop, List.length_take, HL.out]; omega) (by rw [List.length_drop, List.length_take, HL.out]; omega) (by omega) H3.out).mono ?_
          rintro e w' ⟨rfl, rfl⟩
          go_wp2_with fail
          go_ret
          exact ⟨rfl, HB.out⟩

end Go.Proofs.Qxb6617848a
