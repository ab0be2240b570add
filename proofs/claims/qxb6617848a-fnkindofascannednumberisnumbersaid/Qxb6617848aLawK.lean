/-
  THE WALK of 'FnKindOfAScannedNumberIsNumber'. By an AI agent.
-/
import Derived.Test.Qxb6617848aLawE
namespace Go.Proofs.Qxb6617848a
open Go.RowKit
set_option linter.unusedVariables false

theorem rd_below {w w' : World} {a : Option Addr} {l : List Int} (h : Rd w a l) (hb : Below w.heap.size w w') : Rd w' a l := by
  intro i hi
  obtain ⟨b, off, e, hc⟩ := h i hi
  refine ⟨b, off, e, ?_⟩
  rw [hb.cell (lt_of_cell hc)]
  exact hc

set_option maxHeartbeats 400000 in
theorem kind_any (b off n cap : Nat) (c : Int) (w : World) (hn : 0 < n) (hnc : n ≤ 1048576) (hc : w.cell? ⟨b, off, none⟩ = some (.int .u8 c)) (hk : c = 45 ∨ Num.isD c = true) :
    Calls Try.prog 35 #[.agg #[.slice (some ⟨b, off, none⟩) n cap, .pointer none, .int .i64 0]] w fun e w' => e = .returned (.int .u8 3) ∧ Below w.heap.size w w' := by
  have hc2 : ∀ o, (w.alloc o).cell? ⟨b, off, none⟩ = some (.int .u8 c) := fun o => by rw [World.cell?_alloc_lt w _ _ (lt_of_cell hc)]; exact hc
  have k1 : 45 ≤ c := by rcases hk with h | h; omega; have := Num.isD_iff.1 h; omega
  have k2 : c ≤ 57 := by rcases hk with h | h; omega; have := Num.isD_iff.1 h; omega
  have hne := fun wx => Lib.run_eql_slice_nil (P := Try.prog) wx 22 5 (some ⟨b, off, none⟩) n cap 0 0 Try.underlying22
  clear hk hc
  go_enter Try.func35, Try.ntmps35
  go_wp2
  go_ret
  exact ⟨rfl, (Below.refl _ _).alloc (Nat.le_refl _) _⟩

set_option maxHeartbeats 400000 in
theorem zzKind_any (b off n cap : Nat) (c : Int) (w : World) (hn : 0 < n) (hnc : n ≤ 1048576) (hc : w.cell? ⟨b, off, none⟩ = some (.int .u8 c)) (hk : c = 45 ∨ Num.isD c = true) :
    Calls Try.prog 23 #[.slice (some ⟨b, off, none⟩) n cap] w fun e w' => e = .returned (.int .u8 3) ∧ Below w.heap.size w w' := by
  have HC : Hid (w.cell? ⟨b, off, none⟩ = some (.int .u8 c)) := hc
  have HK : Hid (c = 45 ∨ Num.isD c = true) := hk
  clear hc hk
  go_enter Try.func23, Try.ntmps23
  go_wp2_with (go_at_call 35; refine (kind_any b off n cap c _ hn hnc HC.out HK.out).mono ?_; rintro e w' ⟨rfl, hb⟩)
  go_ret
  exact ⟨rfl, hb⟩

set_option maxHeartbeats 400000 in
theorem zb22 (a : Option Addr) (len cap : Nat) (x : Int) (w : World) (hl : len ≤ 1048576) :
    Calls Try.prog 22 #[.slice a len cap, .int .i64 x] w fun e w' => e = .returned (.bool true) ∧ w = w' := by
  go_enter Try.func22, Try.ntmps22
  go_wp2
  go_ret
  exact ⟨rfl, rfl⟩

set_option maxHeartbeats 400000 in
theorem lawK_big (a : Option Addr) (len cap : Nat) (x : Int) (w : World) (hl : 1048576 < len) (hm : len ≤ 9223372036854775807) :
    Calls Try.prog 6 #[.slice a len cap, .int .i64 x] w fun e w' => e = .returned (.bool true) ∧ w = w' := by
  go_enter Try.func6, Try.ntmps6
  go_wp2
  go_ret
  exact ⟨rfl, rfl⟩

set_option maxHeartbeats 400000 in
theorem lawK_neg (a : Option Addr) (len cap : Nat) (x : Int) (w : World) (hl : len ≤ 1048576) (hx : x < 0) :
    Calls Try.prog 6 #[.slice a len cap, .int .i64 x] w fun e w' => e = .returned (.bool true) ∧ w = w' := by
  go_enter Try.func6, Try.ntmps6
  go_wp2
  go_ret
  exact ⟨rfl, rfl⟩

set_option maxRecDepth 100000 in
set_option maxHeartbeats 1000000 in
theorem lawK_main (a : Option Addr) (len cap : Nat) (l : List Int) (i : Nat) (w : World) (hlen : l.length = len) (hl : len ≤ 1048576) (hi : i ≤ 9223372036854775807)
    (hnil : a = none → len = 0 ∧ cap = 0) (hlc : len ≤ cap) (hm : cap ≤ 9223372036854775807)
    (hsrc : ∀ j v, (l.map (Value.int .u8))[j]? = some v → ∃ ad, a = some ad ∧ w.cell? (ad.add j) = some v) :
    Calls Try.prog 6 #[.slice a len cap, .int .i64 (i : Int)] w fun e w' => e = .returned (.bool true) ∧ Below w.heap.size w w' := by
  obtain ⟨i0, hi0, hz0, hz1, hz2⟩ := info_parts info5
  obtain ⟨W1, W2, hmk, hcp, hbel, hheap⟩ := clone_runs (P := Try.prog) 22 5 i0 (.int .u8 0) Try.underlying22 hi0 hz0 hz1 w a len cap (l.map (Value.int .u8)) (by simpa using hlen) (by rw [hz2]; omega) hl hsrc (by intro v hv; obtain ⟨c, _, rfl⟩ := List.mem_map.1 hv; rfl)
  have HRd : Hid (Rd W2 (some ⟨w.heap.size, 0, none⟩) l) := rd_of_heap hheap
  have HB : Hid (Below w.heap.size w W2) := hbel
  have hne := fun wx => run_neq_slice_nil_any (P := Try.prog) wx 22 5 a len cap 0 0 Try.underlying22
  clear hheap hbel hi0 hz0 hz1 hz2 i0 hsrc
  have HN : Hid (a = none → len = 0 ∧ cap = 0) := hnil
  clear hnil
  have HL : Hid (l.length = len) := hlen
  clear hlen
  go_enter Try.func6, Try.ntmps6
  go_upto_if 17 with (go_at_call 22; refine (zb22 _ _ _ _ _ hl).mono ?_; rintro e w' ⟨rfl, rfl⟩)
  go_cut [0, 5] (fun v _ w1 => ∃ a1 cap1, v = .slice a1 len cap1 ∧ len ≤ cap1 ∧ cap1 ≤ 9223372036854775807 ∧ Hid (Rd w1 a1 l) ∧ Hid (Below w.heap.size w w1))
  case first =>
    cases a with
    | none =>
      have HR : Hid (Rd w none l) := by intro j hj; have := HL.out; have := (HN.out rfl).1; omega
      clear hmk hcp HRd HB
      go_wp2_with fail
      go_meet
      case rel => exact ⟨none, cap, rfl, hlc, hm, HR, Below.refl _ _⟩
    | some ad =>
      go_wp2_with fail
      go_meet
      case rel => exact ⟨_, len, rfl, Nat.le_refl _, by omega, HRd, HB⟩
  case rest =>
    clear hmk hcp HRd HB HN hlc hm hne
    obtain ⟨a1, cap1, rfl, hlc, hm, HR, HB⟩ := hcut
    rcases Num.sc_facts l i with ⟨h1, _⟩ | ⟨n, hn1, hn2, h1, _, _, _⟩
    · have H1 : Hid (Num.sc l i = -1) := h1
      clear h1
      go_wp2_with fail
      refine (zzScan_is _ _ _ l _ i (-1) _ rfl HR.out HL.out.symm (by have := HL.out; omega) hi H1.out).mono ?_
      rintro e w' ⟨rfl, rfl⟩
      go_wp2_with fail
      go_ret
      exact ⟨rfl, HB.out⟩
    · have hh := Num.sc_head l i n h1
      have hin : i + n ≤ len := by have := HL.out; omega
      have H1 : Hid (Num.sc l i = (i : Int) + (n : Int)) := by rw [h1]; exact Int.natCast_add i n
      obtain ⟨b, off, rfl, hc⟩ := HR.out i (by have := HL.out; omega)
      have HC : Hid (wc.cell? ⟨b, off + i, none⟩ = some (.int .u8 (l.getD i 0))) := hc
      have HH : Hid (l.getD i 0 = 45 ∨ Num.isD (l.getD i 0) = true) := hh.2
      clear h1 hh hc hn2
      have c1 : ((i : Int) + (n : Int) == -1) = false := by simp; omega
      go_wp2_with fail
      refine (zzScan_is _ _ _ l _ i ((i : Int) + (n : Int)) _ rfl HR.out HL.out.symm (by have := HL.out; omega) hi H1.out).mono ?_
      rintro e w' ⟨rfl, rfl⟩
      go_wp2_with fail
      refine (zzKind_any b (off + i) _ _ (l.getD i 0) _ (by omega) (by omega) HC.out HH.out).mono ?_
      rintro e w2 ⟨rfl, hb2⟩
      have HB2 : Hid (Below wc.heap.size wc w2) := hb2
      have HC2 : Hid (w2.cell? ⟨b, off + i, none⟩ = some (.int .u8 (l.getD i 0))) := (hb2.cell (lt_of_cell HC.out)).trans HC.out
      clear hb2
      go_wp2_with fail
      refine (zzKind_any b (off + i) _ _ (l.getD i 0) _ (by omega) (by omega) HC2.out HH.out).mono ?_
      rintro e w3 ⟨rfl, hb3⟩
      have HB3 : Hid (Below w.heap.size w w3) := HB.out.trans ((HB2.out.mono HB.out.size).trans (hb3.mono (Nat.le_trans HB.out.size HB2.out.size)))
      clear hb3
      go_wp2_with fail
      go_ret
      exact ⟨rfl, HB3.out⟩
end Go.Proofs.Qxb6617848a
