/-
  THE WALK of 'FnCoversWidensFromLineToFile'. By an AI agent.
-/
import Derived.Test.Qxb6616684aFmtLaw
namespace Go.Proofs.Qxb6616684aFmt
open Go.RowKit
set_option linter.unusedVariables false

set_option maxRecDepth 100000 in
set_option maxHeartbeats 2000000 in
theorem lawB_early (s1 s2 v : ByteArray) (x p : Int) (alone : Bool) (w : World) (h : ¬ (s1.size ≤ 65536 ∧ s2.size ≤ 65536 ∧ v.size ≤ 65536 ∧ 0 ≤ x ∧ x ≤ (s1.size : Int))) :
    Calls Tryf.prog 4 #[.string s1, .string s2, .int .i64 x, .string v, .bool alone, .int .i64 p] w fun e w' => e = .returned (.bool true) ∧ Kept [] w w' := by
  have HH : Hid (¬ (s1.size ≤ 65536 ∧ s2.size ≤ 65536 ∧ v.size ≤ 65536 ∧ 0 ≤ x ∧ x ≤ (s1.size : Int))) := h
  clear h
  go_enter Tryf.func4, Tryf.ntmps4
  go_wp2_with fail
  refine (zzBytes12_any s1 s2 v x p alone _).mono ?_
  rintro e w' ⟨⟨b, rfl⟩, rfl⟩
  cases b
  all_goals
    go_wp2_with fail
  all_goals
    first
      | (go_ret; exact ⟨rfl, Kept.refl _ _⟩)
      | (exfalso; have := HH.out; omega)

def vFile : ByteArray := ⟨#[102, 105, 108, 101, 45, 105, 103, 110, 111, 114, 101]⟩
def vIgn : ByteArray := ⟨#[105, 103, 110, 111, 114, 101]⟩
theorem isFile_file : isFile vFile = true := by kernel_rfl
theorem isFile_ign : isFile vIgn = false := by kernel_rfl

theorem BuiltAt.bounds {lo : Nat} {w : World} {d s f1 : Nat} {s1 : ByteArray} {o : Nat} {verb : ByteArray} {alone : Bool} (h : BuiltAt lo w d s f1 s1 o verb alone) : lo ≤ s ∧ s < w.heap.size ∧ lo ≤ f1 ∧ f1 < w.heap.size := by
  obtain ⟨c, n1, n2, f2, nm, nm2, txt, l2, fb, a, n, cap, lines2, H⟩ := h
  exact ⟨H.los.2.2.1, lt_of_heap H.set, H.los.2.2.2.2.2.1, lt_of_heap H.file.heap⟩

set_option maxRecDepth 100000 in
set_option maxHeartbeats 4000000 in
theorem lawB_main (s1 s2 v : ByteArray) (o : Nat) (p : Int) (alone : Bool) (w : World) (h1 : s1.size ≤ 65536) (h2 : s2.size ≤ 65536) (h3 : v.size ≤ 65536) (ho : o ≤ s1.size) :
    Calls Tryf.prog 4 #[.string s1, .string s2, .int .i64 (o : Int), .string v, .bool alone, .int .i64 p] w fun e w' => e = .returned (.bool true) ∧ Kept [] w w' := by
  go_enter Tryf.func4, Tryf.ntmps4
  go_wp2_with fail
  refine (zzBytes12_any s1 s2 v o p alone _).mono ?_
  rintro e w' ⟨⟨b, rfl⟩, rfl⟩
  cases b with
  | false =>
    go_wp2_with fail
    go_ret
    exact ⟨rfl, Kept.refl _ _⟩
  | true =>
    have hd : decide ((s1.size : Int) < (o : Int)) = false := by simp; omega
    go_wp2_with fail
    refine (zzBuild_any s1 s2 ⟨#[]⟩ vFile false o _ h1 h2 ho).mono ?_
    rintro e w1 ⟨d1, t1, f1, rfl, hB, k1⟩
    have HB1 : Hid (BuiltAt w.heap.size w1 d1 t1 f1 s1 o vFile false ∧ Kept [] w w1) := ⟨hB, k1⟩
    clear hB k1 hd
    go_wp2_with fail
    refine (zzBuild_any s1 s2 ⟨#[]⟩ vIgn true o _ h1 h2 ho).mono ?_
    rintro e w2 ⟨d2, t2, f2, rfl, hB, k1⟩
    have HB2 : Hid (BuiltAt w1.heap.size w2 d2 t2 f2 s1 o vIgn true ∧ Kept [] w1 w2) := ⟨hB, k1⟩
    clear hB k1
    go_wp2_with fail
    refine (zzBuild_any s1 s2 ⟨#[]⟩ vIgn false o _ h1 h2 ho).mono ?_
    rintro e w3 ⟨d3, t3, f3, rfl, hB, k1⟩
    have HB3 : Hid (BuiltAt w2.heap.size w3 d3 t3 f3 s1 o vIgn false ∧ Kept [] w2 w3) := ⟨hB, k1⟩
    clear hB k1
    go_wp2_with fail
    refine (zzBuild_any s1 s2 ⟨#[]⟩ v alone o _ h1 h2 ho).mono ?_
    rintro e w4 ⟨d4, t4, f4, rfl, hB, k1⟩
    have HB4 : Hid (BuiltAt w3.heap.size w4 d4 t4 f4 s1 o v alone ∧ Kept [] w3 w4) := ⟨hB, k1⟩
    clear hB k1
    go_wp2_with fail
    have b1 := HB1.out.1.bounds
    have b2 := HB2.out.1.bounds
    have b3 := HB3.out.1.bounds
    have b4 := HB4.out.1.bounds
    have z1 := HB1.out.2.size
    have z2 := HB2.out.2.size
    have z3 := HB3.out.2.size
    have z4 := HB4.out.2.size
    have HZ : Hid ((w.heap.size ≤ t1 ∧ t1 < w1.heap.size ∧ w.heap.size ≤ f1 ∧ f1 < w1.heap.size) ∧ (w1.heap.size ≤ t2 ∧ t2 < w2.heap.size ∧ w1.heap.size ≤ f2 ∧ f2 < w2.heap.size) ∧ (w2.heap.size ≤ t3 ∧ t3 < w3.heap.size ∧ w2.heap.size ≤ f3 ∧ f3 < w3.heap.size) ∧
      (w3.heap.size ≤ t4 ∧ t4 < w4.heap.size ∧ w3.heap.size ≤ f4 ∧ f4 < w4.heap.size) ∧ w.heap.size ≤ w1.heap.size ∧ w1.heap.size ≤ w2.heap.size ∧ w2.heap.size ≤ w3.heap.size ∧ w3.heap.size ≤ w4.heap.size) := ⟨b1, b2, b3, b4, z1, z2, z3, z4⟩
    clear b1 b2 b3 b4 z1 z2 z3 z4
    have HK4 : Hid (Kept [] w w4) := ((HB1.out.2.trans HB2.out.2).trans HB3.out.2).trans HB4.out.2
    have HK41 : Hid (Kept [] w1 w4) := (HB2.out.2.trans HB3.out.2).trans HB4.out.2
    have HK42 : Hid (Kept [] w2 w4) := HB3.out.2.trans HB4.out.2
    have HA1 : Hid (BuiltAt w.heap.size w4 d1 t1 f1 s1 o vFile false) := HB1.out.1.carry (fun k _ hk => HK41.out.block k hk (by simp))
    refine (zzCovers_any HA1.out p).mono ?_
    rintro e w5 ⟨rfl, k5⟩
    have HK5 : Hid (Kept [t1, f1] w4 w5) := k5
    clear k5
    go_wp2_with fail
    have HA2 : Hid (BuiltAt w1.heap.size w5 d2 t2 f2 s1 o vIgn true) := HB2.out.1.carry (fun k hk0 hk => by
      have hz := HZ.out
      exact (HK5.out.block k (by omega) (by simp; omega)).trans (HK42.out.block k hk (by simp)))
    refine (zzCovers_any HA2.out p).mono ?_
    rintro e w6 ⟨rfl, k6⟩
    have HK6 : Hid (Kept [t1, f1, t2, f2] w4 w6) := (HK5.out.mono (by simp)).trans (k6.mono (by simp))
    clear k6
    go_wp2_with fail
    have HA3 : Hid (BuiltAt w2.heap.size w6 d3 t3 f3 s1 o vIgn false) := HB3.out.1.carry (fun k hk0 hk => by
      have hz := HZ.out
      exact (HK6.out.block k (by omega) (by simp; omega)).trans (HB4.out.2.block k hk (by simp)))
    refine (zzCovers_any HA3.out p).mono ?_
    rintro e w7 ⟨rfl, k7⟩
    have HK7 : Hid (Kept [t1, f1, t2, f2, t3, f3] w4 w7) := (HK6.out.mono (by simp)).trans (k7.mono (by simp))
    clear k7
    go_wp2_with fail
    have HA4 : Hid (BuiltAt w3.heap.size w7 d4 t4 f4 s1 o v alone) := HB4.out.1.carry (fun k hk0 hk => by
      have hz := HZ.out
      exact HK7.out.block k (by omega) (by simp; omega))
    refine (zzCovers_any HA4.out p).mono ?_
    rintro e w8 ⟨rfl, k8⟩
    have HK8 : Hid (Kept [] w w8) := HK4.out.fresh ((HK7.out.mono (S' := [t1, f1, t2, f2, t3, f3, t4, f4]) (by simp)).trans (k8.mono (by simp))) (by have := HZ.out; simp; omega)
    clear k8 HA1 HA2 HA3 HA4 HK4 HK41 HK42 HK5 HK6 HK7 HZ HB1 HB2 HB3 HB4
    cases hv : isFile v with
    | true =>
      have HVf := hv
      unfold isFile at HVf
      by_cases hp : p < 1
      · have hd : decide (1 ≤ p) = false := by simp; omega
        rw [covers_outside (by omega), covers_outside (by omega), covers_outside (by omega), covers_outside (by omega)]
        go_wp2_with fail
        go_ret
        exact ⟨rfl, HK8.out⟩
      · by_cases hp2 : 1 + (s1.size : Int) < p
        · have hd : decide (p ≤ 1 + (s1.size : Int)) = false := by simp; omega
          rw [covers_outside (by omega), covers_outside (by omega), covers_outside (by omega), covers_outside (by omega)]
          go_wp2_with fail
          go_ret
          exact ⟨rfl, HK8.out⟩
        · have hd1 : 1 ≤ p := by omega
          have hd2 : p ≤ 1 + (s1.size : Int) := by omega
          clear hp hp2
          have HP : 1 ≤ p ∧ p ≤ 1 + (s1.size : Int) := ⟨by omega, by omega⟩
          rw [covers_file HP isFile_file, covers_below HP isFile_ign, covers_line HP isFile_ign, covers_file HP hv]
          clear HP
          have hLb := lineOf_le s1 o h1
          have hMb := lineOf_le s1 (p - 1).toNat h1
          have HC1 : Hid (∀ W : World, Calls Tryf.prog 11 #[.string s1, .int .i64 (o : Int)] W fun e w' => e = .returned (.int .i64 (Ln.lineOf (B s1) o : Nat)) ∧ W = w') := fun W => lineOf_any s1 o o W rfl h1 ho
          have HC2 : Hid (∀ W : World, Calls Tryf.prog 11 #[.string s1, .int .i64 (p - 1)] W fun e w' => e = .returned (.int .i64 (Ln.lineOf (B s1) (p - 1).toNat : Nat)) ∧ W = w') := fun W => lineOf_any s1 (p - 1) (p - 1).toNat W (by omega) h1 (by omega)
          generalize Ln.lineOf (B s1) o = L at *
          generalize Ln.lineOf (B s1) (p - 1).toNat = M at *
          cases hM : ((M : Int) == (L : Int)) with
          | true =>
            have hM1 : ((M : Int) == (L : Int) + 1) = false := by simp at hM ⊢; omega
            try rw [hM1]
            go_wp2_with fail
            refine (HC1.out _).mono ?_
            rintro e w' ⟨rfl, rfl⟩
            go_wp2_with fail
            refine (HC2.out _).mono ?_
            rintro e w' ⟨rfl, rfl⟩
            go_wp2_with fail
            go_ret
            exact ⟨rfl, HK8.out⟩
          | false =>
            cases hM1 : ((M : Int) == (L : Int) + 1) with
            | true =>
              go_wp2_with fail
              refine (HC1.out _).mono ?_
              rintro e w' ⟨rfl, rfl⟩
              go_wp2_with fail
              refine (HC2.out _).mono ?_
              rintro e w' ⟨rfl, rfl⟩
              go_wp2_with fail
              go_ret
              exact ⟨rfl, HK8.out⟩
            | false =>
              go_wp2_with fail
              refine (HC1.out _).mono ?_
              rintro e w' ⟨rfl, rfl⟩
              go_wp2_with fail
              refine (HC2.out _).mono ?_
              rintro e w' ⟨rfl, rfl⟩
              go_wp2_with fail
              go_ret
              exact ⟨rfl, HK8.out⟩
    | false =>
      cases alone with
      | true =>
        have HVf := hv
        unfold isFile at HVf
        by_cases hp : p < 1
        · have hd : decide (1 ≤ p) = false := by simp; omega
          rw [covers_outside (by omega), covers_outside (by omega), covers_outside (by omega), covers_outside (by omega)]
          go_wp2_with fail
          go_ret
          exact ⟨rfl, HK8.out⟩
        · by_cases hp2 : 1 + (s1.size : Int) < p
          · have hd : decide (p ≤ 1 + (s1.size : Int)) = false := by simp; omega
            rw [covers_outside (by omega), covers_outside (by omega), covers_outside (by omega), covers_outside (by omega)]
            go_wp2_with fail
            go_ret
            exact ⟨rfl, HK8.out⟩
          · have hd1 : 1 ≤ p := by omega
            have hd2 : p ≤ 1 + (s1.size : Int) := by omega
            clear hp hp2
            have HP : 1 ≤ p ∧ p ≤ 1 + (s1.size : Int) := ⟨by omega, by omega⟩
            rw [covers_file HP isFile_file, covers_below HP isFile_ign, covers_line HP isFile_ign, covers_below HP hv]
            clear HP
            have hLb := lineOf_le s1 o h1
            have hMb := lineOf_le s1 (p - 1).toNat h1
            have HC1 : Hid (∀ W : World, Calls Tryf.prog 11 #[.string s1, .int .i64 (o : Int)] W fun e w' => e = .returned (.int .i64 (Ln.lineOf (B s1) o : Nat)) ∧ W = w') := fun W => lineOf_any s1 o o W rfl h1 ho
            have HC2 : Hid (∀ W : World, Calls Tryf.prog 11 #[.string s1, .int .i64 (p - 1)] W fun e w' => e = .returned (.int .i64 (Ln.lineOf (B s1) (p - 1).toNat : Nat)) ∧ W = w') := fun W => lineOf_any s1 (p - 1) (p - 1).toNat W (by omega) h1 (by omega)
            generalize Ln.lineOf (B s1) o = L at *
            generalize Ln.lineOf (B s1) (p - 1).toNat = M at *
            cases hM : ((M : Int) == (L : Int)) with
            | true =>
              have hM1 : ((M : Int) == (L : Int) + 1) = false := by simp at hM ⊢; omega
              try rw [hM1]
              go_wp2_with fail
              refine (HC1.out _).mono ?_
              rintro e w' ⟨rfl, rfl⟩
              go_wp2_with fail
              refine (HC2.out _).mono ?_
              rintro e w' ⟨rfl, rfl⟩
              go_wp2_with fail
              go_ret
              exact ⟨rfl, HK8.out⟩
            | false =>
              cases hM1 : ((M : Int) == (L : Int) + 1) with
              | true =>
                go_wp2_with fail
                refine (HC1.out _).mono ?_
                rintro e w' ⟨rfl, rfl⟩
                go_wp2_with fail
                refine (HC2.out _).mono ?_
                rintro e w' ⟨rfl, rfl⟩
                go_wp2_with fail
                go_ret
                exact ⟨rfl, HK8.out⟩
              | false =>
                go_wp2_with fail
                refine (HC1.out _).mono ?_
                rintro e w' ⟨rfl, rfl⟩
                go_wp2_with fail
                refine (HC2.out _).mono ?_
                rintro e w' ⟨rfl, rfl⟩
                go_wp2_with fail
                go_ret
                exact ⟨rfl, HK8.out⟩
      | false =>
        have HVf := hv
        unfold isFile at HVf
        by_cases hp : p < 1
        · have hd : decide (1 ≤ p) = false := by simp; omega
          rw [covers_outside (by omega), covers_outside (by omega), covers_outside (by omega), covers_outside (by omega)]
          go_wp2_with fail
          go_ret
          exact ⟨rfl, HK8.out⟩
        · by_cases hp2 : 1 + (s1.size : Int) < p
          · have hd : decide (p ≤ 1 + (s1.size : Int)) = false := by simp; omega
            rw [covers_outside (by omega), covers_outside (by omega), covers_outside (by omega), covers_outside (by omega)]
            go_wp2_with fail
            go_ret
            exact ⟨rfl, HK8.out⟩
          · have hd1 : 1 ≤ p := by omega
            have hd2 : p ≤ 1 + (s1.size : Int) := by omega
            clear hp hp2
            have HP : 1 ≤ p ∧ p ≤ 1 + (s1.size : Int) := ⟨by omega, by omega⟩
            rw [covers_file HP isFile_file, covers_below HP isFile_ign, covers_line HP isFile_ign, covers_line HP hv]
            clear HP
            have hLb := lineOf_le s1 o h1
            have hMb := lineOf_le s1 (p - 1).toNat h1
            have HC1 : Hid (∀ W : World, Calls Tryf.prog 11 #[.string s1, .int .i64 (o : Int)] W fun e w' => e = .returned (.int .i64 (Ln.lineOf (B s1) o : Nat)) ∧ W = w') := fun W => lineOf_any s1 o o W rfl h1 ho
            have HC2 : Hid (∀ W : World, Calls Tryf.prog 11 #[.string s1, .int .i64 (p - 1)] W fun e w' => e = .returned (.int .i64 (Ln.lineOf (B s1) (p - 1).toNat : Nat)) ∧ W = w') := fun W => lineOf_any s1 (p - 1) (p - 1).toNat W (by omega) h1 (by omega)
            generalize Ln.lineOf (B s1) o = L at *
            generalize Ln.lineOf (B s1) (p - 1).toNat = M at *
            cases hM : ((M : Int) == (L : Int)) with
            | true =>
              have hM1 : ((M : Int) == (L : Int) + 1) = false := by simp at hM ⊢; omega
              try rw [hM1]
              go_wp2_with fail
              refine (HC1.out _).mono ?_
              rintro e w' ⟨rfl, rfl⟩
              go_wp2_with fail
              refine (HC2.out _).mono ?_
              rintro e w' ⟨rfl, rfl⟩
              go_wp2_with fail
              go_ret
              exact ⟨rfl, HK8.out⟩
            | false =>
              cases hM1 : ((M : Int) == (L : Int) + 1) with
              | true =>
                go_wp2_with fail
                refine (HC1.out _).mono ?_
                rintro e w' ⟨rfl, rfl⟩
                go_wp2_with fail
                refine (HC2.out _).mono ?_
                rintro e w' ⟨rfl, rfl⟩
                go_wp2_with fail
                go_ret
                exact ⟨rfl, HK8.out⟩
              | false =>
                go_wp2_with fail
                refine (HC1.out _).mono ?_
                rintro e w' ⟨rfl, rfl⟩
                go_wp2_with fail
                refine (HC2.out _).mono ?_
                rintro e w' ⟨rfl, rfl⟩
                go_wp2_with fail
                go_ret
                exact ⟨rfl, HK8.out⟩

theorem lawB_any (s1 s2 v : ByteArray) (x p : Int) (alone : Bool) (w : World) :
    Calls Tryf.prog 4 #[.string s1, .string s2, .int .i64 x, .string v, .bool alone, .int .i64 p] w fun e w' => e = .returned (.bool true) ∧ Kept [] w w' := by
  by_cases h : s1.size ≤ 65536 ∧ s2.size ≤ 65536 ∧ v.size ≤ 65536 ∧ 0 ≤ x ∧ x ≤ (s1.size : Int)
  · obtain ⟨h1, h2, h3, h4, h5⟩ := h
    obtain ⟨o, rfl⟩ : ∃ o : Nat, x = (o : Int) := ⟨x.toNat, by omega⟩
    exact lawB_main s1 s2 v o p alone w h1 h2 h3 (by omega)
  · exact lawB_early s1 s2 v x p alone w h
end Go.Proofs.Qxb6616684aFmt
