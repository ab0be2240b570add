/-
  THE WALK of 'FnCoversAgreesWithScope'. By an AI agent.
-/
import Derived.Test.Qxb6616684aFmtLaw
namespace Go.Proofs.Qxb6616684aFmt
open Go.RowKit
set_option linter.unusedVariables false

set_option maxRecDepth 100000 in
set_option maxHeartbeats 2000000 in
theorem lawA_early (s1 s2 v : ByteArray) (x p : Int) (alone : Bool) (w : World) (h : ¬ (s1.size ≤ 65536 ∧ s2.size ≤ 65536 ∧ v.size ≤ 65536 ∧ 0 ≤ x ∧ x ≤ (s1.size : Int))) :
    Calls Tryf.prog 3 #[.string s1, .string s2, .int .i64 x, .string v, .bool alone, .int .i64 p] w fun e w' => e = .returned (.bool true) ∧ Kept [] w w' := by
  have HH : Hid (¬ (s1.size ≤ 65536 ∧ s2.size ≤ 65536 ∧ v.size ≤ 65536 ∧ 0 ≤ x ∧ x ≤ (s1.size : Int))) := h
  clear h
  go_enter Tryf.func3, Tryf.ntmps3
  go_wp2_with fail
  refine (zzBytes6_any s1 s2 v x p alone _).mono ?_
  rintro e w' ⟨⟨b, rfl⟩, rfl⟩
  cases b
  all_goals
    go_wp2_with fail
  all_goals
    first
      | (go_ret; exact ⟨rfl, Kept.refl _ _⟩)
      | (exfalso; have := HH.out; omega)

set_option maxRecDepth 100000 in
set_option maxHeartbeats 4000000 in
theorem lawA_main (s1 s2 v : ByteArray) (o : Nat) (p : Int) (alone : Bool) (w : World) (h1 : s1.size ≤ 65536) (h2 : s2.size ≤ 65536) (h3 : v.size ≤ 65536) (ho : o ≤ s1.size) :
    Calls Tryf.prog 3 #[.string s1, .string s2, .int .i64 (o : Int), .string v, .bool alone, .int .i64 p] w fun e w' => e = .returned (.bool true) ∧ Kept [] w w' := by
  go_enter Tryf.func3, Tryf.ntmps3
  go_wp2_with fail
  refine (zzBytes6_any s1 s2 v o p alone _).mono ?_
  rintro e w' ⟨⟨b, rfl⟩, rfl⟩
  cases b with
  | false =>
    go_wp2_with fail
    go_ret
    exact ⟨rfl, Kept.refl _ _⟩
  | true =>
    have hd : decide ((s1.size : Int) < (o : Int)) = false := by simp; omega
    go_wp2_with fail
    refine (zzBuild_any s1 s2 ⟨#[]⟩ v alone o _ h1 h2 ho).mono ?_
    rintro e w1 ⟨d, s, f1, rfl, hB, k1⟩
    have HB : Hid (BuiltAt w.heap.size w1 d s f1 s1 o v alone ∧ Kept [] w w1) := ⟨hB, k1⟩
    clear hB k1 hd
    go_wp2_with fail
    obtain ⟨c, n1, n2, f2, nm, nm2, txt, l2, fb, a, n, cap, lines2, H⟩ := HB.out.1
    refine (zzScope_any d _ _ v alone _ H.dir).mono ?_
    rintro e w' ⟨rfl, rfl⟩
    have HL : Hid (w.heap.size ≤ s ∧ w.heap.size ≤ f1) := ⟨H.los.2.2.1, H.los.2.2.2.2.2.1⟩
    clear H
    go_wp2_with fail
    refine (zzCovers_any HB.out.1 p).mono ?_
    rintro e w2 ⟨rfl, k2⟩
    have HK : Hid (Kept [] w w2) := HB.out.2.fresh k2 (by have := HL.out; simp; omega)
    clear k2
    go_wp2_with fail
    refine (wantScope_any v alone _).mono ?_
    rintro e w' ⟨rfl, rfl⟩
    clear HL
    cases hv : isFile v with
    | true =>
      have hs : scopeOf v alone = ⟨#[105, 110, 32, 116, 104, 105, 115, 32, 102, 105, 108, 101]⟩ := by simp [scopeOf, hv]
      rw [hs]
      clear hs
      by_cases hp : p < 1
      · have hd : decide (1 ≤ p) = false := by simp; omega
        have hg : coversOf s1 o v alone p = false := covers_outside (by omega)
        rw [hg]
        clear hg
        go_wp2_with fail
        go_ret
        exact ⟨rfl, HK.out⟩
      · by_cases hp2 : 1 + (s1.size : Int) < p
        · have hd : decide (p ≤ 1 + (s1.size : Int)) = false := by simp; omega
          have hg : coversOf s1 o v alone p = false := covers_outside (by omega)
          rw [hg]
          clear hg
          go_wp2_with fail
          go_ret
          exact ⟨rfl, HK.out⟩
        · have hd1 : 1 ≤ p := by omega
          have hd2 : p ≤ 1 + (s1.size : Int) := by omega
          clear hp hp2
          have HP : Hid (1 ≤ p ∧ p ≤ 1 + (s1.size : Int)) := ⟨by omega, by omega⟩
          generalize hg : coversOf s1 o v alone p = g
          have HG : Hid (coversOf s1 o v alone p = g) := hg
          clear hg
          go_wp2_with fail
          refine (lineOf_any s1 o o _ rfl h1 ho).mono ?_
          rintro e w' ⟨rfl, rfl⟩
          go_wp2_with fail
          refine (lineOf_any s1 (p - 1) (p - 1).toNat _ (by omega) h1 (by omega)).mono ?_
          rintro e w' ⟨rfl, rfl⟩
          have hg : g = true := by rw [← HG.out]; exact covers_file HP.out hv
          subst hg
          go_wp2_with fail
          go_ret
          exact ⟨rfl, HK.out⟩
    | false =>
      cases alone with
      | true =>
        have hs : scopeOf v true = ⟨#[111, 110, 32, 116, 104, 101, 32, 108, 105, 110, 101, 32, 98, 101, 108, 111, 119, 32, 105, 116]⟩ := by simp [scopeOf, hv]
        rw [hs]
        clear hs
        by_cases hp : p < 1
        · have hd : decide (1 ≤ p) = false := by simp; omega
          have hg : coversOf s1 o v true p = false := covers_outside (by omega)
          rw [hg]
          clear hg
          go_wp2_with fail
          go_ret
          exact ⟨rfl, HK.out⟩
        · by_cases hp2 : 1 + (s1.size : Int) < p
          · have hd : decide (p ≤ 1 + (s1.size : Int)) = false := by simp; omega
            have hg : coversOf s1 o v true p = false := covers_outside (by omega)
            rw [hg]
            clear hg
            go_wp2_with fail
            go_ret
            exact ⟨rfl, HK.out⟩
          · have hd1 : 1 ≤ p := by omega
            have hd2 : p ≤ 1 + (s1.size : Int) := by omega
            clear hp hp2
            have HP : Hid (1 ≤ p ∧ p ≤ 1 + (s1.size : Int)) := ⟨by omega, by omega⟩
            generalize hg : coversOf s1 o v true p = g
            have HG : Hid (coversOf s1 o v true p = g) := hg
            clear hg
            go_wp2_with fail
            refine (lineOf_any s1 o o _ rfl h1 ho).mono ?_
            rintro e w' ⟨rfl, rfl⟩
            go_wp2_with fail
            refine (lineOf_any s1 (p - 1) (p - 1).toNat _ (by omega) h1 (by omega)).mono ?_
            rintro e w' ⟨rfl, rfl⟩
            have hLb := lineOf_le s1 o h1
            have hMb := lineOf_le s1 (p - 1).toNat h1
            have hg := HG.out
            rw [covers_below HP.out hv] at hg
            clear HG HB
            generalize Ln.lineOf (B s1) o = L at *
            generalize Ln.lineOf (B s1) (p - 1).toNat = M at *
            have HGg : Hid ((((M : Int) == (L : Int)) || ((M : Int) == (L : Int) + 1)) = g) := hg
            clear hg
            cases hM : ((M : Int) == (L : Int)) with
            | true =>
              have hg : g = true := by rw [← HGg.out, hM]; rfl
              subst hg
              clear HGg
              go_wp2_with fail
              go_ret
              exact ⟨rfl, HK.out⟩
            | false =>
              cases hM1 : ((M : Int) == (L : Int) + 1) with
              | true =>
                have hg : g = true := by rw [← HGg.out, hM, hM1]; rfl
                subst hg
                clear HGg
                go_wp2_with fail
                go_ret
                exact ⟨rfl, HK.out⟩
              | false =>
                have hg : g = false := by rw [← HGg.out, hM, hM1]; rfl
                subst hg
                clear HGg
                go_wp2_with fail
                go_ret
                exact ⟨rfl, HK.out⟩
      | false =>
        have hs : scopeOf v false = ⟨#[111, 110, 32, 116, 104, 105, 115, 32, 108, 105, 110, 101]⟩ := by simp [scopeOf, hv]
        rw [hs]
        clear hs
        by_cases hp : p < 1
        · have hd : decide (1 ≤ p) = false := by simp; omega
          have hg : coversOf s1 o v false p = false := covers_outside (by omega)
          rw [hg]
          clear hg
          go_wp2_with fail
          go_ret
          exact ⟨rfl, HK.out⟩
        · by_cases hp2 : 1 + (s1.size : Int) < p
          · have hd : decide (p ≤ 1 + (s1.size : Int)) = false := by simp; omega
            have hg : coversOf s1 o v false p = false := covers_outside (by omega)
            rw [hg]
            clear hg
            go_wp2_with fail
            go_ret
            exact ⟨rfl, HK.out⟩
          · have hd1 : 1 ≤ p := by omega
            have hd2 : p ≤ 1 + (s1.size : Int) := by omega
            clear hp hp2
            have HP : Hid (1 ≤ p ∧ p ≤ 1 + (s1.size : Int)) := ⟨by omega, by omega⟩
            generalize hg : coversOf s1 o v false p = g
            have HG : Hid (coversOf s1 o v false p = g) := hg
            clear hg
            go_wp2_with fail
            refine (lineOf_any s1 o o _ rfl h1 ho).mono ?_
            rintro e w' ⟨rfl, rfl⟩
            go_wp2_with fail
            refine (lineOf_any s1 (p - 1) (p - 1).toNat _ (by omega) h1 (by omega)).mono ?_
            rintro e w' ⟨rfl, rfl⟩
            have hLb := lineOf_le s1 o h1
            have hMb := lineOf_le s1 (p - 1).toNat h1
            have hg := HG.out
            rw [covers_line HP.out hv] at hg
            clear HG HB
            generalize Ln.lineOf (B s1) o = L at *
            generalize Ln.lineOf (B s1) (p - 1).toNat = M at *
            have HGg : Hid (((M : Int) == (L : Int)) = g) := hg
            clear hg
            cases hM : ((M : Int) == (L : Int)) with
            | true =>
              have hg : g = true := by rw [← HGg.out, hM]
              subst hg
              clear HGg
              go_wp2_with fail
              go_ret
              exact ⟨rfl, HK.out⟩
            | false =>
              have hg : g = false := by rw [← HGg.out, hM]
              subst hg
              clear HGg
              go_wp2_with fail
              go_ret
              exact ⟨rfl, HK.out⟩

theorem lawA_any (s1 s2 v : ByteArray) (x p : Int) (alone : Bool) (w : World) :
    Calls Tryf.prog 3 #[.string s1, .string s2, .int .i64 x, .string v, .bool alone, .int .i64 p] w fun e w' => e = .returned (.bool true) ∧ Kept [] w w' := by
  by_cases h : s1.size ≤ 65536 ∧ s2.size ≤ 65536 ∧ v.size ≤ 65536 ∧ 0 ≤ x ∧ x ≤ (s1.size : Int)
  · obtain ⟨h1, h2, h3, h4, h5⟩ := h
    obtain ⟨o, rfl⟩ : ∃ o : Nat, x = (o : Int) := ⟨x.toNat, by omega⟩
    exact lawA_main s1 s2 v o p alone w h1 h2 h3 (by omega)
  · exact lawA_early s1 s2 v x p alone w h
end Go.Proofs.Qxb6616684aFmt
