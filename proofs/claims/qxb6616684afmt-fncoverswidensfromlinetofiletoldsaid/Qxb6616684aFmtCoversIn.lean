/-
  THE WALK of 'covers' where the place lies in the directive's own file; 'ZZcovers'. By an AI agent.
-/
import Derived.Test.Qxb6616684aFmtCovers
namespace Go.Proofs.Qxb6616684aFmt
open Go.RowKit
set_option linter.unusedVariables false

theorem BuiltX.cov {lo : Nat} {w : World} {d s f1 : Nat} {s1 : ByteArray} {o : Nat} {verb : ByteArray} {alone : Bool} {c n1 n2 f2 : Nat} {nm nm2 txt : ByteArray} {l2 fb : Int} {a : Option Addr} {n cap : Nat} {lines2 : Value}
    (h : BuiltX lo w d s f1 s1 o verb alone c n1 n2 f2 nm nm2 txt l2 fb a n cap lines2) : Cov w d c f1 s1 o verb alone nm txt a n cap := ⟨h.dir, h.com, h.file⟩
theorem Cov.next {w w' : World} {s d c f1 : Nat} {s1 : ByteArray} {o : Nat} {verb : ByteArray} {alone : Bool} {nm txt : ByteArray} {a : Option Addr} {n cap : Nat} (h : Cov w d c f1 s1 o verb alone nm txt a n cap) (k : Kept [s] w w') (hd : d ≠ s) (hc : c ≠ s) (hf : f1 ≠ s) (ha : ∀ b off, a = some ⟨b, off, none⟩ → b ≠ s) : Cov w' d c f1 s1 o verb alone nm txt a n cap :=
  ⟨k.at h.dir (by simp; omega), k.at h.com (by simp; omega), h.file.kept k (k.at h.file.heap (by simp; omega)) (fun b off e => by have := ha b off e; simp; omega)⟩

set_option maxRecDepth 100000 in
set_option maxHeartbeats 4000000 in
theorem covers_in {lo : Nat} {w : World} {d s f1 : Nat} {s1 : ByteArray} {o : Nat} {verb : ByteArray} {alone : Bool} {c n1 n2 f2 : Nat} {nm nm2 txt : ByteArray} {l2 fb : Int} {a : Option Addr} {n cap : Nat} {lines2 : Value}
    (h : BuiltX lo w d s f1 s1 o verb alone c n1 n2 f2 nm nm2 txt l2 fb a n cap lines2) (p : Int) (hb : 1 ≤ p ∧ p ≤ 1 + (s1.size : Int)) :
    Calls Tryf.prog 22 #[.pointer (some ⟨d, 0, none⟩), .pointer (some ⟨s, 0, none⟩), .int .i64 p] w fun e w' => e = .returned (.bool (coversOf s1 o verb alone p)) ∧ Kept [s, f1] w w' := by
  obtain ⟨q, hq⟩ : ∃ q, fileOf f1 f2 s1.size l2 p = q := ⟨_, rfl⟩
  obtain ⟨bb, hbb⟩ : ∃ bb, bb = false := ⟨_, rfl⟩
  have hp : p ≠ 0 := by omega
  have HC : Hid (∀ W : World, W.heap = w.heap → Kept [] w W → Calls Tryf.prog 34 #[.pointer (some ⟨s, 0, none⟩), .int .i64 p] W fun e w' => e = .returned (.pointer q) ∧ w'.cell? ⟨d, 1, none⟩ = some (.pointer (some ⟨f1, 0, none⟩)) ∧ (binOp .neq 36 (.pointer q) (.pointer (some ⟨f1, 0, none⟩))).run Tryf.prog w' = .ok (.bool bb) w' ∧ Kept [s] w w') := File_from h p hp q bb hq (by rw [decide_eq_true hb]; exact hbb)
  have HV : Hid (Cov w d c f1 s1 o verb alone nm txt a n cap ∧ d ≠ s ∧ c ≠ s ∧ f1 ≠ s ∧ ∀ b off, a = some ⟨b, off, none⟩ → b ≠ s) := ⟨h.cov, ne_ds h.dir h.set, ne_cs h.com h.set, fun e => ne_sf h.set h.file.heap e.symm, h.aps⟩
  have hp2 : (p != 0) = true := by simp [hp]
  have e1 := cell_at h.dir 1
  simp at e1
  have HO : Hid (o ≤ s1.size) := h.off
  have HLb : Hid (Ln.lineOf (B s1) o ≤ 65536) := by
    show _ ≤ _
    have h1 := Ln.linesTo_le (B s1) (min (B s1).length (o + 1))
    have h2 := h.len
    unfold Ln.lineOf
    rw [B_length] at h1 ⊢
    omega
  have HL : Hid (∀ (W : World) (p : Int) (k : Nat), Cov W d c f1 s1 o verb alone nm txt a n cap → p = 1 + (k : Int) → k ≤ s1.size → Calls Tryf.prog 35 #[.pointer (some ⟨f1, 0, none⟩), .int .i64 p] W fun e w' => e = .returned (.int .i64 (Ln.lineOf (B s1) k : Nat)) ∧ Cov w' d c f1 s1 o verb alone nm txt a n cap ∧ Kept [f1] W w') := fun W p k h hp hk => line_cov h p k hp hk
  subst hbb
  obtain ⟨k, hk⟩ : ∃ k : Nat, p = 1 + (k : Int) := ⟨(p - 1).toNat, by omega⟩
  have HKs : Hid (p = 1 + (k : Int) ∧ k ≤ s1.size ∧ (p - 1).toNat = k) := ⟨hk, by omega, by omega⟩
  have HB : Hid (1 ≤ p ∧ p ≤ 1 + (s1.size : Int)) := hb
  clear h hq hp hb hk
  go_enter Tryf.func22, Tryf.ntmps22
  go_upto_region 1 with fail
  go_cut [21] (fun v wc => v = .bool false ∧ Hid (Kept [s] w wc))
  case first =>
    go_region_with (first
      | (go_at_call 33; refine (isValid_any p _).mono ?_; rintro e w1 ⟨rfl, rfl⟩; rw [hp2])
      | (go_at_call 34; refine (HC.out _ ?_ ?_).mono ?_; rfl; exact (Kept.refl _ _).drew; rintro e w1 ⟨rfl, d1, hbo, k1⟩))
    all_goals
      have HK : Hid (Kept [s] w w1) := k1
      clear k1 hbo
      go_wp2_with fail
      go_meet
      exact ⟨rfl, HK⟩
  case rest =>
    obtain ⟨rfl, HK⟩ := hcut
    have HV2 : Hid (Cov wc d c f1 s1 o verb alone nm txt a n cap) := HV.out.1.next HK.out HV.out.2.1 HV.out.2.2.1 HV.out.2.2.2.1 HV.out.2.2.2.2
    clear e1 hp2
    have e0 := cell_at HV2.out.dir 0
    have e1 := cell_at HV2.out.dir 1
    have e2 := cell_at HV2.out.dir 2
    have e5 := cell_at HV2.out.dir 5
    simp at e0 e1 e2 e5
    cases hv : isFile verb with
    | true =>
      have hfin : Hid (coversOf s1 o verb alone p = true) := by show _ = _; unfold coversOf; rw [if_pos HB.out, hv]; rfl
      unfold isFile at hv
      go_wp2_with fail
      go_ret
      exact ⟨ret_bool hfin.out.symm, HK.out.mono (by simp)⟩
    | false =>
      have hfin : Hid (coversOf s1 o verb alone p = (((Ln.lineOf (B s1) k : Int) == (Ln.lineOf (B s1) o : Int)) || (alone && ((Ln.lineOf (B s1) k : Int) == (Ln.lineOf (B s1) o : Int) + 1)))) := by
        show _ = _; unfold coversOf; rw [if_pos HB.out, hv, HKs.out.2.2]; rfl
      unfold isFile at hv
      go_upto_region 5 with fail
      go_cut [7, 8] (fun x y wd => x = .int .i64 (Ln.lineOf (B s1) o : Nat) ∧ y = .int .i64 (Ln.lineOf (B s1) k : Nat) ∧ Hid (Kept [s, f1] w wd ∧ wd.cell? ⟨d, 5, none⟩ = some (.bool alone)))
      case first =>
        go_region_with (first
          | (go_at_call 36; refine (comPos_any c (1 + o) txt _ ?_).mono ?_; exact HV2.out.com; rintro e w1 ⟨rfl, rfl⟩)
          | (go_at_call_of 35 (Value.int IntKind.i64 p); refine (HL.out _ p k ?_ HKs.out.1 HKs.out.2.1).mono ?_; exact hv1.out.of_heap rfl; rintro e w2 ⟨rfl, hv2, k2⟩)
          | (go_at_call 35; refine (HL.out _ (1 + o) o ?_ rfl HO.out).mono ?_; exact HV2.out.of_heap rfl; rintro e w1 ⟨rfl, hv1', k1⟩; have hv1 : Hid (Cov w1 d c f1 s1 o verb alone nm txt a n cap) := hv1'; clear hv1'; have K1 : Hid (Kept [f1] wc w1) := ⟨k1.os, k1.tape, k1.output, k1.size, k1.block⟩; clear k1; have e1' : w1.cell? ⟨d, 1, none⟩ = some (.pointer (some ⟨f1, 0, none⟩)) := cell_at hv1.out.dir 1))
        all_goals
          have HX : Hid (Kept [s, f1] w w2 ∧ w2.cell? ⟨d, 5, none⟩ = some (.bool alone)) := ⟨((HK.out.mono (by simp)).trans (K1.out.mono (by simp))).trans (k2.mono (by simp)), cell_at hv2.dir 5⟩
          clear hv2 k2
          go_wp2_with fail
          go_meet
          exact ⟨rfl, rfl, HX⟩
      case rest =>
        obtain ⟨rfl, rfl, HX⟩ := hcut
        clear e0 e1 e2 e5
        have e5 := HX.out.2
        have hLb := HLb.out
        generalize Ln.lineOf (B s1) o = L at *
        generalize Ln.lineOf (B s1) k = M at *
        cases hM : ((M : Int) == (L : Int)) with
        | true =>
          go_wp2_with fail
          go_ret
          exact ⟨ret_bool (by rw [hfin.out, hM]; rfl), HX.out.1⟩
        | false =>
          cases alone with
          | true =>
            go_wp2_with fail
            go_ret
            exact ⟨ret_bool (by rw [hfin.out, hM]; rfl), HX.out.1⟩
          | false =>
            go_wp2_with fail
            go_ret
            exact ⟨ret_bool (by rw [hfin.out, hM]; rfl), HX.out.1⟩
end Go.Proofs.Qxb6616684aFmt
