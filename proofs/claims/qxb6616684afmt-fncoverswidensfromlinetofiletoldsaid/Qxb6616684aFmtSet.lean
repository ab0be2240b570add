/-
  THE WALKS of 'SetLinesForContent', 'zzLineOf'. By an AI agent.
-/
import Derived.Test.Qxb6616684aFmtLines
import Derived.Test.Qxb6616684aFmtPlain
import Derived.Maps.AppendAt
namespace Go.Proofs.Qxb6616684aFmt
open Go.RowKit
set_option linter.unusedVariables false

theorem info3 : (Tryf.prog.info? 3).map (fun i => (i.zero, i.size, i.bytes)) = some (some (.int .i64 0), 1, 8) := by kernel_rfl

def byt (l : List Int) (i : Nat) : Int := l.getD i 0
def RdB (w : World) (a : Option Addr) (l : List Int) : Prop :=
  ∀ i, i < l.length → ∃ b off, a = some ⟨b, off, none⟩ ∧ w.cell? ⟨b, off + i, none⟩ = some (.int .u8 (byt l i))
def ints (zs : List Int) : List Value := zs.map (Value.int .i64)

/-- the lines gathered so far lie in a row of the call's own, from block B on -/
def Own3 (w wr : World) (v : Value) (zs : List Int) : Prop := wr.ownsRow w.heap.size 3 1 v zs.length (ints zs) ∧ Kept [] w wr

theorem lt_of_cell {w : World} {p : Addr} {v : Value} (h : w.cell? p = some v) : p.block < w.heap.size := by
  unfold World.cell? at h
  split at h
  · rename_i c e f hb; exact (Array.getElem?_eq_some_iff.1 hb).1
  · cases h

theorem Own3.grown {w wr w1 : World} {v v' : Value} {zs : List Int} {x : Int} (h : Own3 w wr v zs) (ho : w1.ownsRow w.heap.size 3 1 v' (zs.length + 1) (ints zs ++ [.int .i64 x]))
    (hg : (wr.alloc (.cells #[.int .i64 x] 3)).grownBy w1 v.ownBlock) : Own3 w w1 v' (zs ++ [x]) := by
  refine ⟨by simpa [ints] using ho, ?_⟩
  have hk := h.2.alloc (.cells #[.int .i64 x] 3)
  refine hk.fresh (S' := v.ownBlock.toList) ⟨hg.os, hg.tape, hg.output, hg.size, fun k hk hn => hg.block k hk (fun e => hn (by rw [← e]; simp))⟩ (fun y hy => .inr ?_)
  rcases h.1.2 with ⟨h', _⟩ | ⟨g', cap', cur, h', hb, hg', _⟩
  · rw [h'] at hy; simp [Value.ownBlock] at hy
  · rw [h'] at hy; simp [Value.ownBlock] at hy; omega

/-- what the lines' slice reads as -/
theorem Own3.shape {w wr : World} {v : Value} {zs : List Int} (h : Own3 w wr v zs) : ∃ a n cap, v = .slice a n cap ∧ n = zs.length ∧ RdI wr a zs ∧ ∀ b off, a = some ⟨b, off, none⟩ → w.heap.size ≤ b := by
  rcases h.1.2 with ⟨h', hn⟩ | ⟨g, cap, cur, h', hb, hg, hnc, hcm, hcs, htake⟩
  · exact ⟨none, 0, 0, h', hn.symm, fun i hi => by omega, fun b off e => by cases e⟩
  · refine ⟨some ⟨g, 0, none⟩, zs.length, cap, h', rfl, fun i hi => ⟨g, 0, rfl, ?_⟩, fun b off e => by cases e; exact hb⟩
    have h1 := h.1
    rw [h'] at h1
    rw [Nat.zero_add, h1.cellAt i (by omega)]
    simp [ints, zat, List.getD, hi]

set_option maxRecDepth 100000 in
set_option maxHeartbeats 2000000 in
theorem setLines_any (f : Nat) (nm : ByteArray) (base size : Int) (a0 : Value) (a : Option Addr) (n cap : Nat) (l : List Int) (w : World) (hf : w.heap[f]? = some (fileB nm base size a0)) (hr : RdB w a l) (hn : n = l.length) (hl : n ≤ 65536)
    (hs0 : 0 ≤ size) (hs1 : size ≤ 65536) (hb0 : 1 ≤ base) (hb1 : base ≤ 262144) :
    Calls Tryf.prog 19 #[.pointer (some ⟨f, 0, none⟩), .slice a n cap] w fun e w' => e = .returned (.tuple #[]) ∧ (∃ a1 n1 cap1, FileAt w' f nm base size a1 n1 cap1 (Ln.linesTo l n) ∧ ∀ b off, a1 = some ⟨b, off, none⟩ → w.heap.size ≤ b) ∧ Kept [f] w w' := by
  have HF : Hid (w.heap[f]? = some (fileB nm base size a0)) := hf
  have HR : Hid (RdB w a l ∧ n = l.length) := ⟨hr, hn⟩
  clear hr hn hf
  obtain ⟨i0, hi, hz0, hz1, hz2⟩ := info_parts info3
  go_enter Tryf.func19, Tryf.ntmps19
  go_upto_block 0 with fail
  go_cut [4] (fun v wc => Hid (Own3 w wc v (Ln.linesTo l n)))
  case first =>
    go_wp2_with fail
    go_loopw [4, 5, 10] (fun v x i wr => ∃ k : Nat, k ≤ n ∧ i = .int .i64 k ∧ x = .int .i64 (if Ln.start l k then (k : Int) else -1) ∧ Hid (Own3 w wr v (Ln.linesTo l k))) (fun _ _ i _ => n - (intOf i).toNat)
    case atStart => exact ⟨0, Nat.zero_le _, rfl, rfl, World.ownsRow_nil _ _ _ _, Kept.refl _ _⟩
    case round =>
      obtain ⟨k, hk, rfl, rfl, HO⟩ := hrel
      by_cases hlt : k < n
      · obtain ⟨b, off, rfl, hc0⟩ := HR.out.1 k (by have := HR.out.2; omega)
        have hc : wr.cell? ⟨b, off + k, none⟩ = some (.int .u8 (byt l k)) := by
          rw [World.cell?_of_block (w := w) (a := ⟨b, off + k, none⟩) (HO.out.2.block b (lt_of_cell hc0) (by simp))]; exact hc0
        clear hc0
        have hsz := HO.out.2.size
        have hle := Ln.linesTo_le l k
        have hst1 : Hid (Ln.start l (k + 1) = (byt l k == 10)) := by show _ = _; simp [Ln.start, byt]
        cases hst : Ln.start l k with
        | true =>
          simp only [if_true]
          cases hb10 : (byt l k == 10) with
          | true =>
            go_wp2_with (at_builtin; refine wpList_append_own _ rfl _ _ 76 rfl w.heap.size 3 i0 (.int .i64 0) 1 8 Tryf.underlying76 hi hz0 hz1 hz2 rfl (by decide) _ _ _ rfl (HO.out.1.alloc _) ⟨wr.heap.size, 0, none⟩ 1 1 [.int .i64 (k : Int)] rfl rfl (cell_one_new _ _ _) ?_ ?_ ?_ ?_ ?_; (intro u hu; simp at hu; subst hu; rfl); (unfold maxLen; omega); omega; (simp; omega); intro v' w1 hown1 hgrow1 _)
            have HO1 : Hid (Own3 w w1 v' (Ln.linesTo l (k + 1))) := by
              show Own3 _ _ _ _; rw [Ln.linesTo_yes hst]; exact HO.out.grown hown1 hgrow1
            clear hown1 hgrow1 HO
            go_roundw
            case rel => exact ⟨k + 1, by omega, by go_num, by rw [hst1.out, hb10]; simp, HO1⟩
            case measure => simp [intOf]; omega
          | false =>
            go_wp2_with (at_builtin; refine wpList_append_own _ rfl _ _ 76 rfl w.heap.size 3 i0 (.int .i64 0) 1 8 Tryf.underlying76 hi hz0 hz1 hz2 rfl (by decide) _ _ _ rfl (HO.out.1.alloc _) ⟨wr.heap.size, 0, none⟩ 1 1 [.int .i64 (k : Int)] rfl rfl (cell_one_new _ _ _) ?_ ?_ ?_ ?_ ?_; (intro u hu; simp at hu; subst hu; rfl); (unfold maxLen; omega); omega; (simp; omega); intro v' w1 hown1 hgrow1 _)
            have HO1 : Hid (Own3 w w1 v' (Ln.linesTo l (k + 1))) := by
              show Own3 _ _ _ _; rw [Ln.linesTo_yes hst]; exact HO.out.grown hown1 hgrow1
            clear hown1 hgrow1 HO
            go_roundw
            case rel => exact ⟨k + 1, by omega, by go_num, by rw [hst1.out, hb10]; simp, HO1⟩
            case measure => simp [intOf]; omega
        | false =>
          simp only [Bool.false_eq_true, if_false]
          have HO1 : Hid (Own3 w wr u4 (Ln.linesTo l (k + 1))) := by
            show Own3 _ _ _ _; rw [Ln.linesTo_no hst]; exact HO.out
          cases hb10 : (byt l k == 10) with
          | true =>
            go_wp2_with fail
            go_roundw
            case rel => exact ⟨k + 1, by omega, by go_num, by rw [hst1.out, hb10]; simp, HO1⟩
            case measure => simp [intOf]; omega
          | false =>
            go_wp2_with fail
            go_roundw
            case rel => exact ⟨k + 1, by omega, by go_num, by rw [hst1.out, hb10]; simp, HO1⟩
            case measure => simp [intOf]; omega
      · have hkn : k = n := by omega
        have HO1 : Hid (Own3 w wr u4 (Ln.linesTo l n)) := by rw [← hkn]; exact HO
        clear hkn HO
        generalize (if Ln.start l k = true then (k : Int) else -1) = zz
        go_wp2_with fail
        go_meet
        case rel => exact HO1
  case rest =>
    obtain ⟨a1, n1, cap1, rfl, hn1, hrd, hbb⟩ := hcut.out.shape
    have hflt := lt_of_heap HF.out
    have HK : Hid (Kept [f] w wc) := hcut.out.2.mono (by simp)
    have HFc : Hid (wc.heap[f]? = some (fileB nm base size a0)) := hcut.out.2.at HF.out (by simp)
    have HZ : Hid (RdI wc a1 (Ln.linesTo l n) ∧ n1 = (Ln.linesTo l n).length ∧ ∀ b off, a1 = some ⟨b, off, none⟩ → w.heap.size ≤ b) := ⟨hrd, hn1, hbb⟩
    clear hcut hrd hn1 hbb
    obtain ⟨c0, c1, c2, c3, c5, c6, z1, z3, z5⟩ := fileB_cells HFc.out
    go_wp2_with fail
    refine (MuLone.lock_free Tryf.muLib ⟨f, 3, none⟩ _ c3 z3).mono ?_
    rintro e w1 ⟨rfl, hw1⟩
    have HL : Hid (w1.heap[f]? = some (fileL nm base size a0)) := by
      show _ = _; rw [hw1]; exact set_at HFc.out rfl
    have HK1 : Hid (Kept [f] wc w1) := by
      show Kept _ _ _; rw [hw1]; exact (Kept.refl _ _).setCell (.inl (by simp)) _
    clear hw1 c0 c1 c2 c3 c5 c6 z1 z3 z5
    obtain ⟨c0, c1, c2, c3, c5, c6, z1, z3, z5⟩ := fileL_cells HL.out
    go_wp2_with fail
    have HL2 : (w1.setCell ⟨f, 5, none⟩ (.slice a1 n1 cap1)).heap[f]? = some (fileL nm base size (.slice a1 n1 cap1)) := set_at HL.out rfl
    have hc := fileL_cells HL2
    refine (MuLone.unlock_held Tryf.muLib ⟨f, 3, none⟩ _ hc.c3 hc.z3).mono ?_
    rintro e w2 ⟨rfl, hw2⟩
    have HF2 : Hid (w2.heap[f]? = some (fileB nm base size (.slice a1 n1 cap1))) := by
      show _ = _; rw [hw2]; exact set_at HL2 rfl
    have HK2 : Hid (Kept [f] wc w2) := by
      show Kept _ _ _; rw [hw2]; exact (HK1.out.setCell (.inl (by simp)) _).setCell (.inl (by simp)) _
    have hap : ∀ b off, a1 = some ⟨b, off, none⟩ → ¬ b ∈ [f] := fun b off e => by
      have := HZ.out.2.2 b off e
      simp; omega
    have HA : Hid (FileAt w2 f nm base size a1 n1 cap1 (Ln.linesTo l n)) :=
      ⟨HF2.out, rdI_kept HZ.out.1 HK2.out hap, HZ.out.2.1, by have := Ln.linesTo_le l n; have := HZ.out.2.1; omega, fun p q h1 h2 => Ln.rising l n p q h1 h2, fun b off e => by simpa using hap b off e,
        fun k => by
          by_cases hk : k < (Ln.linesTo l n).length
          · have := Ln.linesTo_mem l n _ (Ln.zat_mem hk)
            have e : zat (Ln.linesTo l n) k = Ln.zat (Ln.linesTo l n) k := rfl
            omega
          · have e : zat (Ln.linesTo l n) k = 0 := by unfold zat; rw [List.getD, List.getElem?_eq_none (by omega)]; rfl
            omega, hs0, hs1, hb0, hb1⟩
    have HKw : Hid (Kept [f] w w2) := HK.out.trans HK2.out
    clear hw2 HL2 hc
    go_wp2_with fail
    go_end0
    exact ⟨rfl, ⟨a1, n1, cap1, HA.out, HZ.out.2.2⟩, HKw.out⟩
end Go.Proofs.Qxb6616684aFmt
