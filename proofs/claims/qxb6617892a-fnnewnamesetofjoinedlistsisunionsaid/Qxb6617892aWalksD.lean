/-
  THE WALK of 'zzDistinctNonStar'. By an AI agent.
-/
import Derived.Test.Qxb6617892aWalksS
import Derived.Maps.AppendAt
namespace Go.Proofs.Qxb6617892a
open Go.RowKit Go.Maps
set_option linter.unusedVariables false

theorem info9 : (Try.prog.info? 9).map (fun i => (i.zero, i.size, i.bytes)) = some (some (.string ByteArray.empty), 1, 16) := by kernel_rfl
theorem ret_int {k : IntKind} {a b : Int} (h : a = b) : Ending.returned (.int k a) = .returned (.int k b) := by rw [h]

/-- the strings of ss that are no star -/
def non (ss : List ByteArray) : List ByteArray := ss.filter fun s => !isStar s
theorem non_star (ss : List ByteArray) (k : Nat) (h : k < ss.length) (hs : isStar (sat ss k) = true) : non (ss.take (k + 1)) = non (ss.take k) := by
  rw [take_snoc ss k h]; simp [non, List.filter_append, hs]
theorem non_other (ss : List ByteArray) (k : Nat) (h : k < ss.length) (hs : isStar (sat ss k) = false) : non (ss.take (k + 1)) = non (ss.take k) ++ [sat ss k] := by
  rw [take_snoc ss k h]; simp [non, List.filter_append, hs]
theorem non_le (ss : List ByteArray) (k : Nat) : (non (ss.take k)).length ≤ k := by
  unfold non
  have h1 := List.length_filter_le (fun s => !isStar s) (ss.take k)
  have h2 : (ss.take k).length ≤ k := List.length_take_le _ _
  omega

def strVals (Ys : List ByteArray) : List Value := Ys.map Value.string
def Ks (Ys : List ByteArray) : List (List UInt8) := Ys.map fun s => s.data.toList
theorem Ks_g (Ys : List ByteArray) (j : Nat) : St.g (Ks Ys) j = (sat Ys j).data.toList := by
  unfold St.g Ks sat
  rw [List.getD, List.getElem?_map]
  cases h : Ys[j]? with
  | none => simp [List.getD, h]
  | some v => simp [List.getD, h]
theorem strVals_at (Ys : List ByteArray) (j : Nat) (h : j < Ys.length) : (strVals Ys)[j]? = some (.string (sat Ys j)) := by
  simp [strVals, sat, List.getD, h]
def swpB (Ys : List ByteArray) (j : Nat) : List ByteArray := (Ys.set j (sat Ys (j - 1))).set (j - 1) (sat Ys j)
theorem swpB_Ks (Ys : List ByteArray) (j : Nat) : Ks (swpB Ys j) = St.swp (Ks Ys) j := by
  unfold St.swp
  rw [Ks_g, Ks_g]
  simp [Ks, swpB, List.map_set]
theorem swpB_vals (Ys : List ByteArray) (j : Nat) : strVals (swpB Ys j) = ((strVals Ys).set j (.string (sat Ys (j - 1)))).set (j - 1) (.string (sat Ys j)) := by
  simp [strVals, swpB, List.map_set]
theorem swpB_length (Ys : List ByteArray) (j : Nat) : (swpB Ys j).length = Ys.length := by simp [swpB]

theorem less_form (Y : List ByteArray) (i j : Nat) : Op.bytesLess (sat Y i).toList (sat Y j).toList = St.lt (St.g (Ks Y) i) (St.g (Ks Y) j) := by
  rw [Ks_g, Ks_g, Lib.toList_data, Lib.toList_data]; rfl
theorem eq_form (Y : List ByteArray) (i j : Nat) : ((sat Y i).toList == (sat Y j).toList) = decide (St.g (Ks Y) i = St.g (Ks Y) j) := by
  rw [Ks_g, Ks_g, Lib.toList_data, Lib.toList_data]; rw [Bool.eq_iff_iff]; simp
theorem Ks_length (Y : List ByteArray) : (Ks Y).length = Y.length := by simp [Ks]

/-- block g is the call's own row of the strings Ys (of capacity cap); nothing old has turned -/
def Own (w wr : World) (g cap : Nat) (Ys : List ByteArray) : Prop :=
  wr.ownsRow g 9 1 (.slice (some ⟨g, 0, none⟩) Ys.length cap) Ys.length (strVals Ys) ∧ Below g w wr
theorem Own.at {w wr : World} {g cap : Nat} {Ys : List ByteArray} (h : Own w wr g cap Ys) (j : Nat) (hj : j < Ys.length) : wr.cell? ⟨g, j, none⟩ = some (.string (sat Ys j)) := by
  rw [h.1.cellAt j (by omega)]; exact strVals_at Ys j hj
theorem Own.free {w wr : World} {g cap : Nat} {Ys : List ByteArray} (h : Own w wr g cap Ys) (j : Nat) : wr.frozen? ⟨g, j, none⟩ = false := h.1.frozenAt j
theorem Own.swap {w wr : World} {g cap : Nat} {Ys : List ByteArray} (h : Own w wr g cap Ys) (j : Nat) :
    Own w ((wr.setCell ⟨g, j, none⟩ (.string (sat Ys (j - 1)))).setCell ⟨g, j - 1, none⟩ (.string (sat Ys j))) g cap (swpB Ys j) := by
  refine ⟨?_, (h.2.setCell (Nat.le_refl _) _).setCell (Nat.le_refl _) _⟩
  have h1 := (h.1.stored j (.string (sat Ys (j - 1)))).1
  have h2 := (h1.stored (j - 1) (.string (sat Ys j))).1
  rw [swpB_length, swpB_vals]
  exact h2
theorem Own.drewN {w wr : World} {g cap : Nat} {Ys : List ByteArray} (h : Own w wr g cap Ys) (n : Nat) : Own w (wr.drewN n) g cap Ys := ⟨h.1, below_drewN h.2 n⟩

theorem Own.alloc {w wr : World} {g cap : Nat} {Ys : List ByteArray} (h : Own w wr g cap Ys) (o : Obj) (hg : g ≤ wr.heap.size) : Own w (wr.alloc o) g cap Ys := ⟨h.1.alloc o, h.2.alloc hg o⟩
theorem Own.lt {w wr : World} {g cap : Nat} {Ys : List ByteArray} (h : Own w wr g cap Ys) : g < wr.heap.size := by
  rcases h.1.2 with ⟨h', _⟩ | ⟨g', cap', cur, h', _, hg, _⟩
  · simp at h'
  · simp only [Value.slice.injEq, Option.some.injEq, Addr.mk.injEq, and_true, true_and] at h'
    obtain ⟨rfl, rfl⟩ := h'
    exact lt_of_heap hg
/-- behind an append of one string, within the capacity -/
theorem Own.push {w wr w1 : World} {g cap : Nat} {Ys : List ByteArray} {s : ByteArray} (h : Own w wr g cap Ys) (hg : g ≤ wr.heap.size) (ho : w1.ownsRow g 9 1 (.slice (some ⟨g, 0, none⟩) (Ys.length + 1) cap) (Ys.length + 1) (strVals Ys ++ [.string s]))
    (hgr : (wr.alloc (.cells #[.string s] 9)).grownBy w1 (some g)) : Own w w1 g cap (Ys ++ [s]) := by
  refine ⟨?_, (h.2.alloc hg _).grown hgr (by simp; omega) (fun k hk => by cases hk; exact Nat.le_refl _)⟩
  simpa [strVals] using ho

set_option maxRecDepth 100000 in
set_option maxHeartbeats 1000000 in
theorem distinct_any (a : Option Addr) (L cap : Nat) (ss : List ByteArray) (w : World) (hL : L = ss.length) (hr : RdS w a ss) (hl : ss.length ≤ 1048576) :
    Calls Try.prog 14 #[.slice a L cap] w fun e w' => e = .returned (.int .i64 (St.card (keysOf ss))) ∧ Below w.heap.size w w' := by
  have HR : Hid (RdS w a ss) := hr
  subst hL
  clear hr
  obtain ⟨i0, hi, hz0, hz1, hz2⟩ := info_parts info9
  go_enter Try.func14, Try.ntmps14
  go_upto_block 0 with (at_make; refine wpList_make_own _ rfl _ _ 24 rfl w.heap.size 9 i0 (.string ByteArray.empty) 1 Try.underlying24 hi hz0 hz1 _ _ _ ss.length rfl rfl rfl ?_ ?_ ?_ ?_; (rw [hz2]; omega); (unfold maxLen; omega); exact Nat.le_refl _; intro w1 hown1 hgrow1)
  have HO1 : Hid (Own w w1 w.heap.size ss.length []) := ⟨by simpa [strVals] using hown1, (Below.refl _ _).grown hgrow1 (Nat.le_refl _) (fun k hk => by cases hk)⟩
  clear hown1 hgrow1
  go_cut [3] (fun v wc => ∃ m : Nat, v = .slice (some ⟨w.heap.size, 0, none⟩) m ss.length ∧ Hid (m = (non ss).length) ∧ m ≤ ss.length ∧ Hid (Own w wc w.heap.size ss.length (non ss)))
  case first =>
    go_wp2_with fail
    go_loopw [3, 4] (fun v i wr => ∃ k m : Nat, k ≤ ss.length ∧ m ≤ k ∧ i = .int .i64 k ∧ v = .slice (some ⟨w.heap.size, 0, none⟩) m ss.length ∧ Hid (m = (non (ss.take k)).length) ∧ Hid (Own w wr w.heap.size ss.length (non (ss.take k)))) (fun _ i _ => ss.length - (intOf i).toNat)
    case atStart => exact ⟨0, 0, Nat.zero_le _, Nat.le_refl _, rfl, rfl, rfl, HO1⟩
    case round =>
      clear HO1
      obtain ⟨k, m, hk, hmk, rfl, rfl, hm, HO⟩ := hrel
      by_cases hlt : k < ss.length
      · obtain ⟨b, off, rfl, hc0⟩ := HR.out.1 k hlt
        have hc : wr.cell? ⟨b, off + k, none⟩ = some (.string (sat ss k)) := (HO.out.2.cell (lt_of_cell hc0)).trans hc0
        clear hc0
        cases hst : isStar (sat ss k) with
        | true =>
          have hst2 : ((sat ss k).toList == [42]) = true := by rw [star_form]; exact hst
          have HO2 : Hid (Own w wr w.heap.size ss.length (non (ss.take (k + 1)))) := by
            show Own _ _ _ _ _; rw [non_star ss k hlt hst]; exact HO.out
          have hm2 : Hid (m = (non (ss.take (k + 1))).length) := by show _ = _; rw [non_star ss k hlt hst]; exact hm.out
          clear hst HO hm
          go_wp2
          go_roundw
          case rel => exact ⟨k + 1, m, by omega, by omega, by go_num, rfl, hm2, HO2⟩
          case measure => simp [intOf]; omega
        | false =>
          have hst2 : ((sat ss k).toList == [42]) = false := by rw [star_form]; exact hst
          have hlt2 := HO.out.lt
          go_wp2_with (at_builtin; refine wpList_append_fits _ rfl _ _ 24 rfl w.heap.size 9 i0 1 Try.underlying24 hi hz1 w.heap.size m ss.length (strVals (non (ss.take k))) rfl ?_ ⟨wr.heap.size, 0, none⟩ 1 1 [.string (sat ss k)] rfl rfl (cell_one_new _ _ _) ?_ ?_ ?_; (have := HO.out.1.alloc (.cells #[.string (sat ss k)] 9); rw [← hm.out] at this; exact this); (intro u hu; simp at hu; subst hu; rfl); omega; intro w2 hown2 hgrow2)
          have HO2 : Hid (Own w w2 w.heap.size ss.length (non (ss.take (k + 1)))) := by
            show Own _ _ _ _ _
            rw [non_other ss k hlt hst]
            exact HO.out.push (by omega) (by rw [← hm.out]; exact hown2) hgrow2
          have hm2 : Hid (m + 1 = (non (ss.take (k + 1))).length) := by show _ = _; rw [non_other ss k hlt hst, List.length_append, ← hm.out]; rfl
          clear hst HO hm hown2 hgrow2 hlt2
          go_roundw
          case rel => exact ⟨k + 1, m + 1, by omega, by omega, by go_num, rfl, hm2, HO2⟩
          case measure => simp [intOf]; omega
      · have hkk : k = ss.length := by omega
        have HO2 : Hid (Own w wr w.heap.size ss.length (non ss)) := by
          have := HO.out; rw [hkk, List.take_length] at this; exact this
        have hm2 : Hid (m = (non ss).length) := by have := hm.out; rw [hkk, List.take_length] at this; exact this
        clear HO hm hkk
        go_wp2
        go_meet
        case rel => exact ⟨m, rfl, hm2, by omega, HO2⟩
  case rest =>
    clear HO1
    obtain ⟨m, rfl, hm, hmL, HO⟩ := hcut
    go_upto_block 2 with fail
    go_cut [] (fun w1 => ∃ Ys, Hid (Ys.length = m) ∧ Hid (St.Srt (Ks Ys) m ∧ ∀ x, x ∈ Ks Ys ↔ x ∈ keysOf ss) ∧ Hid (Own w w1 w.heap.size ss.length Ys))
    case first =>
      go_wp2_with fail
      go_loopw [5] (fun i wr => ∃ (k : Nat) (Ys : List ByteArray), 1 ≤ k ∧ k ≤ m + 1 ∧ i = .int .i64 k ∧ Hid (Ys.length = m) ∧ Hid (St.Srt (Ks Ys) k ∧ ∀ x, x ∈ Ks Ys ↔ x ∈ keysOf ss) ∧ Hid (Own w wr w.heap.size ss.length Ys)) (fun i _ => m + 1 - (intOf i).toNat)
      case atStart => exact ⟨1, non ss, by omega, by omega, rfl, hm.out.symm, ⟨fun p q h1 h2 => by omega, fun x => Iff.rfl⟩, HO⟩
      case round =>
        clear HO hm
        obtain ⟨k, Ys, hk1, hk2, rfl, hYl, hYs, HO⟩ := hrel
        by_cases hkm : k < m
        · go_upto_block 3 with fail
          go_cut [6, 7] (fun _ _ w1 => ∃ Ys', Hid (Ys'.length = m) ∧ Hid (St.Srt (Ks Ys') (k + 1) ∧ ∀ x, x ∈ Ks Ys' ↔ x ∈ keysOf ss) ∧ Hid (Own w w1 w.heap.size ss.length Ys'))
          case first =>
            go_wp2_with fail
            go_loopw [6] (fun v wr2 => ∃ (j : Nat) (Y2 : List ByteArray), j ≤ k ∧ v = .int .i64 j ∧ Hid (Y2.length = m) ∧ Hid (St.Inv (Ks Y2) k j ∧ ∀ x, x ∈ Ks Y2 ↔ x ∈ keysOf ss) ∧ Hid (Own w wr2 w.heap.size ss.length Y2)) (fun v _ => (intOf v).toNat)
            case atStart => exact ⟨k, Ys, Nat.le_refl _, rfl, hYl, ⟨St.inv_start hYs.out.1, hYs.out.2⟩, HO⟩
            case round =>
              clear HO hYl hYs
              obtain ⟨j, Y2, hjk, rfl, hYl, hYs, HO⟩ := hrel
              cases j with
              | zero =>
                have hd : decide ((0 : Int) < ((0 : Nat) : Int)) = false := by decide
                go_wp2
                go_quiet (fail)
                go_wp2
                go_meet
                case rel => exact ⟨Y2, hYl, ⟨St.inv_end hYs.out.1 (.inl rfl), hYs.out.2⟩, HO.out.drewN _⟩
              | succ j' =>
                have c1 := HO.out.at (j' + 1) (by rw [hYl.out]; omega)
                have c0 := HO.out.at j' (by rw [hYl.out]; omega)
                have f1 := HO.out.free (j' + 1)
                have f0 := HO.out.free j'
                have hle : j' + 1 < m := by omega
                cases hl : Op.bytesLess (sat Y2 (j' + 1)).toList (sat Y2 j').toList with
                | true =>
                  have hY2 : Hid (St.Inv (Ks (swpB Y2 (j' + 1))) k j' ∧ ∀ x, x ∈ Ks (swpB Y2 (j' + 1)) ↔ x ∈ keysOf ss) := by
                    rw [less_form] at hl
                    show _ ∧ _
                    rw [swpB_Ks]
                    exact ⟨St.inv_step hYs.out.1 (by omega) (by rw [Ks_length, hYl.out]; omega) hl, fun x => (St.swp_mem _ _ (by omega) (by rw [Ks_length, hYl.out]; omega) x).trans (hYs.out.2 x)⟩
                  have hYl2 : Hid ((swpB Y2 (j' + 1)).length = m) := by show _ = _; rw [swpB_length]; exact hYl.out
                  go_wp2
                  go_quiet (fail)
                  go_wp2
                  go_roundw
                  case rel => exact ⟨j', swpB Y2 (j' + 1), by omega, by go_num, hYl2, hY2, (HO.out.drewN nq).swap (j' + 1)⟩
                  case measure => simp [intOf]
                | false =>
                  have hY2 : Hid (St.Srt (Ks Y2) (k + 1) ∧ ∀ x, x ∈ Ks Y2 ↔ x ∈ keysOf ss) := by
                    rw [less_form] at hl
                    exact ⟨St.inv_end hYs.out.1 (.inr hl), hYs.out.2⟩
                  go_wp2
                  go_quiet (fail)
                  go_wp2
                  go_meet
                  case rel => exact ⟨Y2, hYl, hY2, HO.out.drewN _⟩
          case rest =>
            clear HO hYl hYs
            obtain ⟨Y3, hYl, hYs, HO⟩ := hcut
            go_wp2
            go_roundw
            case rel => exact ⟨k + 1, Y3, by omega, by omega, by go_num, hYl, hYs, HO⟩
            case measure => simp [intOf]; omega
        · have hY2 : Hid (St.Srt (Ks Ys) m ∧ ∀ x, x ∈ Ks Ys ↔ x ∈ keysOf ss) := ⟨fun p q h1 h2 => hYs.out.1 p q h1 (by omega), hYs.out.2⟩
          go_wp2
          go_meet
          case rel => exact ⟨Ys, hYl, hY2, HO⟩
    case rest =>
      clear HO hm
      obtain ⟨Ys, hYl, hYs, HO⟩ := hcut
      go_wp2_with fail
      go_loopw [8, 9] (fun d i wr => ∃ k : Nat, k ≤ m ∧ i = .int .i64 k ∧ d = .int .i64 ((St.reps (Ks Ys) k).length : Nat) ∧ Hid (Own w wr w.heap.size ss.length Ys)) (fun _ i _ => m - (intOf i).toNat)
      case atStart => exact ⟨0, Nat.zero_le _, rfl, rfl, HO⟩
      case round =>
        clear HO
        obtain ⟨k, hkm, rfl, rfl, HO⟩ := hrel
        have hrl := St.reps_le (Ks Ys) k
        by_cases hlt : k < m
        · have c1 := HO.out.at k (by rw [hYl.out]; omega)
          cases k with
          | zero =>
            have hR : Hid ((St.reps (Ks Ys) (0 + 1)).length = (St.reps (Ks Ys) 0).length + 1) := St.reps_hit (.inl rfl)
            go_wp2
            go_quiet (fail)
            go_wp2
            go_roundw
            case rel => exact ⟨0 + 1, by omega, by go_num, by have := hR.out; go_num, HO.out.drewN _⟩
            case measure => simp [intOf]; omega
          | succ k' =>
            have c0 := HO.out.at k' (by rw [hYl.out]; omega)
            have hz : ((k' : Int) + 1 == 0) = false := by simp; omega
            have hlt2 : k' < m := by omega
            have hef := eq_form Ys (k' + 1) k'
            cases he : ((sat Ys (k' + 1)).toList == (sat Ys k').toList) with
            | true =>
              have hR : Hid ((St.reps (Ks Ys) (k' + 1 + 1)).length = (St.reps (Ks Ys) (k' + 1)).length) := by
                rw [he] at hef
                exact St.reps_miss (by omega) (by simpa using hef.symm)
              clear hef
              go_wp2
              go_quiet (fail)
              go_wp2
              go_roundw
              case rel => exact ⟨k' + 1 + 1, by omega, by go_num, by have := hR.out; go_num, HO.out.drewN _⟩
              case measure => simp [intOf]; omega
            | false =>
              have hR : Hid ((St.reps (Ks Ys) (k' + 1 + 1)).length = (St.reps (Ks Ys) (k' + 1)).length + 1) := by
                rw [he] at hef
                exact St.reps_hit (.inr (by simpa using hef.symm))
              clear hef
              go_wp2
              go_quiet (fail)
              go_wp2
              go_roundw
              case rel => exact ⟨k' + 1 + 1, by omega, by go_num, by have := hR.out; go_num, HO.out.drewN _⟩
              case measure => simp [intOf]; omega
        · have hkk : k = m := by omega
          have hfin : Hid (((St.reps (Ks Ys) k).length : Int) = (St.card (keysOf ss) : Nat)) := by
            show _ = _
            have := St.reps_card (Ks Ys) (keysOf ss) (by rw [Ks_length, hYl.out]; exact hYs.out.1) hYs.out.2
            rw [Ks_length, hYl.out] at this
            rw [hkk, this]
          go_wp2
          go_ret
          exact ⟨ret_int hfin.out, HO.out.2⟩
end Go.Proofs.Qxb6617892a
