/-
  THE WALK of 'FnNewNameSetOfJoinedListsIsUnion'. By an AI agent.
-/
import Derived.Test.Qxb6617892aWalksT
import Derived.Test.Qxb6617892aWalksD
import Derived.Test.Qxb6617892aClone
namespace Go.Proofs.Qxb6617892a
open Go.RowKit Go.Maps
set_option linter.unusedVariables false

theorem rdS_src {w : World} {a : Option Addr} {ss : List ByteArray} (h : RdS w a ss) : ∀ j v, (strVals ss)[j]? = some v → ∃ ad, a = some ad ∧ w.cell? (ad.add j) = some v := by
  intro j v hj
  have hjl : j < ss.length := by
    have := (List.getElem?_eq_some_iff.1 hj).1
    simpa [strVals] using this
  obtain ⟨b, off, e, hc⟩ := h.1 j hjl
  refine ⟨⟨b, off, none⟩, e, ?_⟩
  rw [strVals_at ss j hjl] at hj
  cases hj
  have hadd : (⟨b, off, none⟩ : Addr).add j = ⟨b, off + j, none⟩ := by unfold Addr.add; split <;> simp_all
  rw [hadd]; exact hc
theorem rdS_below {w w' : World} {a : Option Addr} {ss : List ByteArray} (h : RdS w a ss) (hb : Below w.heap.size w w') : RdS w' a ss := by
  refine ⟨fun i hi => ?_, h.2⟩
  obtain ⟨b, off, e, hc⟩ := h.1 i hi
  exact ⟨b, off, e, (hb.cell (lt_of_cell hc)).trans hc⟩
theorem rdS_heap {w : World} {g : Nat} {t : TypeId} {ss : List ByteArray} (h : w.heap[g]? = some (.cells (strVals ss).toArray t (0, 0))) (hs : ∀ i, (sat ss i).size ≤ maxLen) : RdS w (some ⟨g, 0, none⟩) ss := by
  refine ⟨fun i hi => ⟨g, 0, rfl, ?_⟩, hs⟩
  have := strVals_at ss i hi
  simp [World.cell?, h, this]
theorem rdS_own {w wr : World} {g cap : Nat} {Ys : List ByteArray} (h : Own w wr g cap Ys) (hs : ∀ i, (sat Ys i).size ≤ maxLen) : RdS wr (some ⟨g, 0, none⟩) Ys := by
  refine ⟨fun i hi => ⟨g, 0, rfl, ?_⟩, hs⟩
  rw [Nat.zero_add]; exact h.at i hi
theorem strVals_one (ss : List ByteArray) : ∀ v ∈ strVals ss, v.oneCell' = true := by
  intro v hv
  obtain ⟨c, _, rfl⟩ := List.mem_map.1 hv
  rfl

theorem keysOf_append (A Bs : List ByteArray) : keysOf (A ++ Bs) = keysOf A ++ keysOf Bs := by simp [keysOf, List.filter_append]
theorem starIn_append (A Bs : List ByteArray) : starIn (A ++ Bs) = (starIn A || starIn Bs) := by simp [starIn, List.any_append]
theorem sat_append (A Bs : List ByteArray) (i : Nat) : sat (A ++ Bs) i = if i < A.length then sat A i else sat Bs (i - A.length) := by
  unfold sat
  by_cases h : i < A.length
  · rw [if_pos h, List.getD, List.getElem?_append_left h, List.getD]
  · rw [if_neg h, List.getD, List.getElem?_append_right (by omega), List.getD]
theorem inK_append (K1 K2 : List (List UInt8)) (x : List UInt8) : inK (K1 ++ K2) x = (inK K1 x || inK K2 x) := by
  simp [inK]
theorem inK_star (ss : List ByteArray) (s : ByteArray) (h : isStar s = true) : inK (keysOf ss) s.data.toList = false := by
  rw [← Bool.not_eq_true]
  intro hk
  have : s.data.toList ∈ keysOf ss := by simpa [inK] using hk
  obtain ⟨t, ht, e⟩ := List.mem_map.1 this
  have h2 := (List.mem_filter.1 ht).2
  unfold isStar at h h2
  rw [e, h] at h2
  cases h2
theorem inK_at (ss : List ByteArray) (k : Nat) (hk : k < ss.length) (h : isStar (sat ss k) = false) : inK (keysOf ss) (sat ss k).data.toList = true := by
  have hm : sat ss k ∈ ss := by
    have : sat ss k = ss[k] := by simp [sat, List.getD, hk]
    rw [this]; exact List.getElem_mem hk
  have : (sat ss k).data.toList ∈ keysOf ss := List.mem_map.2 ⟨sat ss k, List.mem_filter.2 ⟨hm, by rw [h]; rfl⟩, rfl⟩
  simpa [inK] using this
theorem card_bd (ss : List ByteArray) : St.card (keysOf ss) ≤ ss.length := by
  have h1 := St.len_le_of_subset (St.ded (keysOf ss)) (keysOf ss) (St.ded_nodup _) (fun x hx => (St.ded_mem _ x).1 hx)
  have h2 : (keysOf ss).length ≤ ss.length := by unfold keysOf; rw [List.length_map]; exact List.length_filter_le _ _
  exact Nat.le_trans h1 h2
theorem rdS_at0 {w : World} {g : Nat} {ss : List ByteArray} (h : RdS w (some ⟨g, 0, none⟩) ss) (i : Nat) (hi : i < ss.length) : w.cell? ⟨g, i, none⟩ = some (.string (sat ss i)) := by
  obtain ⟨b, off, e, hc⟩ := h.1 i hi
  cases e
  rw [Nat.zero_add] at hc
  exact hc

set_option maxRecDepth 100000 in
set_option maxHeartbeats 4000000 in
theorem lawN (a b : Option Addr) (la ca lb cb : Nat) (A Bs : List ByteArray) (w : World) (hla : la = A.length) (hlb : lb = Bs.length) (hra : RdS w a A) (hrb : RdS w b Bs)
    (hna : a = none → la = 0 ∧ ca = 0) (hnb : b = none → lb = 0 ∧ cb = 0) (hca : la ≤ ca) (hcb : lb ≤ cb) (hm1 : ca ≤ 9223372036854775807) (hm2 : cb ≤ 9223372036854775807) :
    Calls Try.prog 5 #[.slice a la ca, .slice b lb cb] w fun e w' => e = .returned (.bool true) ∧ Below w.heap.size w w' := by
  have HA : Hid (RdS w a A ∧ la = A.length) := ⟨hra, hla⟩
  have HB : Hid (RdS w b Bs ∧ lb = Bs.length) := ⟨hrb, hlb⟩
  have HNa : Hid (a = none → la = 0 ∧ ca = 0) := hna
  have HNb : Hid (b = none → lb = 0 ∧ cb = 0) := hnb
  clear hra hrb hla hlb hna hnb
  go_enter Try.func5, Try.ntmps5
  go_wp2_with fail
  refine (zb12 a b la ca lb cb A Bs _ HA.out.2 HB.out.2 HA.out.1 HB.out.1 (by omega) (by omega)).mono ?_
  rintro e w' ⟨⟨r, rfl, hsml⟩, rfl⟩
  cases r with
  | false =>
    go_wp2_with fail
    go_ret
    exact ⟨rfl, Below.refl _ _⟩
  | true =>
    have HS : Hid (Sml A A.length ∧ Sml Bs Bs.length) := hsml rfl
    clear hsml
    by_cases h1 : la ≤ 4096
    rotate_left
    · have hd : decide ((4096 : Int) < (la : Int)) = true := by simp; omega
      go_wp2_with fail
      go_ret
      exact ⟨rfl, Below.refl _ _⟩
    by_cases h2 : lb ≤ 4096
    rotate_left
    · go_wp2_with fail
      go_ret
      exact ⟨rfl, Below.refl _ _⟩
    obtain ⟨i0, hi0, hz0, hz1, hz2⟩ := info_parts info9
    go_upto_if 36 with fail
    obtain ⟨W1, W2, hmk, hcp, hbel, hheap⟩ := clone_runs (P := Try.prog) 24 9 i0 (.string ByteArray.empty) Try.underlying24 hi0 hz0 hz1 w a la ca (strVals A) (by rw [strVals, List.length_map]; exact HA.out.2.symm) (by rw [hz2]; omega) (by omega) (rdS_src HA.out.1) (strVals_one A)
    have HRd : Hid (RdS W2 (some ⟨w.heap.size, 0, none⟩) A) := rdS_heap hheap HA.out.1.2
    have HBl : Hid (Below w.heap.size w W2) := hbel
    clear hheap hbel
    go_cut [0, 5] (fun v _ w1 => ∃ a1 c1, v = .slice a1 la c1 ∧ Hid (RdS w1 a1 A) ∧ Hid (Below w.heap.size w w1))
    case first =>
      cases a with
      | none =>
        clear hmk hcp HRd HBl
        go_wp2_with fail
        go_meet
        case rel => exact ⟨none, ca, rfl, HA.out.1, Below.refl _ _⟩
      | some ad =>
        go_wp2_with fail
        go_meet
        case rel => exact ⟨_, la, rfl, HRd, HBl⟩
    case rest =>
      clear hmk hcp HRd HBl HNa hca hm1
      obtain ⟨a1, c1, rfl, HR1, HB1⟩ := hcut
      have HRb : Hid (RdS wc b Bs) := rdS_below HB.out.1 HB1.out
      obtain ⟨W3, W4, hmk, hcp, hbel, hheap⟩ := clone_runs (P := Try.prog) 24 9 i0 (.string ByteArray.empty) Try.underlying24 hi0 hz0 hz1 wc b lb cb (strVals Bs) (by rw [strVals, List.length_map]; exact HB.out.2.symm) (by rw [hz2]; omega) (by omega) (rdS_src HRb.out) (strVals_one Bs)
      have HRd : Hid (RdS W4 (some ⟨wc.heap.size, 0, none⟩) Bs ∧ RdS W4 a1 A) := ⟨rdS_heap hheap HB.out.1.2, rdS_below HR1.out hbel⟩
      have HBl : Hid (Below w.heap.size w W4) := HB1.out.trans (hbel.mono HB1.out.size)
      clear hheap hbel
      go_upto_if 45 with fail
      go_cut [1, 6] (fun v _ w1 => ∃ b1 c2, v = .slice b1 lb c2 ∧ Hid (RdS w1 b1 Bs ∧ RdS w1 a1 A) ∧ Hid (Below w.heap.size w w1))
      case first =>
        cases b with
        | none =>
          clear hmk hcp HRd HBl
          go_wp2_with fail
          go_meet
          case rel => exact ⟨none, cb, rfl, ⟨HRb.out, HR1.out⟩, HB1⟩
        | some ad =>
          go_wp2_with fail
          go_meet
          case rel => exact ⟨_, lb, rfl, HRd, HBl⟩
      case rest =>
        clear hmk hcp HRd HBl HNb hcb hm2 HR1 HB1 HRb W1 W2 W3 W4
        obtain ⟨b1, c2, rfl, HR2, HB2⟩ := hcut
        have hSA : Hid (∀ k, k < la → (sat A k).size ≤ 1048576) := fun k hk => HS.out.1 k (by have := HA.out.2; omega)
        have hSB : Hid (∀ k, k < lb → (sat Bs k).size ≤ 1048576) := fun k hk => HS.out.2 k (by have := HB.out.2; omega)
        clear HS
        obtain ⟨X, hX⟩ : ∃ X, X = wc := ⟨_, rfl⟩
        subst hX
        go_upto_block 0 with fail
        go_cut [7] (fun v w1 => ∃ t : Nat, v = .int .i64 t ∧ t ≤ 1048576 ∧ X = w1)
        case first =>
          go_wp2_with fail
          go_loop [7, 8] (fun z i => ∃ k t : Nat, k ≤ la ∧ t ≤ 1048576 ∧ z = .int .i64 t ∧ i = .int .i64 k) (fun _ i => la - (intOf i).toNat)
          case atStart => exact ⟨0, 0, Nat.zero_le _, Nat.zero_le _, rfl, rfl⟩
          case round =>
            obtain ⟨k, t, hk, ht, rfl, rfl⟩ := hrel
            by_cases hlt : k < la
            · obtain ⟨bb, off, rfl, hc⟩ := HR2.out.2.1 k (by have := HA.out.2; omega)
              have hsz := hSA.out k hlt
              by_cases hs2 : t + (16 + (sat A k).size) ≤ 1048576
              · go_wp2
                go_round
                case rel => exact ⟨k + 1, t + (16 + (sat A k).size), by omega, hs2, by go_num, by go_num⟩
                case measure => simp [intOf]; omega
              · go_wp2
                go_ret
                exact ⟨rfl, HB2.out⟩
            · go_wp2
              go_meet
              case rel => exact ⟨t, rfl, ht, rfl⟩
        case rest =>
          obtain ⟨t1, rfl, ht1, rfl⟩ := hcut
          go_upto_block 2 with fail
          go_cut [7] (fun v w1 => ∃ t : Nat, v = .int .i64 t ∧ t ≤ 1048576 ∧ X = w1)
          case first =>
            go_wp2_with fail
            go_loop [7, 9] (fun z i => ∃ k t : Nat, k ≤ lb ∧ t ≤ 1048576 ∧ z = .int .i64 t ∧ i = .int .i64 k) (fun _ i => lb - (intOf i).toNat)
            case atStart => exact ⟨0, t1, Nat.zero_le _, ht1, rfl, rfl⟩
            case round =>
              obtain ⟨k, t, hk, ht, rfl, rfl⟩ := hrel
              by_cases hlt : k < lb
              · obtain ⟨bb, off, rfl, hc⟩ := HR2.out.1.1 k (by have := HB.out.2; omega)
                have hsz := hSB.out k hlt
                by_cases hs2 : t + (16 + (sat Bs k).size) ≤ 1048576
                · go_wp2
                  go_round
                  case rel => exact ⟨k + 1, t + (16 + (sat Bs k).size), by omega, hs2, by go_num, by go_num⟩
                  case measure => simp [intOf]; omega
                · go_wp2
                  go_ret
                  exact ⟨rfl, HB2.out⟩
              · go_wp2
                go_meet
                case rel => exact ⟨t, rfl, ht, rfl⟩
          case rest =>
            clear hSA hSB
            obtain ⟨t2, rfl, ht2, rfl⟩ := hcut
            go_upto_block 4 with (at_make; refine wpList_make_own _ rfl _ _ 24 rfl X.heap.size 9 i0 (.string ByteArray.empty) 1 Try.underlying24 hi0 hz0 hz1 _ _ _ (la + lb) rfl rfl ?_ ?_ ?_ ?_ ?_; omega; (rw [hz2]; omega); (unfold maxLen; omega); exact Nat.le_refl _; intro w5 hown5 hgrow5)
            have HO5 : Hid (Own X w5 X.heap.size (la + lb) []) := ⟨by simpa [strVals] using hown5, (Below.refl _ _).grown hgrow5 (Nat.le_refl _) (fun k hk => by cases hk)⟩
            clear hown5 hgrow5
            go_cut [10] (fun v w1 => v = .slice (some ⟨X.heap.size, 0, none⟩) la (la + lb) ∧ Hid (Own X w1 X.heap.size (la + lb) A))
            case first =>
              go_wp2_with fail
              go_loopw [10, 11] (fun v i wr => ∃ k : Nat, k ≤ la ∧ i = .int .i64 k ∧ v = .slice (some ⟨X.heap.size, 0, none⟩) k (la + lb) ∧ Hid (Own X wr X.heap.size (la + lb) (A.take k))) (fun _ i _ => la - (intOf i).toNat)
              case atStart => exact ⟨0, Nat.zero_le _, rfl, rfl, HO5⟩
              case round =>
                clear HO5
                obtain ⟨k, hk, rfl, rfl, HO⟩ := hrel
                by_cases hlt : k < la
                · obtain ⟨bb, off, rfl, hc0⟩ := HR2.out.2.1 k (by have := HA.out.2; omega)
                  have hc : wr.cell? ⟨bb, off + k, none⟩ = some (.string (sat A k)) := (HO.out.2.cell (lt_of_cell hc0)).trans hc0
                  have hlt2 := HO.out.lt
                  have hAk : Hid ((A.take k).length = k) := by show _ = _; rw [List.length_take]; have := HA.out.2; omega
                  clear hc0
                  go_wp2_with (at_builtin; refine wpList_append_fits _ rfl _ _ 24 rfl X.heap.size 9 i0 1 Try.underlying24 hi0 hz1 X.heap.size k (la + lb) (strVals (A.take k)) rfl ?_ ⟨wr.heap.size, 0, none⟩ 1 1 [.string (sat A k)] rfl rfl (cell_one_new _ _ _) ?_ ?_ ?_; (have := HO.out.1.alloc (.cells #[.string (sat A k)] 9); rw [hAk.out] at this; exact this); (intro u hu; simp at hu; subst hu; rfl); omega; intro w6 hown6 hgrow6)
                  have HO6 : Hid (Own X w6 X.heap.size (la + lb) (A.take (k + 1))) := by
                    show Own _ _ _ _ _
                    rw [take_snoc A k (by have := HA.out.2; omega)]
                    exact HO.out.push (by omega) (by rw [hAk.out]; exact hown6) hgrow6
                  clear HO hown6 hgrow6 hlt2
                  go_roundw
                  case rel => exact ⟨k + 1, by omega, by go_num, rfl, HO6⟩
                  case measure => simp [intOf]; omega
                · have hkk : k = la := by omega
                  have HO6 : Hid (Own X wr X.heap.size (la + lb) A) := by
                    have := HO.out; rw [hkk, HA.out.2, List.take_length, ← HA.out.2] at this; exact this
                  clear HO
                  go_wp2
                  go_meet
                  case rel => exact ⟨by rw [hkk], HO6⟩
            case rest =>
              clear HO5
              obtain ⟨rfl, HO5⟩ := hcut
              go_upto_block 6 with fail
              go_cut [10] (fun v w1 => v = .slice (some ⟨X.heap.size, 0, none⟩) (la + lb) (la + lb) ∧ Hid (Own X w1 X.heap.size (la + lb) (A ++ Bs)))
              case first =>
                go_wp2_with fail
                go_loopw [10, 12] (fun v i wr => ∃ k : Nat, k ≤ lb ∧ i = .int .i64 k ∧ v = .slice (some ⟨X.heap.size, 0, none⟩) (la + k) (la + lb) ∧ Hid (Own X wr X.heap.size (la + lb) (A ++ Bs.take k))) (fun _ i _ => lb - (intOf i).toNat)
                case atStart => exact ⟨0, Nat.zero_le _, rfl, rfl, by show Own _ _ _ _ _; simpa using HO5.out⟩
                case round =>
                  clear HO5
                  obtain ⟨k, hk, rfl, rfl, HO⟩ := hrel
                  by_cases hlt : k < lb
                  · obtain ⟨bb, off, rfl, hc0⟩ := HR2.out.1.1 k (by have := HB.out.2; omega)
                    have hc : wr.cell? ⟨bb, off + k, none⟩ = some (.string (sat Bs k)) := (HO.out.2.cell (lt_of_cell hc0)).trans hc0
                    have hlt2 := HO.out.lt
                    have hAk : Hid ((A ++ Bs.take k).length = la + k) := by show _ = _; rw [List.length_append, List.length_take]; have := HA.out.2; have := HB.out.2; omega
                    clear hc0
                    go_wp2_with (at_builtin; refine wpList_append_fits _ rfl _ _ 24 rfl X.heap.size 9 i0 1 Try.underlying24 hi0 hz1 X.heap.size (la + k) (la + lb) (strVals (A ++ Bs.take k)) rfl ?_ ⟨wr.heap.size, 0, none⟩ 1 1 [.string (sat Bs k)] rfl rfl (cell_one_new _ _ _) ?_ ?_ ?_; (have := HO.out.1.alloc (.cells #[.string (sat Bs k)] 9); rw [hAk.out] at this; exact this); (intro u hu; simp at hu; subst hu; rfl); omega; intro w6 hown6 hgrow6)
                    have HO6 : Hid (Own X w6 X.heap.size (la + lb) (A ++ Bs.take (k + 1))) := by
                      show Own _ _ _ _ _
                      rw [take_snoc Bs k (by have := HB.out.2; omega), ← List.append_assoc]
                      exact HO.out.push (by omega) (by rw [hAk.out]; exact hown6) hgrow6
                    clear HO hown6 hgrow6 hlt2
                    go_roundw
                    case rel => exact ⟨k + 1, by omega, by go_num, rfl, HO6⟩
                    case measure => simp [intOf]; omega
                  · have hkk : k = lb := by omega
                    have HO6 : Hid (Own X wr X.heap.size (la + lb) (A ++ Bs)) := by
                      have := HO.out; rw [hkk, HB.out.2, List.take_length, ← HB.out.2] at this; exact this
                    clear HO
                    go_wp2
                    go_meet
                    case rel => exact ⟨by rw [hkk], HO6⟩
              case rest =>
                clear HO5
                obtain ⟨rfl, HO5⟩ := hcut
                obtain ⟨AB, hAB⟩ : ∃ AB, Hid (AB = A ++ Bs) := ⟨_, rfl⟩
                have hABl : Hid (la + lb = AB.length) := by show _ = _; rw [hAB.out, List.length_append, HA.out.2, HB.out.2]
                have hK : Hid (keysOf AB = keysOf A ++ keysOf Bs) := by show _ = _; rw [hAB.out, keysOf_append]
                have hSt : Hid (starIn AB = (starIn A || starIn Bs)) := by show _ = _; rw [hAB.out, starIn_append]
                have hszAB : Hid (∀ i, (sat AB i).size ≤ maxLen) := fun i => by
                  rw [hAB.out, sat_append]; split
                  · exact HR2.out.2.2 i
                  · exact HR2.out.1.2 _
                have HRab : Hid (RdS wc (some ⟨X.heap.size, 0, none⟩) AB) := by
                  have h1 := HO5.out; rw [← hAB.out] at h1; exact rdS_own h1 hszAB.out
                have HXc : Hid (Below X.heap.size X wc) := HO5.out.2
                clear HO5 hAB
                go_wp2_with fail
                refine (zzNewNameSet_any _ _ _ AB _ hABl.out HRab.out (by have := hABl.out; omega)).mono ?_
                rintro e w6 ⟨bm, nm, rfl, hb6, hle6, ho6⟩
                have H6 : Hid (Below X.heap.size X w6 ∧ RdS w6 (some ⟨X.heap.size, 0, none⟩) AB ∧ OM w6 bm nm (keysOf AB)) := ⟨HXc.out.trans (hb6.mono HXc.out.size), rdS_below HRab.out hb6, ho6⟩
                clear hb6 hle6 ho6 HRab HXc
                go_wp2_with fail
                refine (zzNewNameSet_any _ _ _ A _ HA.out.2 (rdS_below HR2.out.2 H6.out.1) (by have := HA.out.2; omega)).mono ?_
                rintro e w7 ⟨bA, nA, rfl, hb7, hle7, ho7⟩
                have H7 : Hid (Below X.heap.size X w7 ∧ RdS w7 (some ⟨X.heap.size, 0, none⟩) AB ∧ OM w7 bm nm (keysOf AB) ∧ OM w7 bA nA (keysOf A)) := ⟨H6.out.1.trans (hb7.mono H6.out.1.size), rdS_below H6.out.2.1 hb7, H6.out.2.2.below hb7 H6.out.2.2.lt, ho7⟩
                clear hb7 hle7 ho7 H6
                go_wp2_with fail
                refine (zzNewNameSet_any _ _ _ Bs _ HB.out.2 (rdS_below HR2.out.1 H7.out.1) (by have := HB.out.2; omega)).mono ?_
                rintro e w8 ⟨bB, nB, rfl, hb8, hle8, ho8⟩
                have HF : Hid (RdS w8 (some ⟨X.heap.size, 0, none⟩) AB ∧ OM w8 bm nm (keysOf AB) ∧ OM w8 bA nA (keysOf A) ∧ OM w8 bB nB (keysOf Bs) ∧ Below w.heap.size w w8) :=
                  ⟨rdS_below H7.out.2.1 hb8, H7.out.2.2.1.below hb8 H7.out.2.2.1.lt, H7.out.2.2.2.below hb8 H7.out.2.2.2.lt, ho8, HB2.out.trans ((H7.out.1.trans (hb8.mono H7.out.1.size)).mono HB2.out.size)⟩
                clear hb8 hle8 ho8 H7 HR2 HB2
                have hmn := fun wx => run_eql_map_nil (P := Try.prog) wx 26 9 4 (some bm) Try.underlying26
                obtain ⟨n, hn⟩ : ∃ n, Hid (n = la + lb) := ⟨_, rfl⟩
                have hnl : n ≤ 8192 := by have := hn.out; omega
                rw [← hn.out]
                go_upto_block 8 with fail
                go_cut [19] (fun v w1 => v = .bool (starIn AB) ∧ w8 = w1)
                case first =>
                  go_wp2_with fail
                  go_loop [19, 20] (fun v i => ∃ k : Nat, k ≤ n ∧ i = .int .i64 k ∧ v = .bool (starIn (AB.take k))) (fun _ i => n - (intOf i).toNat)
                  case atStart => exact ⟨0, Nat.zero_le _, rfl, rfl⟩
                  case round =>
                    clear hmn
                    obtain ⟨k, hk, rfl, rfl⟩ := hrel
                    by_cases hlt : k < n
                    · have hkl : k < AB.length := by have := hABl.out; have := hn.out; omega
                      have hc := rdS_at0 HF.out.1 k hkl
                      cases hst : isStar (sat AB k) with
                      | true =>
                        have hst2 : ((sat AB k).toList == [42]) = true := by rw [star_form]; exact hst
                        have hS2 : Hid (true = starIn (AB.take (k + 1))) := (star_star AB k hkl hst).symm
                        clear hst hkl
                        go_wp2
                        go_round
                        case rel => exact ⟨k + 1, by omega, by go_num, by rw [← hS2.out]⟩
                        case measure => simp [intOf]; omega
                      | false =>
                        have hst2 : ((sat AB k).toList == [42]) = false := by rw [star_form]; exact hst
                        have hS2 : Hid (starIn (AB.take k) = starIn (AB.take (k + 1))) := (star_other AB k hkl hst).symm
                        clear hst hkl
                        go_wp2
                        go_round
                        case rel => exact ⟨k + 1, by omega, by go_num, by rw [← hS2.out]⟩
                        case measure => simp [intOf]; omega
                    · have hS2 : Hid (starIn (AB.take k) = starIn AB) := by
                        show _ = _
                        rw [show k = AB.length by have := hABl.out; have := hn.out; omega, List.take_length]
                      go_wp2
                      go_meet
                      case rel => exact ⟨by rw [hS2.out], rfl⟩
                case rest =>
                  obtain ⟨rfl, rfl⟩ := hcut
                  clear hmn
                  go_upto_region 46 with fail
                  go_cut [13, 15, 17, 19, 155] (fun _ _ _ _ v w1 => v = .bool false ∧ w8 = w1)
                  case first =>
                    have hs := hSt.out
                    cases hsa : starIn A with
                    | true =>
                      have hs2 : starIn AB = true := by rw [hs, hsa]; rfl
                      clear hs
                      go_wp2_with fail
                      go_meet
                      case rel => exact ⟨rfl, rfl⟩
                    | false =>
                      cases hsb : starIn Bs with
                      | true =>
                        have hs2 : starIn AB = true := by rw [hs, hsa, hsb]; rfl
                        clear hs
                        go_wp2_with fail
                        go_meet
                        case rel => exact ⟨rfl, rfl⟩
                      | false =>
                        have hs2 : starIn AB = false := by rw [hs, hsa, hsb]; rfl
                        clear hs
                        go_wp2_with fail
                        go_meet
                        case rel => exact ⟨rfl, rfl⟩
                  case rest =>
                    obtain ⟨rfl, rfl⟩ := hcut
                    clear hSt
                    go_upto_block 10 with fail
                    go_cut [] (fun w1 => w8 = w1)
                    case first =>
                      go_wp2_with fail
                      go_loop [21] (fun i => ∃ k : Nat, k ≤ n ∧ i = .int .i64 k) (fun i => n - (intOf i).toNat)
                      case atStart => exact ⟨0, Nat.zero_le _, rfl⟩
                      case round =>
                        obtain ⟨k, hk, rfl⟩ := hrel
                        by_cases hlt : k < n
                        · have hkl : k < AB.length := by have := hABl.out; have := hn.out; omega
                          have hc := rdS_at0 HF.out.1 k hkl
                          have l1 := HF.out.2.1.look (sat AB k) (hszAB.out k)
                          have l2 := HF.out.2.2.1.look (sat AB k) (hszAB.out k)
                          have l3 := HF.out.2.2.2.1.look (sat AB k) (hszAB.out k)
                          have hap := inK_append (keysOf A) (keysOf Bs) (sat AB k).data.toList
                          rw [← hK.out] at hap
                          generalize hk1 : inK (keysOf AB) (sat AB k).data.toList = k1 at *
                          generalize hk2 : inK (keysOf A) (sat AB k).data.toList = k2 at *
                          generalize hk3 : inK (keysOf Bs) (sat AB k).data.toList = k3 at *
                          clear hk2 hk3
                          have hst3 : ((sat AB k).toList == [42]) = !k1 := by
                            rw [star_form]
                            cases hst : isStar (sat AB k) with
                            | true => rw [← hk1, inK_star AB _ hst]; rfl
                            | false => rw [← hk1, inK_at AB k hkl hst]; rfl
                          clear hk1 hkl
                          cases k2 with
                          | true =>
                            have e1 : k1 = true := by rw [hap]; rfl
                            subst e1
                            have hst2 : ((sat AB k).toList == [42]) = false := hst3
                            clear hap hst3
                            go_wp2
                            go_round
                            case rel => exact ⟨k + 1, by omega, by go_num⟩
                            case measure => simp [intOf]; omega
                          | false =>
                            have e1 : k1 = k3 := by rw [hap]; rfl
                            subst e1
                            clear hap
                            cases k1 with
                            | true =>
                              have hst2 : ((sat AB k).toList == [42]) = false := hst3
                              clear hst3
                              go_wp2
                              go_round
                              case rel => exact ⟨k + 1, by omega, by go_num⟩
                              case measure => simp [intOf]; omega
                            | false =>
                              have hst2 : ((sat AB k).toList == [42]) = true := hst3
                              clear hst3
                              go_wp2
                              go_round
                              case rel => exact ⟨k + 1, by omega, by go_num⟩
                              case measure => simp [intOf]; omega
                        · go_wp2
                          go_meet
                          case rel => rfl
                    case rest =>
                      subst hcut
                      have hle1 := St.card_append_le (keysOf A) (keysOf Bs)
                      have hle2 : St.card (keysOf A) ≤ St.card (keysOf A ++ keysOf Bs) := St.card_le fun x hx => List.mem_append.2 (.inl hx)
                      have hle3 : St.card (keysOf Bs) ≤ St.card (keysOf A ++ keysOf Bs) := St.card_le fun x hx => List.mem_append.2 (.inr hx)
                      rw [← hK.out] at hle1 hle2 hle3
                      have hbA : St.card (keysOf A) ≤ 4096 := by have := card_bd A; have := HA.out.2; omega
                      have hbB : St.card (keysOf Bs) ≤ 4096 := by have := card_bd Bs; have := HB.out.2; omega
                      have n1 := HF.out.2.1.len
                      go_wp2_with fail
                      refine (distinct_any _ n n AB _ (by rw [hn.out]; exact hABl.out) HF.out.1 (by have := hABl.out; omega)).mono ?_
                      rintro e w9 ⟨rfl, hb9⟩
                      clear n1
                      have n1 := (HF.out.2.1.below hb9 HF.out.2.1.lt).len
                      have n2 := (HF.out.2.2.1.below hb9 HF.out.2.2.1.lt).len
                      have n3 := (HF.out.2.2.2.1.below hb9 HF.out.2.2.2.1.lt).len
                      have HB9 : Hid (Below w.heap.size w w9) := HF.out.2.2.2.2.trans (hb9.mono HF.out.2.2.2.2.size)
                      clear hb9 HF hK
                      generalize St.card (keysOf AB) = cM at *
                      generalize St.card (keysOf A) = cA at *
                      generalize St.card (keysOf Bs) = cB at *
                      have g1 : decide ((cA : Int) + (cB : Int) < (cM : Int)) = false := by simp; omega
                      have g2 : decide ((cM : Int) < (cA : Int)) = false := by simp; omega
                      have g3 : decide ((cM : Int) < (cB : Int)) = false := by simp; omega
                      go_wp2_with fail
                      go_ret
                      exact ⟨rfl, HB9.out⟩
end Go.Proofs.Qxb6617892a
