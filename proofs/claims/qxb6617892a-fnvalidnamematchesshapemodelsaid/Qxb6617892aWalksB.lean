/-
  THE WALKS of 'zzShapeModel', 'FnValidNameMatchesShapeModel', 'FnValidNameJoinAtDot'. By an AI agent.
-/
import Derived.Test.Qxb6617892aWalksA
namespace Go.Proofs.Qxb6617892a
open Go.RowKit
set_option linter.unusedVariables false

theorem inner_dd {l : List Int} {c d : Int} (h : c = 46) (hd : d = 46) : Nm.inner (c :: d :: l) = false := by simp [Nm.inner, h, hd]
theorem inner_dot {l : List Int} {c : Int} (h : c = 46) (hd : ¬ l.getD 0 0 = 46) : Nm.inner (c :: l) = Nm.inner l := by rw [Nm.inner, if_pos h, if_neg hd]
theorem inner_dot_no {l : List Int} {c : Int} (h : c = 46) (hd : l.getD 0 0 = 46) : Nm.inner (c :: l) = false := by rw [Nm.inner, if_pos h, if_pos hd]
theorem inner_nb {l : List Int} {c : Int} (h : ¬ c = 46) (hn : Nm.nb c = true) : Nm.inner (c :: l) = Nm.inner l := by rw [Nm.inner, if_neg h, if_pos hn]
theorem inner_no {l : List Int} {c : Int} (h : ¬ c = 46) (hn : Nm.nb c = false) : Nm.inner (c :: l) = false := by rw [Nm.inner, if_neg h, if_neg (by rw [hn]; decide)]
theorem drop_head (s : ByteArray) (k : Nat) : ((B s).drop k).getD 0 0 = bat s k := by simp [bat, List.getD]

set_option maxHeartbeats 2000000 in
theorem shape_any (s : ByteArray) (w : World) (hs : s.size ≤ 1048576) :
    Calls Try.prog 8 #[.string s] w fun e w' => e = .returned (.bool (Nm.shape (B s))) ∧ w = w' := by
  by_cases h0 : s.size = 0
  · have hfin : Hid (false = Nm.shape (B s)) := by show _ = _; unfold Nm.shape; rw [if_pos (by rw [B_length]; exact h0)]
    have hz : ((s.size : Int) == 0) = true := by simp [h0]
    clear h0
    go_enter Try.func8, Try.ntmps8
    go_wp2
    go_ret
    exact ⟨ret_bool hfin.out, rfl⟩
  · have hz : ((s.size : Int) == 0) = false := by simp [h0]
    have hp : 0 < s.size := by omega
    have b0 := bat_eq s 0 hp
    have b1 := bat_eq s (s.size - 1) (by omega)
    have hsh : Nm.shape (B s) = if bat s 0 = 46 ∨ bat s (s.size - 1) = 46 then false else Nm.inner (B s) := by
      unfold Nm.shape; rw [if_neg (by rw [B_length]; exact h0), B_length]; rfl
    clear h0
    by_cases h1 : bat s 0 = 46
    · have hfin : Hid (false = Nm.shape (B s)) := by show _ = _; rw [hsh, if_pos (.inl h1)]
      have h1b : (bat s 0 == 46) = true := by simp [h1]
      clear hsh h1
      go_enter Try.func8, Try.ntmps8
      go_wp2
      go_ret
      exact ⟨ret_bool hfin.out, rfl⟩
    · have h1b : (bat s 0 == 46) = false := by simp [h1]
      by_cases h2 : bat s (s.size - 1) = 46
      · have hfin : Hid (false = Nm.shape (B s)) := by show _ = _; rw [hsh, if_pos (.inr h2)]
        have h2b : (bat s (s.size - 1) == 46) = true := by simp [h2]
        clear hsh h1 h2
        go_enter Try.func8, Try.ntmps8
        go_wp2
        go_ret
        exact ⟨ret_bool hfin.out, rfl⟩
      · have hin : Hid (Nm.shape (B s) = Nm.inner (B s)) := by show _ = _; rw [hsh, if_neg (by simp [h1, h2])]
        have h2b : (bat s (s.size - 1) == 46) = false := by simp [h2]
        clear hsh h1 h2
        go_enter Try.func8, Try.ntmps8
        go_wp2
        clear b0 b1 h1b h2b
        go_loop [4] (fun i => ∃ k : Nat, k ≤ s.size ∧ i = .int .i64 k ∧ Hid (Nm.shape (B s) = Nm.inner ((B s).drop k))) (fun i => s.size - (intOf i).toNat)
        case atStart => exact ⟨0, Nat.zero_le _, rfl, by show _ = _; rw [hin.out]; simp⟩
        case round =>
          obtain ⟨k, hk, rfl, hv⟩ := hrel
          by_cases hlt : k < s.size
          · have hb := bat_eq s k hlt
            have hd := B_drop s k hlt
            have hv2 : Nm.shape (B s) = Nm.inner (bat s k :: (B s).drop (k + 1)) := by rw [hv.out, hd]
            clear hv hd
            by_cases h46 : bat s k = 46
            · have h : (bat s k == 46) = true := by simp [h46]
              by_cases hlt2 : k + 1 < s.size
              · have hb2 := bat_eq s (k + 1) hlt2
                by_cases h47 : bat s (k + 1) = 46
                · have hfin : Hid (Nm.shape (B s) = false) := hv2.trans (inner_dot_no h46 (by rw [drop_head]; exact h47))
                  have h2 : (bat s (k + 1) == 46) = true := by simp [h47]
                  clear hv2 h46 h47
                  go_wp2
                  go_ret
                  exact ⟨ret_bool hfin.out.symm, rfl⟩
                · have hfin : Hid (Nm.shape (B s) = Nm.inner ((B s).drop (k + 1))) := hv2.trans (inner_dot h46 (by rw [drop_head]; exact h47))
                  have h2 : (bat s (k + 1) == 46) = false := by simp [h47]
                  clear hv2 h46 h47
                  go_wp2
                  go_round
                  case rel => exact ⟨k + 1, by omega, by go_num, hfin⟩
                  case measure => simp [intOf]; omega
              · have hfin : Hid (Nm.shape (B s) = Nm.inner ((B s).drop (k + 1))) := hv2.trans (inner_dot h46 (by rw [B_end s (k + 1) (by omega)]; decide))
                have h2 : decide ((k : Int) + 1 < (s.size : Int)) = false := by simp; omega
                clear hv2 h46
                go_wp2
                go_round
                case rel => exact ⟨k + 1, by omega, by go_num, hfin⟩
                case measure => simp [intOf]; omega
            · have h : (bat s k == 46) = false := by simp [h46]
              cases hn : Nm.nb (bat s k) with
              | false =>
                have hfin : Hid (Nm.shape (B s) = false) := hv2.trans (inner_no h46 hn)
                clear hv2 h46
                go_wp2_with (go_at_call 15; refine (nameByte_any _ _).mono ?_; rintro e w' ⟨rfl, rfl⟩)
                go_ret
                exact ⟨ret_bool hfin.out.symm, rfl⟩
              | true =>
                have hfin : Hid (Nm.shape (B s) = Nm.inner ((B s).drop (k + 1))) := hv2.trans (inner_nb h46 hn)
                clear hv2 h46
                go_wp2_with (go_at_call 15; refine (nameByte_any _ _).mono ?_; rintro e w' ⟨rfl, rfl⟩)
                go_round
                case rel => exact ⟨k + 1, by omega, by go_num, hfin⟩
                case measure => simp [intOf]; omega
          · have hfin : Hid (Nm.shape (B s) = true) := by
              show _ = _; rw [hv.out, B_end s k (by omega)]; rfl
            clear hv
            go_wp2
            go_ret
            exact ⟨ret_bool hfin.out.symm, rfl⟩

theorem shape_is (s : ByteArray) (w : World) (hs : s.size ≤ 1048576) :
    Calls Try.prog 8 #[.string s] w fun e w' => e = .returned (.bool (Nm.valid true (B s))) ∧ w = w' := by
  rw [Nm.valid_shape]; exact shape_any s w hs

set_option maxHeartbeats 400000 in
theorem zb6 (s : ByteArray) (w : World) (hs : s.size ≤ 1048576) :
    Calls Try.prog 6 #[.string s] w fun e w' => e = .returned (.bool true) ∧ w = w' := by
  go_enter Try.func6, Try.ntmps6
  go_wp2
  go_ret
  exact ⟨rfl, rfl⟩

set_option maxHeartbeats 400000 in
theorem lawM (s : ByteArray) (w : World) (hm : s.size ≤ 9223372036854775807) :
    Calls Try.prog 3 #[.string s] w fun e w' => e = .returned (.bool true) ∧ w = w' := by
  by_cases hs : s.size ≤ 1048576
  · obtain ⟨v, hv⟩ : ∃ v, Hid (Nm.valid true (B s) = v) := ⟨_, rfl⟩
    go_enter Try.func3, Try.ntmps3
    go_wp2_with fail
    refine (zb6 s _ hs).mono ?_
    rintro e w' ⟨rfl, rfl⟩
    go_wp2_with fail
    refine (validName_any s _ (by omega)).mono ?_
    rintro e w' ⟨rfl, rfl⟩
    rw [hv.out]
    go_wp2_with fail
    refine (shape_is s _ hs).mono ?_
    rintro e w' ⟨rfl, rfl⟩
    rw [hv.out]
    go_wp2_with fail
    go_ret
    exact ⟨ret_bool (by simp), rfl⟩
  · go_enter Try.func3, Try.ntmps3
    go_wp2
    go_ret
    exact ⟨rfl, rfl⟩

theorem B_join (a b : ByteArray) : B (a ++ ⟨#[46]⟩ ++ b) = B a ++ 46 :: B b := by
  simp [B, ByteArray.data_append]

set_option maxHeartbeats 400000 in
theorem zb9 (s t : ByteArray) (w : World) (hs : s.size ≤ 524288) (ht : t.size ≤ 524288) :
    Calls Try.prog 9 #[.string s, .string t] w fun e w' => e = .returned (.bool true) ∧ w = w' := by
  go_enter Try.func9, Try.ntmps9
  go_wp2
  go_ret
  exact ⟨rfl, rfl⟩

set_option maxHeartbeats 2000000 in
theorem lawJ_main (s t : ByteArray) (w : World) (hs : s.size ≤ 524288) (ht : t.size ≤ 524288) :
    Calls Try.prog 4 #[.string s, .string t] w fun e w' => e = .returned (.bool true) ∧ w = w' := by
  have hjs : (s ++ ⟨#[46]⟩ ++ t).size ≤ 9223372036854775806 := by
    rw [ByteArray.size_append, ByteArray.size_append]
    have : (⟨#[46]⟩ : ByteArray).size = 1 := rfl
    omega
  have hvj : Nm.valid true (B (s ++ ⟨#[46]⟩ ++ t)) = (Nm.valid true (B s) && Nm.valid true (B t)) := by rw [B_join, Nm.valid_join]
  have hna := Nm.valid_noDot (B s)
  have hnb := Nm.valid_noDot (B t)
  have HJ : Hid ((s ++ ⟨#[46]⟩ ++ t).size ≤ 9223372036854775806) := hjs
  clear hjs
  cases hva : Nm.valid true (B s) <;> cases hvb : Nm.valid true (B t) <;> cases hda : Nm.noDot (B s) <;> cases hdb : Nm.noDot (B t)
  all_goals
    rw [hva, hvb] at hvj
    simp only [Bool.and_self, Bool.and_false, Bool.and_true] at hvj
    first
      | (have ha1 := (hna hda).symm; rw [hva] at ha1)
      | skip
    first
      | (have hb1 := (hnb hdb).symm; rw [hvb] at hb1)
      | skip
    clear hna hnb
    go_enter Try.func4, Try.ntmps4
    go_wp2_with (first | (go_at_call 9; refine (zb9 _ _ _ hs ht).mono ?_; rintro e w' ⟨rfl, rfl⟩) | (go_at_call 7; refine (validName_any _ _ ?_).mono ?_; (first | omega | exact HJ.out); rintro e w' ⟨rfl, rfl⟩) | (go_at_call 10; refine (noDot_any _ _ ?_).mono ?_; omega; rintro e w' ⟨rfl, rfl⟩) | (go_at_call 11; refine (allName_any _ _ ?_).mono ?_; omega; rintro e w' ⟨rfl, rfl⟩))
    go_ret
    exact ⟨rfl, rfl⟩

set_option maxHeartbeats 1000000 in
theorem lawJ (s t : ByteArray) (w : World) (hs : s.size ≤ 9223372036854775807) (ht : t.size ≤ 9223372036854775807) :
    Calls Try.prog 4 #[.string s, .string t] w fun e w' => e = .returned (.bool true) ∧ w = w' := by
  by_cases h1 : s.size ≤ 524288
  · by_cases h2 : t.size ≤ 524288
    · exact lawJ_main s t w h1 h2
    · by_cases h3 : t.size ≤ 1048576
      · by_cases h4 : s.size + t.size ≤ 1048576
        · go_enter Try.func4, Try.ntmps4
          go_wp2
          go_ret
          exact ⟨rfl, rfl⟩
        · go_enter Try.func4, Try.ntmps4
          go_wp2
          go_ret
          exact ⟨rfl, rfl⟩
      · go_enter Try.func4, Try.ntmps4
        go_wp2
        go_ret
        exact ⟨rfl, rfl⟩
  · by_cases h5 : s.size ≤ 1048576
    · by_cases h3 : t.size ≤ 1048576
      · by_cases h4 : s.size + t.size ≤ 1048576
        · go_enter Try.func4, Try.ntmps4
          go_wp2
          go_ret
          exact ⟨rfl, rfl⟩
        · go_enter Try.func4, Try.ntmps4
          go_wp2
          go_ret
          exact ⟨rfl, rfl⟩
      · go_enter Try.func4, Try.ntmps4
        go_wp2
        go_ret
        exact ⟨rfl, rfl⟩
    · go_enter Try.func4, Try.ntmps4
      go_wp2
      go_ret
      exact ⟨rfl, rfl⟩
end Go.Proofs.Qxb6617892a
