/-
  THE WALKS of 'ValidName', 'zzNameByte', 'zzShapeModel', 'zzNoDot', 'zzAllNameBytes'. By an AI agent.
-/
import Derived.Test.Qxb6617892aProg
import Derived.Test.Qxb6617892aPlain
import Derived.WalkKit
import Derived.WalkSpells
import Derived.WalkLawsBesides
namespace Go.Proofs.Qxb6617892a
open Go.RowKit
set_option linter.unusedVariables false

theorem ret_bool {a b : Bool} (h : a = b) : Ending.returned (.bool a) = .returned (.bool b) := by rw [h]

/-- a string's bytes, as integers -/
def B (s : ByteArray) : List Int := s.data.toList.map fun c => (c.toNat : Int)
/-- the byte at place k: a name that the walk does not open -/
def bat (s : ByteArray) (k : Nat) : Int := (B s).getD k 0
theorem B_length (s : ByteArray) : (B s).length = s.size := by simp [B]
theorem bat_eq (s : ByteArray) (k : Nat) (h : k < s.size) : ((s[k].toNat : Nat) : Int) = bat s k := by
  have hk : k < s.data.size := h
  have e : (B s)[k]? = some ((s.data[k].toNat : Nat) : Int) := by
    rw [B, List.getElem?_map, Array.getElem?_toList, Array.getElem?_eq_getElem hk]; rfl
  rw [bat, List.getD, e]
  rfl
theorem B_drop (s : ByteArray) (k : Nat) (h : k < s.size) : (B s).drop k = bat s k :: (B s).drop (k + 1) := by
  have h' : k < (B s).length := by rw [B_length]; exact h
  rw [List.drop_eq_getElem_cons h']
  simp [bat, List.getD, h']
theorem B_end (s : ByteArray) (k : Nat) (h : s.size ≤ k) : (B s).drop k = [] := by
  apply List.drop_eq_nil_of_le; rw [B_length]; exact h
theorem bat_bd (s : ByteArray) (k : Nat) : 0 ≤ bat s k ∧ bat s k ≤ 255 := by
  by_cases h : k < s.size
  · rw [← bat_eq s k h]; have := (s[k]).toNat_lt; omega
  · have : bat s k = 0 := by
      unfold bat; rw [List.getD, List.getElem?_eq_none (by rw [B_length]; omega)]; rfl
    omega

/-- of which kind a byte is -/
theorem kinds (c : Int) : c = 46 ∨ (48 ≤ c ∧ c ≤ 57) ∨ c = 95 ∨ (97 ≤ c ∧ c ≤ 122) ∨ c < 46 ∨ c = 47 ∨ (58 ≤ c ∧ c ≤ 94) ∨ c = 96 ∨ 123 ≤ c := by omega

theorem valid_dot_t {l : List Int} {c : Int} (h : c = 46) : Nm.valid true (c :: l) = false := by simp [Nm.valid, h]
theorem valid_dot_f {l : List Int} {c : Int} (h : c = 46) : Nm.valid false (c :: l) = Nm.valid true l := by simp [Nm.valid, h]
theorem valid_nb {l : List Int} {c : Int} {t : Bool} (h : ¬ c = 46) (hn : Nm.nb c = true) : Nm.valid t (c :: l) = Nm.valid false l := by simp [Nm.valid, h, hn]
theorem valid_no {l : List Int} {c : Int} {t : Bool} (h : ¬ c = 46) (hn : Nm.nb c = false) : Nm.valid t (c :: l) = false := by simp [Nm.valid, h, hn]
theorem nb_true {c : Int} (h : (97 ≤ c ∧ c ≤ 122) ∨ (48 ≤ c ∧ c ≤ 57) ∨ c = 95) : Nm.nb c = true := by
  simp [Nm.nb]; omega
theorem nb_false {c : Int} (h : ¬ ((97 ≤ c ∧ c ≤ 122) ∨ (48 ≤ c ∧ c ≤ 57) ∨ c = 95)) : Nm.nb c = false := by
  rw [← Bool.not_eq_true]; intro h2; apply h
  simp [Nm.nb] at h2; omega

set_option maxHeartbeats 2000000 in
theorem validName_any (s : ByteArray) (w : World) (hs : s.size ≤ 9223372036854775806) :
    Calls Try.prog 7 #[.string s] w fun e w' => e = .returned (.bool (Nm.valid true (B s))) ∧ w = w' := by
  go_enter Try.func7, Try.ntmps7
  go_wp2
  go_loop [3, 4] (fun t i => ∃ (k : Nat) (b : Bool), k ≤ s.size ∧ i = .int .i64 k ∧ t = .bool b ∧ Hid (Nm.valid true (B s) = Nm.valid b ((B s).drop k))) (fun _ i => s.size - (intOf i).toNat)
  case atStart => exact ⟨0, true, Nat.zero_le _, rfl, rfl, by show _ = _; simp⟩
  case round =>
    obtain ⟨k, b, hk, rfl, rfl, hv⟩ := hrel
    by_cases hlt : k < s.size
    · have hb := bat_eq s k hlt
      have hd := B_drop s k hlt
      have hv2 : Nm.valid true (B s) = Nm.valid b (bat s k :: (B s).drop (k + 1)) := by rw [hv.out, hd]
      clear hv hd
      generalize bat s k = c at *
      by_cases h46 : c = 46
      · cases b with
        | true =>
          have hfin : Hid (Nm.valid true (B s) = false) := hv2.trans (valid_dot_t h46)
          have h : (c == 46) = true := by simp [h46]
          clear hv2 h46
          go_wp2
          go_ret
          exact ⟨ret_bool hfin.out.symm, rfl⟩
        | false =>
          have hfin : Hid (Nm.valid true (B s) = Nm.valid true ((B s).drop (k + 1))) := hv2.trans (valid_dot_f h46)
          have h : (c == 46) = true := by simp [h46]
          clear hv2 h46
          go_wp2
          go_round
          case rel => exact ⟨k + 1, true, by omega, by go_num, rfl, hfin⟩
          case measure => simp [intOf]; omega
      · have h : (c == 46) = false := by simpa using h46
        by_cases hn : (97 ≤ c ∧ c ≤ 122) ∨ (48 ≤ c ∧ c ≤ 57) ∨ c = 95
        · have hfin : Hid (Nm.valid true (B s) = Nm.valid false ((B s).drop (k + 1))) := hv2.trans (valid_nb h46 (nb_true hn))
          clear hv2 h46
          rcases hn with ⟨h1, h2⟩ | ⟨h1, h2⟩ | h1
          · go_wp2
            go_round
            case rel => exact ⟨k + 1, false, by omega, by go_num, rfl, hfin⟩
            case measure => simp [intOf]; omega
          · go_wp2
            go_round
            case rel => exact ⟨k + 1, false, by omega, by go_num, rfl, hfin⟩
            case measure => simp [intOf]; omega
          · have h3 : (c == 95) = true := by simp [h1]
            have h4 : 95 ≤ c := by omega
            have h5 : c ≤ 95 := by omega
            clear h1
            go_wp2
            go_round
            case rel => exact ⟨k + 1, false, by omega, by go_num, rfl, hfin⟩
            case measure => simp [intOf]; omega
        · have hfin : Hid (Nm.valid true (B s) = false) := hv2.trans (valid_no h46 (nb_false hn))
          have h95 : (c == 95) = false := by simp; omega
          have hq : c < 48 ∨ (58 ≤ c ∧ c < 97) ∨ 123 ≤ c := by omega
          clear hv2 h46 hn
          rcases hq with h1 | ⟨h1, h2⟩ | h1
          all_goals
            go_wp2
            go_ret
            exact ⟨ret_bool hfin.out.symm, rfl⟩
    · have hfin : Hid (Nm.valid true (B s) = !b) := by
        show _ = _; rw [hv.out, B_end s k (by omega)]; rfl
      clear hv
      go_wp2
      go_ret
      exact ⟨ret_bool hfin.out.symm, rfl⟩

set_option maxHeartbeats 1000000 in
theorem nameByte_any (c : Int) (w : World) :
    Calls Try.prog 15 #[.int .u8 c] w fun e w' => e = .returned (.bool (Nm.nb c)) ∧ w = w' := by
  by_cases hn : (97 ≤ c ∧ c ≤ 122) ∨ (48 ≤ c ∧ c ≤ 57) ∨ c = 95
  · have hfin : Hid (true = Nm.nb c) := (nb_true hn).symm
    rcases hn with ⟨h1, h2⟩ | ⟨h1, h2⟩ | h1
    · go_enter Try.func15, Try.ntmps15
      go_wp2
      go_ret
      exact ⟨ret_bool hfin.out, rfl⟩
    · go_enter Try.func15, Try.ntmps15
      go_wp2
      go_ret
      exact ⟨ret_bool hfin.out, rfl⟩
    · have h3 : (c == 95) = true := by simp [h1]
      have h4 : 95 ≤ c := by omega
      have h5 : c ≤ 95 := by omega
      clear h1
      go_enter Try.func15, Try.ntmps15
      go_wp2
      go_ret
      exact ⟨ret_bool hfin.out, rfl⟩
  · have hfin : Hid (false = Nm.nb c) := (nb_false hn).symm
    have h95 : (c == 95) = false := by simp; omega
    have hq : c < 48 ∨ (58 ≤ c ∧ c < 97) ∨ 123 ≤ c := by omega
    clear hn
    rcases hq with h1 | ⟨h1, h2⟩ | h1
    all_goals
      go_enter Try.func15, Try.ntmps15
      go_wp2
      go_ret
      exact ⟨ret_bool (by first | exact hfin.out | (rw [← hfin.out]; simp; omega)), rfl⟩

theorem noDot_dot {l : List Int} {c : Int} (h : c = 46) : Nm.noDot (c :: l) = false := by simp [Nm.noDot, h]
theorem noDot_no {l : List Int} {c : Int} (h : ¬ c = 46) : Nm.noDot (c :: l) = Nm.noDot l := by simp [Nm.noDot, h]
theorem allNb_yes {l : List Int} {c : Int} (h : Nm.nb c = true) : Nm.allNb (c :: l) = Nm.allNb l := by simp [Nm.allNb, h]
theorem allNb_no {l : List Int} {c : Int} (h : Nm.nb c = false) : Nm.allNb (c :: l) = false := by simp [Nm.allNb, h]

set_option maxHeartbeats 1000000 in
theorem noDot_any (s : ByteArray) (w : World) (hs : s.size ≤ 9223372036854775806) :
    Calls Try.prog 10 #[.string s] w fun e w' => e = .returned (.bool (Nm.noDot (B s))) ∧ w = w' := by
  go_enter Try.func10, Try.ntmps10
  go_wp2
  go_loop [3] (fun i => ∃ k : Nat, k ≤ s.size ∧ i = .int .i64 k ∧ Hid (Nm.noDot (B s) = Nm.noDot ((B s).drop k))) (fun i => s.size - (intOf i).toNat)
  case atStart => exact ⟨0, Nat.zero_le _, rfl, by show _ = _; simp⟩
  case round =>
    obtain ⟨k, hk, rfl, hv⟩ := hrel
    by_cases hlt : k < s.size
    · have hb := bat_eq s k hlt
      have hd := B_drop s k hlt
      have hv2 : Nm.noDot (B s) = Nm.noDot (bat s k :: (B s).drop (k + 1)) := by rw [hv.out, hd]
      clear hv hd
      generalize bat s k = c at *
      by_cases h46 : c = 46
      · have hfin : Hid (Nm.noDot (B s) = false) := hv2.trans (noDot_dot h46)
        have h : (c == 46) = true := by simp [h46]
        clear hv2 h46
        go_wp2
        go_ret
        exact ⟨ret_bool hfin.out.symm, rfl⟩
      · have hfin : Hid (Nm.noDot (B s) = Nm.noDot ((B s).drop (k + 1))) := hv2.trans (noDot_no h46)
        have h : (c == 46) = false := by simpa using h46
        clear hv2 h46
        go_wp2
        go_round
        case rel => exact ⟨k + 1, by omega, by go_num, hfin⟩
        case measure => simp [intOf]; omega
    · have hfin : Hid (Nm.noDot (B s) = true) := by
        show _ = _; rw [hv.out, B_end s k (by omega)]; rfl
      clear hv
      go_wp2
      go_ret
      exact ⟨ret_bool hfin.out.symm, rfl⟩

set_option maxHeartbeats 1000000 in
theorem allName_any (s : ByteArray) (w : World) (hs : s.size ≤ 9223372036854775806) :
    Calls Try.prog 11 #[.string s] w fun e w' => e = .returned (.bool (Nm.allName (B s))) ∧ w = w' := by
  by_cases h0 : s.size = 0
  · have hfin : Hid (false = Nm.allName (B s)) := by show _ = _; unfold Nm.allName; rw [if_pos (by rw [B_length]; exact h0)]
    have hz : ((s.size : Int) == 0) = true := by simp [h0]
    clear h0
    go_enter Try.func11, Try.ntmps11
    go_wp2
    go_ret
    exact ⟨ret_bool hfin.out, rfl⟩
  · have hA : Hid (Nm.allName (B s) = Nm.allNb (B s)) := by show _ = _; unfold Nm.allName; rw [if_neg (by rw [B_length]; exact h0)]
    have hz : ((s.size : Int) == 0) = false := by simp [h0]
    have hp : 0 < s.size := by omega
    clear h0
    go_enter Try.func11, Try.ntmps11
    go_wp2
    go_loop [3] (fun i => ∃ k : Nat, k ≤ s.size ∧ i = .int .i64 k ∧ Hid (Nm.allNb (B s) = Nm.allNb ((B s).drop k))) (fun i => s.size - (intOf i).toNat)
    case atStart => exact ⟨0, Nat.zero_le _, rfl, by show _ = _; simp⟩
    case round =>
      obtain ⟨k, hk, rfl, hv⟩ := hrel
      by_cases hlt : k < s.size
      · have hb := bat_eq s k hlt
        have hd := B_drop s k hlt
        have hv2 : Nm.allNb (B s) = Nm.allNb (bat s k :: (B s).drop (k + 1)) := by rw [hv.out, hd]
        clear hv hd
        generalize bat s k = c at *
        cases hn : Nm.nb c with
        | false =>
          have hfin : Hid (Nm.allName (B s) = false) := hA.out.trans (hv2.trans (allNb_no hn))
          clear hv2
          go_wp2_with (go_at_call 15; refine (nameByte_any _ _).mono ?_; rintro e w' ⟨rfl, rfl⟩)
          go_ret
          exact ⟨ret_bool hfin.out.symm, rfl⟩
        | true =>
          have hfin : Hid (Nm.allNb (B s) = Nm.allNb ((B s).drop (k + 1))) := hv2.trans (allNb_yes hn)
          clear hv2
          go_wp2_with (go_at_call 15; refine (nameByte_any _ _).mono ?_; rintro e w' ⟨rfl, rfl⟩)
          go_round
          case rel => exact ⟨k + 1, by omega, by go_num, hfin⟩
          case measure => simp [intOf]; omega
      · have hfin : Hid (Nm.allName (B s) = true) := by
          show _ = _; rw [hA.out, hv.out, B_end s k (by omega)]; rfl
        clear hv
        go_wp2
        go_ret
        exact ⟨ret_bool hfin.out.symm, rfl⟩

end Go.Proofs.Qxb6617892a
