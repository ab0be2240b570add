/-
  THE WALKS of 'zzLineOf', 'zzWantScope', 'scope', 'ZZscope'. By an AI agent.
-/
import Derived.Test.Qxb6616684aFmtSet
import Derived.Lib.Strings
namespace Go.Proofs.Qxb6616684aFmt
open Go.RowKit
set_option linter.unusedVariables false

/-- a string's bytes, as integers -/
def B (s : ByteArray) : List Int := s.data.toList.map fun c => (c.toNat : Int)
theorem B_length (s : ByteArray) : (B s).length = s.size := by simp [B]
theorem bat_eq (s : ByteArray) (k : Nat) (h : k < s.size) : ((s[k].toNat : Nat) : Int) = byt (B s) k := by
  have hk : k < s.data.size := h
  have e : (B s)[k]? = some ((s.data[k].toNat : Nat) : Int) := by
    rw [B, List.getElem?_map, Array.getElem?_toList, Array.getElem?_eq_getElem hk]; rfl
  rw [byt, List.getD, e]
  rfl

set_option maxRecDepth 100000 in
set_option maxHeartbeats 1000000 in
theorem lineOf_any (s : ByteArray) (x : Int) (o : Nat) (w : World) (hx : x = (o : Int)) (hs : s.size ≤ 65536) (ho : o ≤ s.size) :
    Calls Tryf.prog 11 #[.string s, .int .i64 x] w fun e w' => e = .returned (.int .i64 (Ln.lineOf (B s) o)) ∧ w = w' := by
  subst hx
  by_cases h0 : s.size = 0
  · have hfin : Hid ((0 : Int) = (Ln.lineOf (B s) o : Nat)) := by
      show _ = _; unfold Ln.lineOf; rw [B_length, h0, show min 0 (o + 1) = 0 by omega]; rfl
    have hz : ((s.size : Int) == 0) = true := by simp [h0]
    clear h0
    go_enter Tryf.func11, Tryf.ntmps11
    go_wp2
    go_ret
    exact ⟨ret_int hfin.out, rfl⟩
  · have hz : ((s.size : Int) == 0) = false := by simp [h0]
    have hp : 0 < s.size := by omega
    clear h0
    go_enter Tryf.func11, Tryf.ntmps11
    go_wp2_with fail
    go_loop [5, 6] (fun n i => ∃ k : Nat, k + 1 ≤ s.size ∧ k ≤ o ∧ i = .int .i64 k ∧ n = .int .i64 ((Ln.linesTo (B s) (k + 1)).length : Nat)) (fun _ i => s.size - (intOf i).toNat)
    case atStart => exact ⟨0, by omega, by omega, rfl, rfl⟩
    case round =>
      obtain ⟨k, hk1, hk2, rfl, rfl⟩ := hrel
      have hle := Ln.linesTo_le (B s) (k + 1)
      by_cases hlt : k + 1 < s.size
      · by_cases hlt2 : k + 1 ≤ o
        · have hb := bat_eq s k (by omega)
          have hks : k < s.size := by omega
          have hst : Ln.start (B s) (k + 1) = (byt (B s) k == 10) := by simp [Ln.start, byt]
          cases hb10 : (byt (B s) k == 10) with
          | true =>
            have hl2 : Hid ((Ln.linesTo (B s) (k + 1 + 1)).length = (Ln.linesTo (B s) (k + 1)).length + 1) := by
              show _ = _; rw [Ln.linesTo_yes (by rw [hst]; exact hb10)]; simp
            clear hst
            go_wp2
            go_round
            case rel => exact ⟨k + 1, by omega, by omega, by go_num, by have := hl2.out; go_num⟩
            case measure => simp [intOf]; omega
          | false =>
            have hl2 : Hid ((Ln.linesTo (B s) (k + 1 + 1)).length = (Ln.linesTo (B s) (k + 1)).length) := by
              show _ = _; rw [Ln.linesTo_no (by rw [hst]; exact hb10)]
            clear hst
            go_wp2
            go_round
            case rel => exact ⟨k + 1, by omega, by omega, by go_num, by have := hl2.out; go_num⟩
            case measure => simp [intOf]; omega
        · have hfin : Hid (((Ln.linesTo (B s) (k + 1)).length : Int) = (Ln.lineOf (B s) o : Nat)) := by
            show _ = _; unfold Ln.lineOf; rw [B_length, show min s.size (o + 1) = k + 1 by omega]
          have hd : decide ((k : Int) + 1 ≤ (o : Int)) = false := by simp; omega
          go_wp2
          go_ret
          exact ⟨ret_int hfin.out, rfl⟩
      · have hfin : Hid (((Ln.linesTo (B s) (k + 1)).length : Int) = (Ln.lineOf (B s) o : Nat)) := by
          show _ = _; unfold Ln.lineOf; rw [B_length, show min s.size (o + 1) = k + 1 by omega]
        have hd : decide ((k : Int) + 1 < (s.size : Int)) = false := by simp; omega
        go_wp2
        go_ret
        exact ⟨ret_int hfin.out, rfl⟩

def isFile (v : ByteArray) : Bool := v.toList == [102, 105, 108, 101, 45, 105, 103, 110, 111, 114, 101]
def scopeOf (v : ByteArray) (alone : Bool) : ByteArray :=
  if isFile v then ⟨#[105, 110, 32, 116, 104, 105, 115, 32, 102, 105, 108, 101]⟩
  else if alone then ⟨#[111, 110, 32, 116, 104, 101, 32, 108, 105, 110, 101, 32, 98, 101, 108, 111, 119, 32, 105, 116]⟩
  else ⟨#[111, 110, 32, 116, 104, 105, 115, 32, 108, 105, 110, 101]⟩
theorem ret_str {a b : ByteArray} (h : a = b) : Ending.returned (.string a) = .returned (.string b) := by rw [h]

/-- a directive -/
def dirB (c f : Option Addr) (verb : ByteArray) (alone : Bool) : Obj := .cells #[.pointer c, .pointer f, .string verb, .slice none 0 0, .string ⟨#[]⟩, .bool alone] 47 (0, 0)

set_option maxRecDepth 100000 in
set_option maxHeartbeats 1000000 in
theorem wantScope_any (v : ByteArray) (alone : Bool) (w : World) :
    Calls Tryf.prog 10 #[.string v, .bool alone] w fun e w' => e = .returned (.string (scopeOf v alone)) ∧ w = w' := by
  cases h : isFile v with
  | true =>
    have hf : Hid (scopeOf v alone = ⟨#[105, 110, 32, 116, 104, 105, 115, 32, 102, 105, 108, 101]⟩) := by show _ = _; simp [scopeOf, h]
    unfold isFile at h
    go_enter Tryf.func10, Tryf.ntmps10
    go_wp2
    go_ret
    exact ⟨ret_str hf.out.symm, rfl⟩
  | false =>
    cases alone with
    | true =>
      have hf : Hid (scopeOf v true = ⟨#[111, 110, 32, 116, 104, 101, 32, 108, 105, 110, 101, 32, 98, 101, 108, 111, 119, 32, 105, 116]⟩) := by show _ = _; simp [scopeOf, h]
      unfold isFile at h
      go_enter Tryf.func10, Tryf.ntmps10
      go_wp2
      go_ret
      exact ⟨ret_str hf.out.symm, rfl⟩
    | false =>
      have hf : Hid (scopeOf v false = ⟨#[111, 110, 32, 116, 104, 105, 115, 32, 108, 105, 110, 101]⟩) := by show _ = _; simp [scopeOf, h]
      unfold isFile at h
      go_enter Tryf.func10, Tryf.ntmps10
      go_wp2
      go_ret
      exact ⟨ret_str hf.out.symm, rfl⟩

set_option maxRecDepth 100000 in
set_option maxHeartbeats 1000000 in
theorem scope_any (d : Nat) (c f : Option Addr) (v : ByteArray) (alone : Bool) (w : World) (hd : w.heap[d]? = some (dirB c f v alone)) :
    Calls Tryf.prog 21 #[.pointer (some ⟨d, 0, none⟩)] w fun e w' => e = .returned (.string (scopeOf v alone)) ∧ w = w' := by
  have c2 := cell_at hd 2
  have c5 := cell_at hd 5
  simp at c2 c5
  clear hd
  cases h : isFile v with
  | true =>
    have hf : Hid (scopeOf v alone = ⟨#[105, 110, 32, 116, 104, 105, 115, 32, 102, 105, 108, 101]⟩) := by show _ = _; simp [scopeOf, h]
    unfold isFile at h
    go_enter Tryf.func21, Tryf.ntmps21
    go_wp2
    go_ret
    exact ⟨ret_str hf.out.symm, rfl⟩
  | false =>
    cases alone with
    | true =>
      have hf : Hid (scopeOf v true = ⟨#[111, 110, 32, 116, 104, 101, 32, 108, 105, 110, 101, 32, 98, 101, 108, 111, 119, 32, 105, 116]⟩) := by show _ = _; simp [scopeOf, h]
      unfold isFile at h
      go_enter Tryf.func21, Tryf.ntmps21
      go_wp2
      go_ret
      exact ⟨ret_str hf.out.symm, rfl⟩
    | false =>
      have hf : Hid (scopeOf v false = ⟨#[111, 110, 32, 116, 104, 105, 115, 32, 108, 105, 110, 101]⟩) := by show _ = _; simp [scopeOf, h]
      unfold isFile at h
      go_enter Tryf.func21, Tryf.ntmps21
      go_wp2
      go_ret
      exact ⟨ret_str hf.out.symm, rfl⟩

set_option maxHeartbeats 400000 in
theorem zzScope_any (d : Nat) (c f : Option Addr) (v : ByteArray) (alone : Bool) (w : World) (hd : w.heap[d]? = some (dirB c f v alone)) :
    Calls Tryf.prog 8 #[.pointer (some ⟨d, 0, none⟩)] w fun e w' => e = .returned (.string (scopeOf v alone)) ∧ w = w' := by
  have HD : Hid (w.heap[d]? = some (dirB c f v alone)) := hd
  clear hd
  go_enter Tryf.func8, Tryf.ntmps8
  go_wp2_with (go_at_call 21; refine (scope_any d c f v alone _ HD.out).mono ?_; rintro e w' ⟨rfl, rfl⟩)
  go_ret
  exact ⟨rfl, rfl⟩
end Go.Proofs.Qxb6616684aFmt
