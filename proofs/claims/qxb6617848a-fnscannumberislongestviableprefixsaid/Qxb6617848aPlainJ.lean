/-
  PLAIN LAWS for the third statement of the seat: the split-based grammar against the machine; bisection. By an AI agent.
-/
import Derived.Test.Qxb6617848aPlain
namespace Go.Proofs.Qxb6617848a.Num

def run (s : Nat) (l : List Int) : Nat := l.foldl step s
def A (s : Nat) (l : List Int) : Bool := acc (run s l)

theorem run_nil (s : Nat) : run s [] = s := rfl
theorem run_cons (s : Nat) (c : Int) (r : List Int) : run s (c :: r) = run (step s c) r := rfl
theorem run_dead : ∀ l : List Int, run 9 l = 9
  | [] => rfl
  | c :: r => by rw [run_cons]; exact run_dead r
theorem A_nil (s : Nat) : A s [] = acc s := rfl
theorem A_cons (s : Nat) (c : Int) (r : List Int) : A s (c :: r) = A (step s c) r := rfl
theorem A_dead (l : List Int) : A 9 l = false := by unfold A; rw [run_dead]; rfl
theorem run_append (s : Nat) (a b : List Int) : run s (a ++ b) = run (run s a) b := by simp [run, List.foldl_append]

/-- THE LONGEST RUN: if k bytes are alive and the (k+1)st is not (or there is none), the machine's answer is told by the state behind k. -/
theorem R_of : ∀ (l : List Int) (s k : Nat), s ≠ 9 → run s (l.take k) ≠ 9 → k ≤ l.length → (k = l.length ∨ run s (l.take (k + 1)) = 9) →
    R s l = if A s (l.take k) then some k else none
  | [], s, k, _, _, hk, _ => by
    have : k = 0 := by simpa using hk
    subst this
    simp [R, A, run_nil]
  | c :: r, s, 0, hs, _, _, h => by
    rcases h with h | h
    · simp at h
    · have h9 : step s c = 9 := by simpa [run_cons, run_nil] using h
      show R s (c :: r) = if acc s = true then some 0 else none
      simp only [R, h9, if_true]
  | c :: r, s, k + 1, hs, h1, hk, h => by
    have e : ∀ j, (c :: r).take (j + 1) = c :: r.take j := fun j => rfl
    rw [e, run_cons] at h1
    have h9 : step s c ≠ 9 := by
      intro h9; rw [h9, run_dead] at h1; exact h1 rfl
    have := R_of r (step s c) k h9 h1 (by simpa using hk) (by
      rcases h with h | h
      · left; simpa using h
      · right; rw [e, run_cons] at h; exact h)
    rw [e, A_cons]
    simp only [R, h9, if_false, this]
    split <;> simp

/-! ### the split-based grammar -/
def allD (l : List Int) : Bool := l.all isD
/-- 'from == size || !digitsOnly(..)' turned round: not empty, digits alone -/
def neD (l : List Int) : Bool := !l.isEmpty && allD l
/-- behind e or E -/
def expo (l : List Int) : Bool :=
  match l with
  | [] => false
  | c :: r => if isS c then neD r else neD (c :: r)
def eAt (u : List Int) : Nat := u.findIdx isE
def isDot (c : Int) : Bool := c == 46
def dAt (m : List Int) : Nat := m.findIdx isDot
/-- the exponent's part of 'isJSONNumber' -/
def partE (u : List Int) : Bool := if eAt u < u.length then expo (u.drop (eAt u + 1)) else true
/-- the fraction's part, of the mantissa behind its sign -/
def partF (m : List Int) : Bool := if dAt m < m.length then neD (m.drop (dAt m + 1)) else true
/-- the part ahead of the dot -/
def partI (m : List Int) : Bool := !(dAt m == 0) && allD (m.take (dAt m)) && !(decide (1 < dAt m) && m.getD 0 48 == 48)

theorem A8 : ∀ l : List Int, A 8 l = allD l
  | [] => rfl
  | c :: r => by
    have ih := A8 r
    rw [A_cons]
    by_cases h : isD c = true
    · simp [step, h, allD]; simpa [allD] using ih
    · simp [step, h, allD, A_dead]
theorem A7 (l : List Int) : A 7 l = neD l := by
  cases l with
  | nil => rfl
  | cons c r =>
    rw [A_cons]
    by_cases h : isD c = true
    · simp [step, h, neD, allD]; simpa [allD] using A8 r
    · simp [step, h, neD, allD, A_dead]
theorem A6 (l : List Int) : A 6 l = expo l := by
  cases l with
  | nil => rfl
  | cons c r =>
    rw [A_cons]
    by_cases h : isS c = true
    · simp [step, h, expo]; exact A7 r
    · by_cases hd : isD c = true
      · simp [step, h, hd, expo, neD, allD]; simpa [allD] using A8 r
      · simp [step, h, hd, expo, neD, allD, A_dead]

theorem eAt_cons (c : Int) (r : List Int) : eAt (c :: r) = if isE c then 0 else eAt r + 1 := by
  unfold eAt; rw [List.findIdx_cons]; cases isE c <;> simp
theorem dAt_cons (c : Int) (r : List Int) : dAt (c :: r) = if isDot c then 0 else dAt r + 1 := by
  unfold dAt; rw [List.findIdx_cons]; cases isDot c <;> simp
theorem eAt_le (u : List Int) : eAt u ≤ u.length := List.findIdx_le_length
theorem dAt_le (u : List Int) : dAt u ≤ u.length := List.findIdx_le_length

theorem partE_e {c : Int} {r : List Int} (h : isE c = true) : partE (c :: r) = expo r := by
  simp [partE, eAt_cons, h]
theorem partE_ne {c : Int} {r : List Int} (h : isE c = false) : partE (c :: r) = partE r := by
  simp [partE, eAt_cons, h]
theorem take_e {c : Int} {r : List Int} (h : isE c = true) : (c :: r).take (eAt (c :: r)) = [] := by simp [eAt_cons, h]
theorem take_ne {c : Int} {r : List Int} (h : isE c = false) : (c :: r).take (eAt (c :: r)) = c :: r.take (eAt r) := by simp [eAt_cons, h]

theorem A5 : ∀ l : List Int, A 5 l = (allD (l.take (eAt l)) && partE l)
  | [] => rfl
  | c :: r => by
    have ih := A5 r
    rw [A_cons]
    by_cases he : isE c = true
    · rw [take_e he, partE_e he]
      simp [step, he, isE_not_isD he, allD]; exact A6 r
    · have he' : isE c = false := by simpa using he
      rw [take_ne he', partE_ne he']
      by_cases hd : isD c = true
      · simp [step, hd, ih, allD]
      · simp [step, hd, he, A_dead, allD]
theorem A4 (l : List Int) : A 4 l = (neD (l.take (eAt l)) && partE l) := by
  cases l with
  | nil => rfl
  | cons c r =>
    rw [A_cons]
    by_cases he : isE c = true
    · rw [take_e he, partE_e he]
      simp [step, isE_not_isD he, neD, A_dead]
    · have he' : isE c = false := by simpa using he
      rw [take_ne he', partE_ne he']
      by_cases hd : isD c = true
      · have := A5 r
        simp [step, hd, this, neD, allD]
      · simp [step, hd, A_dead, neD, allD]

theorem isE_not_dot {c : Int} (h : isE c = true) : isDot c = false := by
  rw [isE_iff] at h; simp [isDot]; omega
theorem isDot_not_E {c : Int} (h : isDot c = true) : isE c = false := by
  have : c = 46 := by simpa [isDot] using h
  subst this; decide
theorem isDot_not_D {c : Int} (h : isDot c = true) : isD c = false := by
  have : c = 46 := by simpa [isDot] using h
  subst this; decide

/-- digits up to the dot (or the end) -/
def headD (m : List Int) : Bool := allD (m.take (dAt m))
theorem headD_dot {c : Int} {r : List Int} (h : isDot c = true) : headD (c :: r) = true := by simp [headD, dAt_cons, h, allD]
theorem headD_nd {c : Int} {r : List Int} (h : isDot c = false) : headD (c :: r) = (isD c && headD r) := by simp [headD, dAt_cons, h, allD]
theorem partF_dot {c : Int} {r : List Int} (h : isDot c = true) : partF (c :: r) = neD r := by simp [partF, dAt_cons, h]
theorem partF_nd {c : Int} {r : List Int} (h : isDot c = false) : partF (c :: r) = partF r := by simp [partF, dAt_cons, h]

theorem A3 : ∀ l : List Int, A 3 l = (headD (l.take (eAt l)) && partF (l.take (eAt l)) && partE l)
  | [] => rfl
  | c :: r => by
    have ih := A3 r
    rw [A_cons]
    by_cases he : isE c = true
    · have hne : ¬ c = 46 := by intro e; subst e; exact absurd he (by decide)
      rw [take_e he, partE_e he]
      simp [step, he, isE_not_isD he, hne, headD, partF, dAt, allD]; exact A6 r
    · have he' : isE c = false := by simpa using he
      rw [take_ne he', partE_ne he']
      by_cases hp : isDot c = true
      · have hc : c = 46 := by simpa [isDot] using hp
        rw [headD_dot hp, partF_dot hp]
        have e4 : step 3 c = 4 := by rw [hc]; decide
        rw [e4]
        have := A4 r
        simpa using this
      · have hp' : isDot c = false := by simpa using hp
        have hne : ¬ c = 46 := by simpa [isDot] using hp'
        rw [headD_nd hp', partF_nd hp']
        by_cases hd : isD c = true
        · simp [step, hd, ih]
        · simp [step, hd, he, hne, A_dead]

theorem A2 (l : List Int) : A 2 l = (decide (dAt (l.take (eAt l)) = 0) && partF (l.take (eAt l)) && partE l) := by
  cases l with
  | nil => rfl
  | cons c r =>
    rw [A_cons]
    by_cases he : isE c = true
    · have hne : ¬ c = 46 := by intro e; subst e; exact absurd he (by decide)
      rw [take_e he, partE_e he]
      simp [step, he, hne, partF, dAt]; exact A6 r
    · have he' : isE c = false := by simpa using he
      rw [take_ne he', partE_ne he']
      by_cases hp : isDot c = true
      · have hc : c = 46 := by simpa [isDot] using hp
        rw [dAt_cons, partF_dot hp]
        simp [step, hc, isDot]
        have := A4 r
        simpa using this
      · have hp' : isDot c = false := by simpa using hp
        have hne : ¬ c = 46 := by simpa [isDot] using hp'
        rw [dAt_cons, partF_nd hp']
        simp [step, hne, he, hp', A_dead]

/-- the mantissa behind its sign -/
def body (u : List Int) : Bool := partI (u.take (eAt u)) && partF (u.take (eAt u)) && partE u

theorem A1 (l : List Int) : A 1 l = body l := by
  unfold body
  cases l with
  | nil => rfl
  | cons c r =>
    rw [A_cons]
    by_cases he : isE c = true
    · have hz : ¬ c = 48 := by intro e; subst e; exact absurd he (by decide)
      rw [take_e he, partE_e he]
      simp [step, hz, isE_not_isD he, A_dead, partI, dAt]
    · have he' : isE c = false := by simpa using he
      rw [take_ne he', partE_ne he']
      by_cases hp : isDot c = true
      · have hc : c = 46 := by simpa [isDot] using hp
        have : step 1 c = 9 := by rw [hc]; decide
        rw [this, A_dead]
        simp [partI, dAt_cons, hp]
      · have hp' : isDot c = false := by simpa using hp
        rw [partF_nd hp']
        by_cases hz : c = 48
        · subst hz
          have : step 1 48 = 2 := by decide
          rw [this, A2]
          simp only [partI, dAt_cons, hp']
          cases hdd : dAt (r.take (eAt r)) with
          | zero => simp [allD, isD]
          | succ k => simp
        · by_cases hd : isD c = true
          · have : step 1 c = 3 := by simp [step, hz, hd]
            rw [this, A3]
            have hz' : (c == 48) = false := by simpa using hz
            simp only [partI, dAt_cons, hp', headD]
            simp [allD, hd, hz']
          · have : step 1 c = 9 := by simp [step, hz, hd]
            rw [this, A_dead]
            simp [partI, dAt_cons, hp', allD, hd]

/-- 'isJSONNumber' of the text u -/
def isJ (u : List Int) : Bool := if eAt u > 0 && u.getD 0 48 == 45 then body (u.drop 1) else body u

theorem A0 (l : List Int) : A 0 l = isJ l := by
  cases l with
  | nil => rfl
  | cons c r =>
    unfold isJ
    by_cases hm : c = 45
    · subst hm
      have he : isE 45 = false := by decide
      simp only [eAt_cons, he]
      rw [A_cons]
      simpa [step] using A1 r
    · have e : A 0 (c :: r) = A 1 (c :: r) := by
        rw [A_cons, A_cons]
        simp [step, hm]
      rw [e, A1]
      simp [hm]

/-! ### which states are alive: with one 0 put after it the text is a number -/
theorem step_dead_or (s : Nat) (c : Int) (hs : s ≤ 9) : step s c ≤ 9 := by
  unfold step
  split <;> (repeat' split) <;> omega
theorem run_le9 : ∀ (l : List Int) (s : Nat), s ≤ 9 → run s l ≤ 9
  | [], s, h => h
  | c :: r, s, h => by rw [run_cons]; exact run_le9 r _ (step_dead_or s c h)

theorem alive_iff (u : List Int) : (isJ u || isJ (u ++ [48])) = decide (run 0 u ≠ 9) := by
  rw [← A0, ← A0]
  unfold A
  rw [run_append]
  have h9 := run_le9 u 0 (by omega)
  generalize run 0 u = s at *
  rw [run_cons, run_nil]
  match s, h9 with
  | 0, _ => decide
  | 1, _ => decide
  | 2, _ => decide
  | 3, _ => decide
  | 4, _ => decide
  | 5, _ => decide
  | 6, _ => decide
  | 7, _ => decide
  | 8, _ => decide
  | 9, _ => decide

def viable (t : List Int) (n : Nat) : Bool := isJ (t.take n) || isJ (t.take n ++ [48])
theorem viable_iff (t : List Int) (n : Nat) : viable t n = decide (run 0 (t.take n) ≠ 9) := alive_iff _
theorem viable_zero (t : List Int) : viable t 0 = true := by rw [viable_iff]; simp [run_nil]

/-- THE LAW behind the bisection -/
theorem longest (l : List Int) (i lo : Nat) (hlo : lo ≤ (l.drop i).length) (hv : viable (l.drop i) lo = true) (hn : lo = (l.drop i).length ∨ viable (l.drop i) (lo + 1) = false) :
    sc l i = if isJ ((l.drop i).take lo) then (i : Int) + lo else -1 := by
  rw [viable_iff] at hv
  have hr := R_of (l.drop i) 0 lo (by decide) (by simpa using hv) hlo (by
    rcases hn with h | h
    · exact .inl h
    · right; rw [viable_iff] at h; simpa using h)
  rw [sc_eq, hr, A0]
  cases isJ ((l.drop i).take lo) <;> simp

end Go.Proofs.Qxb6617848a.Num
