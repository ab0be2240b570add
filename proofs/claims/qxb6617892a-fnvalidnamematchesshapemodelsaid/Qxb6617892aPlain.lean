/-
  PLAIN LAWS for the seat's statements on names: lists of bytes (as integers) alone; no Go in sight. By an AI agent.
-/
namespace Go.Proofs.Qxb6617892a.Nm

def nb (c : Int) : Bool := (decide (97 ≤ c) && decide (c ≤ 122)) || (decide (48 ≤ c) && decide (c ≤ 57)) || c == 95

/-- 'ValidName', from a state 'tokenStart' on -/
def valid : Bool → List Int → Bool
  | ts, [] => !ts
  | ts, c :: r => if c = 46 then (if ts then false else valid true r) else if nb c then valid false r else false

/-- the loop of 'zzShapeModel' -/
def inner : List Int → Bool
  | [] => true
  | c :: r => if c = 46 then (if r.getD 0 0 = 46 then false else inner r) else if nb c then inner r else false

def shape (l : List Int) : Bool := if l.length = 0 then false else if l.getD 0 0 = 46 ∨ l.getD (l.length - 1) 0 = 46 then false else inner l

def lastOK : List Int → Bool
  | [] => true
  | c :: r => if r.length = 0 then !(c == 46) else lastOK r

theorem lastOK_eq : ∀ l : List Int, l.length ≠ 0 → lastOK l = !(l.getD (l.length - 1) 0 == 46)
  | [], h => absurd rfl h
  | c :: r, _ => by
    unfold lastOK
    by_cases h : r.length = 0
    · have : r = [] := List.eq_nil_of_length_eq_zero h
      subst this; simp
    · rw [if_neg h, lastOK_eq r h]
      have e : (c :: r).length - 1 = (r.length - 1) + 1 := by simp; omega
      rw [e]; rfl

theorem valid_tt (l : List Int) : valid true l = (!(l.length == 0) && !(l.getD 0 0 == 46) && valid false l) := by
  cases l with
  | nil => rfl
  | cons c r =>
    by_cases h : c = 46
    · simp [valid, h]
    · simp [valid, h]

theorem valid_ff : ∀ l : List Int, valid false l = (inner l && lastOK l)
  | [] => rfl
  | c :: r => by
    have ih := valid_ff r
    by_cases h : c = 46
    · subst h
      simp only [valid, inner, lastOK, if_true]
      rw [valid_tt, ih]
      by_cases h0 : r.length = 0
      · simp [h0]
      · by_cases h1 : r.getD 0 0 = 46
        · simp only [h1, if_true]; simp
        · have h1' : (r.getD 0 0 == 46) = false := by simpa using h1
          simp only [h1, h0, h1', if_false]; simp [h0]
    · simp only [valid, inner, lastOK, h, if_false]
      by_cases h2 : nb c = true
      · simp only [h2, if_true]
        by_cases h0 : r.length = 0
        · have : r = [] := List.eq_nil_of_length_eq_zero h0
          subst this
          simp [valid, inner, h]
        · rw [if_neg h0, ih]
      · simp [h2]

theorem valid_shape (l : List Int) : valid true l = shape l := by
  rw [valid_tt, valid_ff]
  unfold shape
  by_cases h0 : l.length = 0
  · simp [h0]
  · rw [if_neg h0, lastOK_eq l h0]
    by_cases h1 : l.getD 0 0 = 46
    · rw [if_pos (.inl h1), h1]; simp
    · by_cases h2 : l.getD (l.length - 1) 0 = 46
      · rw [if_pos (.inr h2), h2]; simp
      · rw [if_neg (by simp only [h1, h2]; simp)]
        have h1' : (l.getD 0 0 == 46) = false := by simpa using h1
        have h2' : (l.getD (l.length - 1) 0 == 46) = false := by simpa using h2
        have h0' : (l.length == 0) = false := by simpa using h0
        rw [h1', h2', h0']; simp

theorem valid_join (b : List Int) : ∀ (a : List Int) (ts : Bool), valid ts (a ++ 46 :: b) = (valid ts a && valid true b)
  | [], ts => by cases ts <;> simp [valid]
  | c :: r, ts => by
    have ih := valid_join b r
    by_cases h : c = 46
    · cases ts <;> simp [valid, h, ih]
    · by_cases h2 : nb c = true
      · simp [valid, h, h2, ih]
      · simp [valid, h, h2]

def noDot : List Int → Bool
  | [] => true
  | c :: r => if c = 46 then false else noDot r
def allNb : List Int → Bool
  | [] => true
  | c :: r => if nb c then allNb r else false
/-- 'zzAllNameBytes' -/
def allName (l : List Int) : Bool := if l.length = 0 then false else allNb l

theorem valid_noDot_ff : ∀ l : List Int, noDot l = true → valid false l = allNb l
  | [], _ => rfl
  | c :: r, h => by
    by_cases hc : c = 46
    · simp [noDot, hc] at h
    · have hr : noDot r = true := by simpa [noDot, hc] using h
      simp [valid, allNb, hc, valid_noDot_ff r hr]
theorem valid_noDot (l : List Int) (h : noDot l = true) : valid true l = allName l := by
  cases l with
  | nil => rfl
  | cons c r =>
    by_cases hc : c = 46
    · simp [noDot, hc] at h
    · have hr : noDot r = true := by simpa [noDot, hc] using h
      have := valid_noDot_ff r hr
      simp [valid, allName, allNb, hc, this]

end Go.Proofs.Qxb6617892a.Nm
