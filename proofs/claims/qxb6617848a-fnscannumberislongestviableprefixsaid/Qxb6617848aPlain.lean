/-
  PLAIN LAWS for the seat's three statements: lists of bytes (as integers) alone; no Go in sight. By an AI agent.
-/
namespace Go.Proofs.Qxb6617848a.Num

def isD (c : Int) : Bool := decide (48 ≤ c) && decide (c ≤ 57)
def isE (c : Int) : Bool := c == 101 || c == 69
def isS (c : Int) : Bool := c == 43 || c == 45

def digs : List Int → Nat
  | [] => 0
  | c :: r => if isD c then digs r + 1 else 0

def step (s : Nat) (c : Int) : Nat :=
  match s with
  | 0 => if c = 45 then 1 else if c = 48 then 2 else if isD c then 3 else 9
  | 1 => if c = 48 then 2 else if isD c then 3 else 9
  | 2 => if c = 46 then 4 else if isE c then 6 else 9
  | 3 => if isD c then 3 else if c = 46 then 4 else if isE c then 6 else 9
  | 4 => if isD c then 5 else 9
  | 5 => if isD c then 5 else if isE c then 6 else 9
  | 6 => if isS c then 7 else if isD c then 8 else 9
  | 7 => if isD c then 8 else 9
  | 8 => if isD c then 8 else 9
  | _ => 9

def acc (s : Nat) : Bool := s == 2 || s == 3 || s == 5 || s == 8

/-- The longest run of the machine from state s: its length, where it ends in an accepting state. -/
def R : Nat → List Int → Option Nat
  | s, [] => if acc s then some 0 else none
  | s, c :: r => if step s c = 9 then (if acc s then some 0 else none) else (R (step s c) r).map (· + 1)

theorem R_le : ∀ (l : List Int) (s n : Nat), R s l = some n → n ≤ l.length
  | [], s, n, h => by
    simp only [R] at h
    split at h <;> simp_all
  | c :: r, s, n, h => by
    simp only [R] at h
    split at h
    · split at h <;> simp_all <;> omega
    · rw [Option.map_eq_some_iff] at h
      obtain ⟨m, hm, rfl⟩ := h
      have := R_le r _ m hm
      simp; omega

theorem R0_pos (l : List Int) (n : Nat) (h : R 0 l = some n) : 1 ≤ n := by
  cases l with
  | nil => simp [R, acc] at h
  | cons c r =>
    simp only [R] at h
    split at h
    · simp [acc] at h
    · rw [Option.map_eq_some_iff] at h
      obtain ⟨m, hm, rfl⟩ := h
      omega

theorem R_take : ∀ (l : List Int) (s n m : Nat), R s l = some n → n ≤ m → R s (l.take m) = some n
  | [], s, n, m, h, _ => by simpa using h
  | c :: r, s, n, m, h, hm => by
    have h' := h
    simp only [R] at h
    split at h
    · rename_i h9
      split at h
      · rename_i ha
        cases m with
        | zero => simp [R, ha]; simpa using h
        | succ m => simp [R, ha, h9]; simpa using h
      · simp at h
    · rename_i h9
      rw [Option.map_eq_some_iff] at h
      obtain ⟨k, hk, rfl⟩ := h
      cases m with
      | zero => omega
      | succ m =>
        have := R_take r _ k m hk (by omega)
        simp [R, h9, this]

/-! the number scanner, as the Go text goes -/
def scanE (l : List Int) (i : Nat) : Option Nat :=
  if isE (l.getD i 0) then
    if isS (l.getD (i + 1) 0) then
      if isD (l.getD (i + 2) 0) then some (i + 2 + digs (l.drop (i + 2))) else none
    else if isD (l.getD (i + 1) 0) then some (i + 1 + digs (l.drop (i + 1))) else none
  else some i
def scanF (l : List Int) (i : Nat) : Option Nat :=
  if l.getD i 0 = 46 then
    if isD (l.getD (i + 1) 0) then scanE l (i + 1 + digs (l.drop (i + 1))) else none
  else scanE l i
def scanI (l : List Int) (i : Nat) : Option Nat :=
  if l.getD i 0 = 48 then scanF l (i + 1) else if isD (l.getD i 0) then scanF l (i + digs (l.drop i)) else none
def scan (l : List Int) (i : Nat) : Option Nat := if l.getD i 0 = 45 then scanI l (i + 1) else scanI l i

theorem isD_iff {c : Int} : isD c = true ↔ 48 ≤ c ∧ c ≤ 57 := by simp [isD]
theorem isE_iff {c : Int} : isE c = true ↔ c = 101 ∨ c = 69 := by simp [isE]
theorem isS_iff {c : Int} : isS c = true ↔ c = 43 ∨ c = 45 := by simp [isS]
theorem isD_zero : isD 0 = false := by decide
theorem isE_not_isD {c : Int} (h : isE c = true) : isD c = false := by
  rw [isE_iff] at h; rw [← Bool.not_eq_true, isD_iff]; omega
theorem isS_not_isD {c : Int} (h : isS c = true) : isD c = false := by
  rw [isS_iff] at h; rw [← Bool.not_eq_true, isD_iff]; omega
theorem isS_not_isE {c : Int} (h : isS c = true) : isE c = false := by
  rw [isS_iff] at h; rw [← Bool.not_eq_true, isE_iff]; omega

theorem drop_getD {l : List Int} {i : Nat} (h : l.getD i 0 ≠ 0) : l.drop i = l.getD i 0 :: l.drop (i + 1) := by
  have hi : i < l.length := by
    rcases Nat.lt_or_ge i l.length with h1 | h1
    · exact h1
    · exfalso; apply h; simp [List.getD, h1]
  rw [List.drop_eq_getElem_cons hi]
  simp [List.getD, hi]

theorem drop_cases (l : List Int) (i : Nat) : (l.drop i = [] ∧ l.getD i 0 = 0) ∨ l.drop i = l.getD i 0 :: l.drop (i + 1) := by
  rcases Nat.lt_or_ge i l.length with h1 | h1
  · right
    rw [List.drop_eq_getElem_cons h1]
    simp [List.getD, h1]
  · left
    simp [List.getD, h1]

theorem R8 : ∀ l : List Int, R 8 l = some (digs l)
  | [] => rfl
  | c :: r => by
    have ih := R8 r
    by_cases h : isD c = true <;> simp [R, step, digs, h, acc, ih]

/-- what the machine does behind the mantissa, from a state in which e or E is let and no digit follows -/
def eE (l : List Int) : Option Nat :=
  match l with
  | [] => some 0
  | c :: r => if isE c then (R 6 r).map (· + 1) else some 0
def eF (l : List Int) : Option Nat :=
  match l with
  | [] => some 0
  | c :: r => if c = 46 then (R 4 r).map (· + 1) else eE (c :: r)

theorem R5 : ∀ l : List Int, R 5 l = (eE (l.drop (digs l))).map (· + digs l)
  | [] => rfl
  | c :: r => by
    have ih := R5 r
    by_cases h : isD c = true
    · simp [R, step, digs, h, ih, Function.comp_def, Nat.add_assoc]
    · by_cases h2 : isE c = true
      · simp [R, step, digs, h, h2, eE, Function.comp_def]
      · simp [R, step, digs, h, h2, eE, acc]

theorem R3 : ∀ l : List Int, R 3 l = (eF (l.drop (digs l))).map (· + digs l)
  | [] => rfl
  | c :: r => by
    have ih := R3 r
    by_cases h : isD c = true
    · simp [R, step, digs, h, ih, Function.comp_def, Nat.add_assoc]
    · by_cases h3 : c = 46
      · subst h3; simp [R, step, digs, h, eF, Function.comp_def]
      · by_cases h2 : isE c = true
        · simp [R, step, digs, h, h2, h3, eE, eF, Function.comp_def]
        · simp [R, step, digs, h, h2, h3, eE, eF, acc]

theorem R2 (l : List Int) : R 2 l = eF l := by
  cases l with
  | nil => rfl
  | cons c r =>
    by_cases h3 : c = 46
    · subst h3; simp [R, step, eF]
    · by_cases h2 : isE c = true
      · simp [R, step, h2, h3, eE, eF]
      · simp [R, step, h2, h3, eE, eF, acc]

theorem map_map_add (o : Option Nat) (a b c : Nat) (h : a + b = c) : (o.map (· + a)).map (· + b) = o.map (· + c) := by
  cases o <;> simp; omega

theorem digs_cons {c : Int} {r : List Int} (h : isD c = true) : digs (c :: r) = digs r + 1 := by simp [digs, h]

theorem scanE_eq (l : List Int) (i : Nat) : scanE l i = (eE (l.drop i)).map (· + i) := by
  unfold scanE
  rcases drop_cases l i with ⟨h, h0⟩ | h
  · rw [h, h0]; simp [isE, eE]
  · rw [h]
    generalize l.getD i 0 = c0 at *
    by_cases he : isE c0 = true
    · rw [if_pos he]
      simp only [eE, he, if_true]
      rcases drop_cases l (i + 1) with ⟨h1, h10⟩ | h1
      · rw [h1, h10]; simp [R, acc, isS, isD]
      · rw [h1]
        generalize l.getD (i + 1) 0 = c1 at *
        by_cases hs : isS c1 = true
        · rw [if_pos hs]
          simp only [R, step, hs, if_true]
          simp only [show ¬ (7 : Nat) = 9 from by decide, if_false]
          show _ = Option.map (· + i) (Option.map (· + 1) (Option.map (· + 1) (R 7 (l.drop (i + 2)))))
          rcases drop_cases l (i + 2) with ⟨h2, h20⟩ | h2
          · rw [h2, h20]; simp [R, acc, isD]
          · rw [h2]
            generalize l.getD (i + 2) 0 = c2 at *
            by_cases hd : isD c2 = true
            · rw [if_pos hd, digs_cons hd]
              simp only [R, step, hd, if_true, R8]
              simp; omega
            · rw [if_neg hd]
              simp [R, step, hd, acc]
        · rw [if_neg hs]
          by_cases hd : isD c1 = true
          · rw [if_pos hd, digs_cons hd]
            simp [R, step, hd, hs, R8]; omega
          · rw [if_neg hd]
            simp [R, step, hd, hs, acc]
    · rw [if_neg he]
      simp [eE, he]

theorem scanF_eq (l : List Int) (i : Nat) : scanF l i = (eF (l.drop i)).map (· + i) := by
  unfold scanF
  rcases drop_cases l i with ⟨h, h0⟩ | h
  · rw [if_neg (by rw [h0]; decide), scanE_eq, h]; rfl
  · generalize l.getD i 0 = c0 at *
    by_cases hp : c0 = 46
    · rw [if_pos hp]
      rw [h]
      simp only [eF, hp, if_true]
      rcases drop_cases l (i + 1) with ⟨h1, h10⟩ | h1
      · rw [h1, h10]; simp [R, acc, isD]
      · generalize l.getD (i + 1) 0 = c1 at *
        by_cases hd : isD c1 = true
        · rw [if_pos hd, scanE_eq]
          have e4 : R 4 (l.drop (i + 1)) = R 5 (l.drop (i + 1)) := by
            rw [h1]; simp [R, step, hd]
          rw [e4, R5, List.drop_drop, map_map_add _ _ _ (digs (l.drop (i + 1)) + 1) rfl, map_map_add _ _ _ (i + 1 + digs (l.drop (i + 1))) (by omega)]
        · rw [if_neg hd]
          rw [h1]; simp [R, step, hd, acc]
    · rw [if_neg hp, scanE_eq, h]
      simp [eF, hp]

theorem scanI_eq (l : List Int) (i : Nat) : scanI l i = (R 1 (l.drop i)).map (· + i) := by
  unfold scanI
  rcases drop_cases l i with ⟨h, h0⟩ | h
  · rw [h, h0]; simp [R, acc, isD]
  · generalize l.getD i 0 = c0 at *
    by_cases hz : c0 = 48
    · rw [if_pos hz, scanF_eq]
      rw [h]
      simp only [R, step, hz, if_true, R2]
      simp only [show ¬ (2 : Nat) = 9 from by decide, if_false]
      rw [map_map_add _ _ _ (i + 1) (by omega)]
    · rw [if_neg hz]
      by_cases hd : isD c0 = true
      · rw [if_pos hd, scanF_eq]
        have e4 : R 1 (l.drop i) = R 3 (l.drop i) := by
          rw [h]; simp [R, step, hd, hz]
        rw [e4, R3, List.drop_drop, map_map_add _ _ _ (i + digs (l.drop i)) (by omega)]
      · rw [if_neg hd, h]
        simp [R, step, hd, hz, acc]

theorem scan_eq (l : List Int) (i : Nat) : scan l i = (R 0 (l.drop i)).map (· + i) := by
  unfold scan
  rcases drop_cases l i with ⟨h, h0⟩ | h
  · rw [if_neg (by rw [h0]; decide), scanI_eq, h]; rfl
  · generalize l.getD i 0 = c0 at *
    by_cases hm : c0 = 45
    · rw [if_pos hm, scanI_eq]
      rw [h]
      simp only [R, step, hm, if_true]
      simp only [show ¬ (1 : Nat) = 9 from by decide, if_false]
      rw [map_map_add _ _ _ (i + 1) (by omega)]
    · rw [if_neg hm, scanI_eq, h]
      simp only [R, step, hm, if_false, acc]
      simp

/-! ### the answer as Go gives it -/
def ans (o : Option Nat) : Int := match o with | none => -1 | some n => n
/-- 'scanNumber(data, i)' -/
def sc (l : List Int) (i : Nat) : Int := ans (scan l i)

theorem sc_eq (l : List Int) (i : Nat) : sc l i = (match R 0 (l.drop i) with | none => -1 | some n => (i : Int) + n) := by
  unfold sc ans
  rw [scan_eq]
  cases R 0 (l.drop i) <;> simp
  omega

theorem sc_end (l : List Int) (i : Nat) (h : l.length ≤ i) : sc l i = -1 := by
  rw [sc_eq, List.drop_eq_nil_of_le h]; rfl

theorem sc_facts (l : List Int) (i : Nat) : (sc l i = -1 ∧ sc (l.drop i) 0 = -1) ∨
    ∃ n : Nat, 1 ≤ n ∧ i + n ≤ l.length ∧ sc l i = ((i + n : Nat) : Int) ∧ sc (l.drop i) 0 = (n : Int) ∧ sc ((l.take (i + n)).drop i) 0 = (n : Int) ∧
      ∀ cut, i + n ≤ cut → sc (l.take cut) i = ((i + n : Nat) : Int) := by
  cases h : R 0 (l.drop i) with
  | none => left; simp [sc_eq, h]
  | some n =>
    right
    have hp := R0_pos _ _ h
    have hl := R_le _ _ _ h
    have hl' : n ≤ l.length - i := by simpa using hl
    refine ⟨n, hp, by omega, by simp [sc_eq, h], by simp [sc_eq, h], ?_, ?_⟩
    · have := R_take _ _ _ n h (Nat.le_refl _)
      have e : (l.take (i + n)).drop i = (l.drop i).take n := by rw [List.drop_take]; congr 1; omega
      rw [sc_eq, List.drop_zero, e, this]
      simp
    · intro cut hc
      have := R_take _ _ _ (cut - i) h (by omega)
      have e : (l.take cut).drop i = (l.drop i).take (cut - i) := by rw [List.drop_take]
      rw [sc_eq, e, this]
      simp

/-- the first byte of a scanned number -/
theorem sc_head (l : List Int) (i n : Nat) (h : sc l i = ((i + n : Nat) : Int)) : i < l.length ∧ (l.getD i 0 = 45 ∨ isD (l.getD i 0) = true) := by
  rw [sc_eq] at h
  rcases drop_cases l i with ⟨h1, h0⟩ | h1
  · rw [h1] at h; simp [R, acc] at h; omega
  · have hi : i < l.length := by
      rcases Nat.lt_or_ge i l.length with h2 | h2
      · exact h2
      · rw [List.drop_eq_nil_of_le h2] at h1; simp at h1
    refine ⟨hi, ?_⟩
    rw [h1] at h
    by_cases a : l.getD i 0 = 45
    · exact .inl a
    · by_cases b : isD (l.getD i 0) = true
      · exact .inr b
      · have z : ¬ l.getD i 0 = 48 := fun e => b (by rw [e]; decide)
        simp only [R, step, a, b, z, acc] at h
        simp at h
        omega

end Go.Proofs.Qxb6617848a.Num
