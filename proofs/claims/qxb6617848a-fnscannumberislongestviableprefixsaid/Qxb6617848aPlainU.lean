/-
  PLAIN LAWS: 'isJSONNumber' by places, as the Go text goes, against the grammar of Qxb6617848aPlainJ.lean. By an AI agent.
-/
import Derived.Test.Qxb6617848aPlainJ
namespace Go.Proofs.Qxb6617848a.Num

/-- the byte at place k, '0' past the end -/
def uby (u : List Int) (k : Nat) : Int := u.getD k 48
/-- the text that is looked at: t[:n], a 0 behind it where wz -/
def U (l : List Int) (n : Nat) (wz : Bool) : List Int := l.take n ++ (if wz then [48] else [])

theorem U_uby (l : List Int) (n : Nat) (wz : Bool) (k : Nat) : (l.take n).getD k 48 = uby (U l n wz) k := by
  unfold uby U
  cases wz with
  | false => simp
  | true =>
    simp only [if_true, List.getD]
    by_cases h : k < (l.take n).length
    · rw [List.getElem?_append_left h]
    · rw [List.getElem?_append_right (by omega), List.getElem?_eq_none (by omega)]
      cases hj : k - (l.take n).length with
      | zero => rfl
      | succ m => rfl
theorem U_length (l : List Int) (n : Nat) (wz : Bool) (h : n ≤ l.length) : (U l n wz).length = if wz then n + 1 else n := by
  unfold U
  cases wz <;> simp <;> omega

/-- 'digitsOnly(t, n, a, b)' -/
def dOnly (u : List Int) (a b : Nat) : Bool := (List.range' a (b - a)).all fun j => isD (uby u j)
theorem dOnly_end (u : List Int) (a b : Nat) (h : b ≤ a) : dOnly u a b = true := by
  unfold dOnly; rw [show b - a = 0 by omega]; rfl
theorem dOnly_step (u : List Int) (a b : Nat) (h : a < b) : dOnly u a b = (isD (uby u a) && dOnly u (a + 1) b) := by
  unfold dOnly
  rw [show b - a = (b - (a + 1)) + 1 by omega, List.range'_succ]
  simp

theorem seg_cons (u : List Int) (a b : Nat) (h : a < b) (hb : b ≤ u.length) : (u.take b).drop a = uby u a :: (u.take b).drop (a + 1) := by
  have ha : a < (u.take b).length := by rw [List.length_take]; omega
  rw [List.drop_eq_getElem_cons ha]
  congr 1
  simp [uby, List.getD, show a < u.length by omega]
theorem seg_nil (u : List Int) (a b : Nat) (h : b ≤ a) : (u.take b).drop a = [] := by
  apply List.drop_eq_nil_of_le; rw [List.length_take]; omega

theorem dOnly_eq (u : List Int) (b : Nat) (hb : b ≤ u.length) : ∀ (m a : Nat), b - a = m → dOnly u a b = allD ((u.take b).drop a)
  | 0, a, h => by rw [dOnly_end u a b (by omega), seg_nil u a b (by omega)]; rfl
  | m + 1, a, h => by
    rw [dOnly_step u a b (by omega), seg_cons u a b (by omega) hb, dOnly_eq u b hb m (a + 1) (by omega)]
    simp [allD]

theorem eAt_step (u : List Int) (k : Nat) (h : k < u.length) : eAt (u.drop k) = if isE (uby u k) then 0 else eAt (u.drop (k + 1)) + 1 := by
  have e : u.drop k = uby u k :: u.drop (k + 1) := by
    rw [List.drop_eq_getElem_cons h]; simp [uby, List.getD, h]
  rw [e, eAt_cons]
theorem eAt_end (u : List Int) (k : Nat) (h : u.length ≤ k) : eAt (u.drop k) = 0 := by rw [List.drop_eq_nil_of_le h]; rfl
theorem dAt_step (u : List Int) (k b : Nat) (h : k < b) (hb : b ≤ u.length) : dAt ((u.take b).drop k) = if isDot (uby u k) then 0 else dAt ((u.take b).drop (k + 1)) + 1 := by
  rw [seg_cons u k b h hb, dAt_cons]
theorem dAt_end (u : List Int) (k b : Nat) (h : b ≤ k) : dAt ((u.take b).drop k) = 0 := by rw [seg_nil u k b h]; rfl

/-- the exponent's part, by places -/
def pE (u : List Int) (s : Nat) : Bool :=
  let f := if s < u.length && isS (uby u s) then s + 1 else s
  !(f == u.length) && dOnly u f u.length
/-- 'isJSONNumber', by places: e: where the exponent begins, f: where the mantissa's digits begin, d: the dot -/
def J (u : List Int) (e f d : Nat) : Bool :=
  (!(d == f) && dOnly u f d) && !(decide (1 < d - f) && uby u f == 48) && (if d < e then !(d + 1 == e) && dOnly u (d + 1) e else true) && (if e < u.length then pE u (e + 1) else true)

theorem full (u : List Int) : u.take u.length = u := List.take_of_length_le (Nat.le_refl _)

theorem neD_seg (u : List Int) (a b : Nat) (h : a ≤ b) (hb : b ≤ u.length) : neD ((u.take b).drop a) = (!(a == b) && dOnly u a b) := by
  unfold neD
  rw [dOnly_eq u b hb _ a rfl]
  congr 1
  by_cases hab : a = b
  · subst hab; rw [seg_nil u a a (Nat.le_refl _)]; simp
  · rw [seg_cons u a b (by omega) hb]; simp [hab]

theorem pE_eq (u : List Int) (s : Nat) (h : s ≤ u.length) : expo (u.drop s) = pE u s := by
  have hd : ∀ k, u.drop k = (u.take u.length).drop k := fun k => by rw [full]
  unfold pE
  by_cases hs : s < u.length
  · have e := seg_cons u s u.length hs (Nat.le_refl _)
    have n1 := neD_seg u (s + 1) u.length (by omega) (Nat.le_refl _)
    have n0 := neD_seg u s u.length (by omega) (Nat.le_refl _)
    rw [full] at e n1 n0
    rw [e]
    by_cases hS : isS (uby u s) = true
    · simp only [expo, hS, if_true, hs, n1]
      simp
    · have hS' : isS (uby u s) = false := by simpa using hS
      rw [e] at n0
      simp only [expo, hS', n0]
      simp
  · have : s = u.length := by omega
    subst this
    rw [List.drop_length]
    simp [expo]

theorem isJ_eq (u : List Int) (e f d : Nat) (he : eAt u = e) (hf : f = if e > 0 && uby u 0 == 45 then 1 else 0) (hd : f + dAt ((u.take e).drop f) = d) :
    isJ u = J u e f d := by
  have hle : e ≤ u.length := by rw [← he]; exact eAt_le u
  -- the mantissa behind its sign
  have key : isJ u = (partI ((u.take e).drop f) && partF ((u.take e).drop f) && (if e < u.length then expo (u.drop (e + 1)) else true)) := by
    unfold isJ
    by_cases hc : (decide (e > 0) && uby u 0 == 45) = true
    · rw [hc] at hf
      have hf1 : f = 1 := by simpa using hf
      have hpos : 0 < e := by have := (Bool.and_eq_true_iff.1 hc).1; simpa using this
      rw [he, show u.getD 0 48 = uby u 0 from rfl, hc, hf1]
      simp only [if_true]
      -- behind the sign the exponent lies one place nearer
      cases u with
      | nil => simp at hle; omega
      | cons c r =>
        have hcm : c = 45 := by
          have := (Bool.and_eq_true_iff.1 hc).2
          simpa [uby] using this
        have hE : isE c = false := by rw [hcm]; decide
        have he' : eAt r + 1 = e := by rw [← he, eAt_cons, hE]; rfl
        unfold body
        simp only [List.drop_one, List.tail_cons]
        have t : ((c :: r).take e).tail = r.take (eAt r) := by rw [← he']; rfl
        rw [t]
        unfold partE
        have : (if eAt r < r.length then expo (r.drop (eAt r + 1)) else true) = (if e < (c :: r).length then expo ((c :: r).drop (e + 1)) else true) := by
          rw [← he']
          simp
        rw [this]
    · have hc' : (decide (e > 0) && uby u 0 == 45) = false := by simpa using hc
      rw [hc'] at hf
      have hf0 : f = 0 := by simpa using hf
      rw [he, show u.getD 0 48 = uby u 0 from rfl, hc', hf0]
      simp only [Bool.false_eq_true, if_false, List.drop_zero]
      unfold body partE
      rw [he]
  rw [key]
  have hfe : f ≤ e := by
    rw [hf]
    by_cases hc : (decide (e > 0) && uby u 0 == 45) = true
    · rw [hc]; have := (Bool.and_eq_true_iff.1 hc).1; simp at this; simp; omega
    · have hc' : (decide (e > 0) && uby u 0 == 45) = false := by simpa using hc
      rw [hc']; simp
  have hml : ((u.take e).drop f).length = e - f := by rw [List.length_drop, List.length_take]; omega
  have hdl := dAt_le ((u.take e).drop f)
  rw [hml] at hdl
  have hde : d ≤ e := by omega
  unfold J
  have p3 : (if e < u.length then expo (u.drop (e + 1)) else true) = (if e < u.length then pE u (e + 1) else true) := by
    by_cases h : e < u.length
    · simp only [h, if_true]; exact pE_eq u (e + 1) (by omega)
    · simp only [h, if_false]
  rw [p3]
  have p2 : partF ((u.take e).drop f) = (if d < e then !(d + 1 == e) && dOnly u (d + 1) e else true) := by
    unfold partF
    rw [hml]
    by_cases h : d < e
    · rw [if_pos h, if_pos (by omega), List.drop_drop, show f + (dAt ((u.take e).drop f) + 1) = d + 1 by omega]
      exact neD_seg u (d + 1) e (by omega) hle
    · rw [if_neg h, if_neg (by omega)]
  rw [p2]
  have p1 : partI ((u.take e).drop f) = ((!(d == f) && dOnly u f d) && !(decide (1 < d - f) && uby u f == 48)) := by
    unfold partI
    have a1 : (dAt ((u.take e).drop f) == 0) = (d == f) := by
      rw [Bool.eq_iff_iff]; simp; omega
    have a2 : allD (((u.take e).drop f).take (dAt ((u.take e).drop f))) = dOnly u f d := by
      rw [dOnly_eq u d (by omega) _ f rfl]
      congr 1
      rw [show dAt ((u.take e).drop f) = d - f by omega, List.drop_take, List.take_take, List.drop_take]
      congr 1
      omega
    have a3 : decide (1 < dAt ((u.take e).drop f)) = decide (1 < d - f) := by
      rw [show dAt ((u.take e).drop f) = d - f by omega]
    rw [a1, a2, a3]
    by_cases h1 : 1 < d - f
    · have a4 : ((u.take e).drop f).getD 0 48 = uby u f := by
        rw [seg_cons u f e (by omega) hle]; rfl
      rw [a4]
    · simp [h1]
  rw [p1]

end Go.Proofs.Qxb6617848a.Num
