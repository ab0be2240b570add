/-
  PLAIN LAWS: the offsets at which lines begin; how many of them are at most o. By an AI agent.
-/
namespace Go.Proofs.Qxb6616684aFmt.Ln

/-- does a line begin at offset k? -/
def start (l : List Int) (k : Nat) : Bool := k == 0 || l.getD (k - 1) 0 == 10
/-- the offsets below k at which lines begin -/
def linesTo (l : List Int) : Nat → List Int
  | 0 => []
  | k + 1 => if start l k then linesTo l k ++ [(k : Int)] else linesTo l k
theorem linesTo_yes {l : List Int} {k : Nat} (h : start l k = true) : linesTo l (k + 1) = linesTo l k ++ [(k : Int)] := by rw [linesTo, if_pos h]
theorem linesTo_no {l : List Int} {k : Nat} (h : start l k = false) : linesTo l (k + 1) = linesTo l k := by rw [linesTo, if_neg (by rw [h]; decide)]
theorem linesTo_le (l : List Int) : ∀ k, (linesTo l k).length ≤ k
  | 0 => Nat.le_refl _
  | k + 1 => by
    have := linesTo_le l k
    unfold linesTo
    split
    · simp; omega
    · omega
theorem linesTo_mem (l : List Int) : ∀ (k : Nat) (x : Int), x ∈ linesTo l k → 0 ≤ x ∧ x < k
  | 0, x, h => by simp [linesTo] at h
  | k + 1, x, h => by
    have ih := linesTo_mem l k x
    unfold linesTo at h
    split at h
    · rcases List.mem_append.1 h with h1 | h1
      · have := ih h1; omega
      · simp at h1; subst h1; omega
    · have := ih h; omega

def zat (zs : List Int) (i : Nat) : Int := zs.getD i 0
theorem zat_mem {zs : List Int} {i : Nat} (h : i < zs.length) : zat zs i ∈ zs := by
  have : zat zs i = zs[i] := by simp [zat, List.getD, h]
  rw [this]; exact List.getElem_mem h
theorem zat_left {a b : List Int} {i : Nat} (h : i < a.length) : zat (a ++ b) i = zat a i := by
  simp [zat, List.getD, List.getElem?_append_left h]
theorem zat_right {a b : List Int} {i : Nat} (h : a.length ≤ i) : zat (a ++ b) i = zat b (i - a.length) := by
  simp [zat, List.getD, List.getElem?_append_right h]

theorem rising (l : List Int) : ∀ (m : Nat) (p q : Nat), p < q → q < (linesTo l m).length → zat (linesTo l m) p < zat (linesTo l m) q
  | 0, p, q, _, h => by simp [linesTo] at h
  | m + 1, p, q, hpq, hq => by
    have ih := rising l m p q hpq
    cases hs : start l m with
    | false => rw [linesTo_no hs] at hq ⊢; exact ih hq
    | true =>
      rw [linesTo_yes hs] at hq ⊢
      rw [List.length_append] at hq
      simp at hq
      by_cases h1 : q < (linesTo l m).length
      · rw [zat_left h1, zat_left (by omega)]; exact ih h1
      · have hq2 : q = (linesTo l m).length := by omega
        rw [zat_left (by omega), zat_right (by omega), hq2, Nat.sub_self]
        have := (linesTo_mem l m _ (zat_mem (show p < (linesTo l m).length by omega))).2
        simpa [zat] using this

/-- what comes behind the first m offsets is at least m -/
theorem tail_ge (l : List Int) (m : Nat) : ∀ (d : Nat), ∃ t, linesTo l (m + d) = linesTo l m ++ t ∧ ∀ x ∈ t, (m : Int) ≤ x
  | 0 => ⟨[], by simp, by simp⟩
  | d + 1 => by
    obtain ⟨t, h1, h2⟩ := tail_ge l m d
    cases hs : start l (m + d) with
    | false => exact ⟨t, by rw [← Nat.add_assoc, linesTo_no hs, h1], h2⟩
    | true =>
      refine ⟨t ++ [((m + d : Nat) : Int)], by rw [← Nat.add_assoc, linesTo_yes hs, h1]; simp, fun x hx => ?_⟩
      rcases List.mem_append.1 hx with h | h
      · exact h2 x h
      · simp at h; subst h; omega

def Upto (zs : List Int) (x : Int) (i : Nat) : Prop := i ≤ zs.length ∧ (∀ k, k < i → zat zs k ≤ x) ∧ ∀ k, i ≤ k → k < zs.length → x < zat zs k
theorem upto_unique {zs : List Int} {x : Int} {i j : Nat} (h : Upto zs x i) (h' : Upto zs x j) : i = j := by
  rcases Nat.lt_trichotomy i j with e | e | e
  · have a := h.2.2 i (Nat.le_refl _) (by have := h'.1; omega)
    have b := h'.2.1 i e
    omega
  · exact e
  · have a := h'.2.2 j (Nat.le_refl _) (by have := h.1; omega)
    have b := h.2.1 j e
    omega

/-- the line of offset o in a file of n bytes -/
def lineOf (l : List Int) (o : Nat) : Nat := (linesTo l (min l.length (o + 1))).length

theorem upto_lineOf (l : List Int) (o : Nat) : Upto (linesTo l l.length) o (lineOf l o) := by
  obtain ⟨t, h1, h2⟩ := tail_ge l (min l.length (o + 1)) (l.length - min l.length (o + 1))
  rw [show min l.length (o + 1) + (l.length - min l.length (o + 1)) = l.length by omega] at h1
  have hle := linesTo_le l (min l.length (o + 1))
  refine ⟨by rw [h1, List.length_append]; unfold lineOf; omega, fun k hk => ?_, fun k hk1 hk2 => ?_⟩
  · unfold lineOf at hk
    rw [h1, zat_left hk]
    have := (linesTo_mem l _ _ (zat_mem hk)).2
    omega
  · unfold lineOf at hk1
    rw [h1, List.length_append] at hk2
    rw [h1, zat_right hk1]
    have hm := h2 _ (zat_mem (zs := t) (i := k - (linesTo l (min l.length (o + 1))).length) (by omega))
    have : ¬ l.length ≤ o + 1 := by
      intro hc
      have h3 : min l.length (o + 1) = l.length := by omega
      have h4 : (linesTo l l.length).length = (linesTo l l.length).length + t.length := by
        rw [h3] at h1
        have := congrArg List.length h1
        rw [List.length_append] at this
        exact this
      omega
    omega
theorem line_is {l : List Int} {o i : Nat} (h : Upto (linesTo l l.length) o i) : i = lineOf l o := upto_unique h (upto_lineOf l o)

end Go.Proofs.Qxb6616684aFmt.Ln
