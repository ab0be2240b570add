/-
  PLAIN LAWS for 'FnNewNameSetOfJoinedListsIsUnion': how many different keys a list has; the order of strings; insertion sort by neighbours; counting runs. By an AI agent.
-/
import GoSem.Op.String
namespace Go.Proofs.Qxb6617892a.St

/-! ### how many different ones -/
theorem len_le_of_subset : ∀ (l l' : List (List UInt8)), l.Nodup → (∀ x ∈ l, x ∈ l') → l.length ≤ l'.length
  | [], _, _, _ => Nat.zero_le _
  | x :: r, l', hn, hs => by
    have hx := hs x (by simp)
    have hn' := List.nodup_cons.1 hn
    have ih := len_le_of_subset r (l'.erase x) hn'.2 (fun y hy => by
      have hne : y ≠ x := fun e => hn'.1 (e ▸ hy)
      exact (List.mem_erase_of_ne hne).2 (hs y (by simp [hy])))
    rw [List.length_erase_of_mem hx] at ih
    have := List.length_pos_of_mem hx
    simp; omega

def addL (acc : List (List UInt8)) (x : List UInt8) : List (List UInt8) := if acc.contains x then acc else acc ++ [x]
def ded (K : List (List UInt8)) : List (List UInt8) := K.foldl addL []
def card (K : List (List UInt8)) : Nat := (ded K).length

theorem fold_mem : ∀ (K acc : List (List UInt8)) (x : List UInt8), x ∈ K.foldl addL acc ↔ x ∈ acc ∨ x ∈ K
  | [], acc, x => by simp
  | y :: r, acc, x => by
    rw [List.foldl_cons, fold_mem r]
    unfold addL
    by_cases h : acc.contains y = true
    · have hy : y ∈ acc := by simpa using h
      rw [if_pos h]
      constructor
      · rintro (h1 | h1)
        · exact .inl h1
        · exact .inr (by simp [h1])
      · rintro (h1 | h1)
        · exact .inl h1
        · rcases List.mem_cons.1 h1 with rfl | h2
          · exact .inl hy
          · exact .inr h2
    · rw [if_neg h]
      simp [or_assoc]
theorem fold_nodup : ∀ (K acc : List (List UInt8)), acc.Nodup → (K.foldl addL acc).Nodup
  | [], acc, h => h
  | y :: r, acc, h => by
    rw [List.foldl_cons]
    refine fold_nodup r _ ?_
    unfold addL
    by_cases hc : acc.contains y = true
    · rw [if_pos hc]; exact h
    · rw [if_neg hc]
      have hy : ¬ y ∈ acc := by simpa using hc
      rw [List.nodup_append]
      exact ⟨h, by simp, fun a ha b hb => by simp at hb; subst hb; exact fun e => hy (e ▸ ha)⟩
theorem ded_mem (K : List (List UInt8)) (x : List UInt8) : x ∈ ded K ↔ x ∈ K := by unfold ded; rw [fold_mem]; simp
theorem ded_nodup (K : List (List UInt8)) : (ded K).Nodup := fold_nodup K [] List.nodup_nil

theorem card_le {K K' : List (List UInt8)} (h : ∀ x ∈ K, x ∈ K') : card K ≤ card K' :=
  len_le_of_subset _ _ (ded_nodup K) fun x hx => (ded_mem K' x).2 (h x ((ded_mem K x).1 hx))
theorem card_append_le (A B : List (List UInt8)) : card (A ++ B) ≤ card A + card B := by
  have := len_le_of_subset (ded (A ++ B)) (ded A ++ ded B) (ded_nodup _) (fun x hx => by
    have := (ded_mem _ x).1 hx
    rcases List.mem_append.1 this with h | h
    · exact List.mem_append.2 (.inl ((ded_mem A x).2 h))
    · exact List.mem_append.2 (.inr ((ded_mem B x).2 h)))
  simpa [card] using this
theorem card_eq {L K : List (List UInt8)} (hn : L.Nodup) (h : ∀ x, x ∈ L ↔ x ∈ K) : L.length = card K :=
  Nat.le_antisymm (len_le_of_subset _ _ hn fun x hx => (ded_mem K x).2 ((h x).1 hx))
    (len_le_of_subset _ _ (ded_nodup K) fun x hx => (h x).2 ((ded_mem K x).1 hx))

/-! ### the order of strings -/
def lt (a b : List UInt8) : Bool := Op.bytesLess a b
theorem lt_nil_right (a : List UInt8) : lt a [] = false := by cases a <;> rfl
theorem lt_nil_cons (b : UInt8) (y : List UInt8) : lt [] (b :: y) = true := rfl
theorem lt_cons (a b : UInt8) (x y : List UInt8) : lt (a :: x) (b :: y) = true ↔ a.toNat < b.toNat ∨ (a = b ∧ lt x y = true) := by
  show (decide (a < b) || (a == b && lt x y)) = true ↔ _
  simp [UInt8.lt_iff_toNat_lt]
theorem lt_irrefl : ∀ a : List UInt8, lt a a = false
  | [] => rfl
  | a :: x => by
    rw [← Bool.not_eq_true, lt_cons]
    rintro (h | ⟨_, h⟩)
    · omega
    · rw [lt_irrefl x] at h; cases h
theorem lt_asymm : ∀ a b : List UInt8, lt a b = true → lt b a = false
  | _, [], h => by rw [lt_nil_right] at h; cases h
  | [], _ :: _, _ => lt_nil_right _
  | a :: x, b :: y, h => by
    rw [← Bool.not_eq_true, lt_cons]
    rw [lt_cons] at h
    rintro (h2 | ⟨e, h2⟩)
    · rcases h with h | ⟨e, h⟩
      · omega
      · subst e; omega
    · rcases h with h | ⟨_, h⟩
      · subst e; omega
      · rw [lt_asymm x y h] at h2; cases h2
theorem lt_antisymm : ∀ a b : List UInt8, lt a b = false → lt b a = false → a = b
  | [], [], _, _ => rfl
  | [], _ :: _, h, _ => by rw [lt_nil_cons] at h; cases h
  | _ :: _, [], _, h => by rw [lt_nil_cons] at h; cases h
  | a :: x, b :: y, h1, h2 => by
    rw [← Bool.not_eq_true, lt_cons] at h1 h2
    have hab : a = b := by
      apply UInt8.toNat_inj.1
      rcases Nat.lt_trichotomy a.toNat b.toNat with h | h | h
      · exact absurd (.inl h) h1
      · exact h
      · exact absurd (.inl h) h2
    subst hab
    have := lt_antisymm x y (by rw [← Bool.not_eq_true]; exact fun h => h1 (.inr ⟨rfl, h⟩)) (by rw [← Bool.not_eq_true]; exact fun h => h2 (.inr ⟨rfl, h⟩))
    rw [this]
theorem lt_trans : ∀ a b c : List UInt8, lt a b = true → lt b c = true → lt a c = true
  | _, [], _, h, _ => by rw [lt_nil_right] at h; cases h
  | _, _ :: _, [], _, h => by rw [lt_nil_right] at h; cases h
  | [], _ :: _, _ :: _, _, _ => rfl
  | a :: x, b :: y, c :: z, h1, h2 => by
    rw [lt_cons] at h1 h2 ⊢
    rcases h1 with h1 | ⟨rfl, h1⟩
    · rcases h2 with h2 | ⟨rfl, h2⟩
      · left; omega
      · left; exact h1
    · rcases h2 with h2 | ⟨rfl, h2⟩
      · left; exact h2
      · right; exact ⟨rfl, lt_trans x y z h1 h2⟩
/-- a ≤ b, b ≤ c: a ≤ c -/
theorem le_trans {a b c : List UInt8} (h1 : lt b a = false) (h2 : lt c b = false) : lt c a = false := by
  rw [← Bool.not_eq_true]
  intro h
  by_cases e : a = b
  · subst e; rw [h] at h2; cases h2
  · have hab : lt a b = true := by
      cases hh : lt a b with
      | true => rfl
      | false => exact absurd (lt_antisymm a b hh h1) e
    have := lt_trans c a b h hab
    rw [this] at h2; cases h2

/-! ### insertion sort by neighbours -/
def g (ys : List (List UInt8)) (i : Nat) : List UInt8 := ys.getD i []
theorem g_set (ys : List (List UInt8)) (i : Nat) (v : List UInt8) (k : Nat) (hi : i < ys.length) : g (ys.set i v) k = if k = i then v else g ys k := by
  unfold g
  by_cases h : k = i
  · subst h; simp [List.getD, hi]
  · rw [if_neg h]
    simp [List.getD, Ne.symm h]
theorem mem_g (ys : List (List UInt8)) (x : List UInt8) : x ∈ ys ↔ ∃ i, i < ys.length ∧ g ys i = x := by
  constructor
  · intro h
    obtain ⟨i, hi, e⟩ := List.mem_iff_getElem.1 h
    exact ⟨i, hi, by simp [g, List.getD, hi, e]⟩
  · rintro ⟨i, hi, e⟩
    subst e
    have : g ys i = ys[i] := by simp [g, List.getD, hi]
    rw [this]; exact List.getElem_mem hi

def Srt (ys : List (List UInt8)) (i : Nat) : Prop := ∀ p q, p < q → q < i → lt (g ys q) (g ys p) = false
def Inv (ys : List (List UInt8)) (i j : Nat) : Prop :=
  j ≤ i ∧ (∀ p q, p < q → q ≤ i → p ≠ j → q ≠ j → lt (g ys q) (g ys p) = false) ∧ (∀ q, j < q → q ≤ i → lt (g ys q) (g ys j) = false)

theorem inv_start {ys : List (List UInt8)} {i : Nat} (h : Srt ys i) : Inv ys i i :=
  ⟨Nat.le_refl _, fun p q hpq hq _ hqi => h p q hpq (by omega), fun q h1 h2 => by omega⟩

/-- neighbours changed: ys[j], ys[j-1] -/
def swp (ys : List (List UInt8)) (j : Nat) : List (List UInt8) := (ys.set j (g ys (j - 1))).set (j - 1) (g ys j)
theorem swp_length (ys : List (List UInt8)) (j : Nat) : (swp ys j).length = ys.length := by simp [swp]
theorem swp_g (ys : List (List UInt8)) (j k : Nat) (h0 : 0 < j) (hj : j < ys.length) : g (swp ys j) k = if k = j - 1 then g ys j else if k = j then g ys (j - 1) else g ys k := by
  unfold swp
  rw [g_set _ _ _ _ (by simp; omega), g_set _ _ _ _ hj]
theorem swp_mem (ys : List (List UInt8)) (j : Nat) (h0 : 0 < j) (hj : j < ys.length) (x : List UInt8) : x ∈ swp ys j ↔ x ∈ ys := by
  rw [mem_g, mem_g, swp_length]
  constructor
  · rintro ⟨i, hi, e⟩
    rw [swp_g ys j i h0 hj] at e
    split at e
    · exact ⟨j, hj, e⟩
    · split at e
      · exact ⟨j - 1, by omega, e⟩
      · exact ⟨i, hi, e⟩
  · rintro ⟨i, hi, e⟩
    by_cases h1 : i = j
    · exact ⟨j - 1, by omega, by rw [swp_g ys j _ h0 hj, if_pos rfl, ← h1]; exact e⟩
    · by_cases h2 : i = j - 1
      · exact ⟨j, hj, by rw [swp_g ys j _ h0 hj, if_neg (by omega), if_pos rfl, ← h2]; exact e⟩
      · exact ⟨i, hi, by rw [swp_g ys j _ h0 hj, if_neg h2, if_neg h1]; exact e⟩

theorem inv_step {ys : List (List UInt8)} {i j : Nat} (h : Inv ys i j) (h0 : 0 < j) (hi : i < ys.length) (hlt : lt (g ys j) (g ys (j - 1)) = true) : Inv (swp ys j) i (j - 1) := by
  obtain ⟨hj, h1, h2⟩ := h
  have hjl : j < ys.length := by omega
  refine ⟨by omega, fun p q hpq hq hp hqn => ?_, fun q hq1 hq2 => ?_⟩
  · rw [swp_g ys j q h0 hjl, swp_g ys j p h0 hjl, if_neg hqn, if_neg hp]
    by_cases hqj : q = j
    · rw [if_pos hqj, if_neg (by omega)]
      exact h1 p (j - 1) (by omega) (by omega) (by omega) (by omega)
    · rw [if_neg hqj]
      by_cases hpj : p = j
      · rw [if_pos hpj]
        exact h1 (j - 1) q (by omega) hq (by omega) hqj
      · rw [if_neg hpj]
        exact h1 p q hpq hq hpj hqj
  · rw [swp_g ys j q h0 hjl, swp_g ys j (j - 1) h0 hjl, if_neg (by omega), if_pos rfl]
    by_cases hqj : q = j
    · rw [if_pos hqj]
      exact lt_asymm _ _ hlt
    · rw [if_neg hqj]
      exact h2 q (by omega) hq2

theorem inv_end {ys : List (List UInt8)} {i j : Nat} (h : Inv ys i j) (he : j = 0 ∨ lt (g ys j) (g ys (j - 1)) = false) : Srt ys (i + 1) := by
  obtain ⟨hj, h1, h2⟩ := h
  intro p q hpq hq
  by_cases hp : p = j
  · subst hp; exact h2 q hpq (by omega)
  · by_cases hqj : q = j
    · subst hqj
      rcases he with he | he
      · omega
      · by_cases hp1 : p = q - 1
        · rw [hp1]; exact he
        · exact le_trans (h1 p (q - 1) (by omega) (by omega) hp (by omega)) he
    · exact h1 p q hpq (by omega) hp hqj

/-! ### the runs of a sorted list -/
def reps (ys : List (List UInt8)) : Nat → List (List UInt8)
  | 0 => []
  | k + 1 => if k = 0 ∨ g ys k ≠ g ys (k - 1) then reps ys k ++ [g ys k] else reps ys k

theorem reps_mem (ys : List (List UInt8)) : ∀ (k : Nat) (x : List UInt8), x ∈ reps ys k ↔ ∃ i, i < k ∧ g ys i = x
  | 0, x => by simp [reps]
  | k + 1, x => by
    have ih := reps_mem ys k
    unfold reps
    by_cases h : k = 0 ∨ g ys k ≠ g ys (k - 1)
    · rw [if_pos h, List.mem_append, ih]
      constructor
      · rintro (⟨i, hi, e⟩ | h1)
        · exact ⟨i, by omega, e⟩
        · exact ⟨k, by omega, (List.mem_singleton.1 h1).symm⟩
      · rintro ⟨i, hi, e⟩
        by_cases hk : i = k
        · right; subst hk; simp [e]
        · left; exact ⟨i, by omega, e⟩
    · rw [if_neg h, ih]
      have hk0 : k ≠ 0 := fun e => h (.inl e)
      have heq : g ys k = g ys (k - 1) := Classical.byContradiction fun e => h (.inr e)
      constructor
      · rintro ⟨i, hi, e⟩; exact ⟨i, by omega, e⟩
      · rintro ⟨i, hi, e⟩
        by_cases hk : i = k
        · exact ⟨k - 1, by omega, by rw [← heq, ← hk]; exact e⟩
        · exact ⟨i, by omega, e⟩

theorem reps_nodup (ys : List (List UInt8)) (n : Nat) (hs : Srt ys n) : ∀ k, k ≤ n → (reps ys k).Nodup
  | 0, _ => List.nodup_nil
  | k + 1, hk => by
    have ih := reps_nodup ys n hs k (by omega)
    unfold reps
    by_cases h : k = 0 ∨ g ys k ≠ g ys (k - 1)
    · rw [if_pos h, List.nodup_append]
      refine ⟨ih, by simp, fun a ha b hb => ?_⟩
      simp at hb
      subst hb
      intro e
      subst e
      obtain ⟨i, hi, e⟩ := (reps_mem ys k _).1 ha
      rcases h with h | h
      · omega
      · apply h
        by_cases h1 : i = k - 1
        · rw [← h1]; exact e.symm
        · refine lt_antisymm _ _ (hs (k - 1) k (by omega) (by omega)) ?_
          have := hs i (k - 1) (by omega) (by omega)
          rw [e] at this
          exact this
    · rw [if_neg h]; exact ih

theorem reps_card (ys K : List (List UInt8)) (hs : Srt ys ys.length) (hm : ∀ x, x ∈ ys ↔ x ∈ K) : (reps ys ys.length).length = card K := by
  refine card_eq (reps_nodup ys _ hs _ (Nat.le_refl _)) fun x => ?_
  rw [reps_mem, ← hm, mem_g]
theorem reps_le (ys : List (List UInt8)) : ∀ k, (reps ys k).length ≤ k
  | 0 => Nat.le_refl _
  | k + 1 => by
    have := reps_le ys k
    unfold reps
    split
    · simp; omega
    · omega
theorem reps_hit {ys : List (List UInt8)} {k : Nat} (h : k = 0 ∨ g ys k ≠ g ys (k - 1)) : (reps ys (k + 1)).length = (reps ys k).length + 1 := by
  rw [reps, if_pos h]; simp
theorem reps_miss {ys : List (List UInt8)} {k : Nat} (h0 : k ≠ 0) (h : g ys k = g ys (k - 1)) : (reps ys (k + 1)).length = (reps ys k).length := by
  rw [reps, if_neg (by rintro (e | e); exact h0 e; exact e h)]

end Go.Proofs.Qxb6617892a.St
