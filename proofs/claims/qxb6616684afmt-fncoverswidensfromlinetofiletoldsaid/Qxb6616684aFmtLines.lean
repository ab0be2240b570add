/-
  THE WALKS of 'searchInts', 'unpack', 'position' .. 'Line', 'Pos'. By an AI agent.
-/
import Derived.Test.Qxb6616684aFmtBase
namespace Go.Proofs.Qxb6616684aFmt
open Go.RowKit
set_option linter.unusedVariables false

/-- the number at place i (a name that the walk does not open) -/
def zat (zs : List Int) (i : Nat) : Int := zs.getD i 0
/-- The slice that begins at 'a' reads, in w, as the numbers zs. -/
def RdI (w : World) (a : Option Addr) (zs : List Int) : Prop :=
  ∀ i, i < zs.length → ∃ b off, a = some ⟨b, off, none⟩ ∧ w.cell? ⟨b, off + i, none⟩ = some (.int .i64 (zat zs i))
def Rising (zs : List Int) : Prop := ∀ p q, p < q → q < zs.length → zat zs p < zat zs q
/-- i of the numbers are at most x: the first i -/
def Upto (zs : List Int) (x : Int) (i : Nat) : Prop := i ≤ zs.length ∧ (∀ k, k < i → zat zs k ≤ x) ∧ ∀ k, i ≤ k → k < zs.length → x < zat zs k

set_option maxRecDepth 100000 in
set_option maxHeartbeats 1000000 in
theorem searchInts_any (a : Option Addr) (n cap : Nat) (zs : List Int) (x : Int) (w : World) (hr : RdI w a zs) (hn : n = zs.length) (hl : n ≤ 1048577) (hs : Rising zs) :
    Calls Tryf.prog 90 #[.slice a n cap, .int .i64 x] w fun e w' => ∃ i : Nat, e = .returned (.int .i64 ((i : Int) - 1)) ∧ Upto zs x i ∧ w = w' := by
  have HR : Hid (RdI w a zs ∧ n = zs.length) := ⟨hr, hn⟩
  have HS : Hid (Rising zs) := hs
  clear hr hn hs
  go_enter Tryf.func90, Tryf.ntmps90
  go_wp2_with fail
  go_loop [5, 6] (fun v5 v6 => ∃ i j : Nat, i ≤ j ∧ j ≤ n ∧ v5 = .int .i64 i ∧ v6 = .int .i64 j ∧ Hid ((∀ k, k < i → zat zs k ≤ x) ∧ ∀ k, j ≤ k → k < zs.length → x < zat zs k)) (fun v5 v6 => (intOf v6 - intOf v5).toNat)
  case atStart => exact ⟨0, n, Nat.zero_le _, Nat.le_refl _, rfl, rfl, fun k hk => by omega, fun k h1 h2 => by have := HR.out.2; omega⟩
  case round =>
    obtain ⟨i, j, hij, hjn, rfl, rfl, hI⟩ := hrel
    by_cases hlt : i < j
    · have hhl : (i + j) / 2 < zs.length := by have := HR.out.2; omega
      obtain ⟨b, off, rfl, hc⟩ := HR.out.1 ((i + j) / 2) hhl
      by_cases hx : zat zs ((i + j) / 2) ≤ x
      · have hI2 : Hid ((∀ k, k < (i + j) / 2 + 1 → zat zs k ≤ x) ∧ ∀ k, j ≤ k → k < zs.length → x < zat zs k) := ⟨fun k hk => by
          by_cases e : k = (i + j) / 2
          · rw [e]; exact hx
          · have := HS.out k ((i + j) / 2) (by omega) hhl; omega, hI.out.2⟩
        clear hI
        go_wp2
        go_round
        case rel => exact ⟨(i + j) / 2 + 1, j, by omega, hjn, by go_num, rfl, hI2⟩
        case measure => simp [intOf]; omega
      · have hI2 : Hid ((∀ k, k < i → zat zs k ≤ x) ∧ ∀ k, (i + j) / 2 ≤ k → k < zs.length → x < zat zs k) := ⟨hI.out.1, fun k h1 h2 => by
          by_cases e : k = (i + j) / 2
          · rw [e]; omega
          · have := HS.out ((i + j) / 2) k (by omega) h2; omega⟩
        clear hI
        go_wp2
        go_round
        case rel => exact ⟨i, (i + j) / 2, by omega, by omega, rfl, by go_num, hI2⟩
        case measure => simp [intOf]; omega
    · have hU : Hid (Upto zs x i) := ⟨by have := HR.out.2; omega, hI.out.1, fun k h1 h2 => hI.out.2 k (by omega) h2⟩
      clear hI
      go_wp2
      go_ret
      exact ⟨i, rfl, hU.out, rfl⟩

theorem rdI_kept {S : List Nat} {w w' : World} {a : Option Addr} {zs : List Int} (h : RdI w a zs) (hk : Kept S w w') (hn : ∀ b off, a = some ⟨b, off, none⟩ → ¬ b ∈ S) : RdI w' a zs := by
  intro i hi
  obtain ⟨b, off, e, hc⟩ := h i hi
  refine ⟨b, off, e, ?_⟩
  have hlt : b < w.heap.size := by
    unfold World.cell? at hc
    split at hc
    · rename_i c e f hb; exact (Array.getElem?_eq_some_iff.1 hb).1
    · cases hc
  rw [World.cell?_of_block (w := w) (a := ⟨b, off + i, none⟩) (hk.block b hlt (hn b off e))]
  exact hc

/-- the lines' slice lies in a block that is not f -/
def Apart (a : Option Addr) (f : Nat) : Prop := ∀ b off, a = some ⟨b, off, none⟩ → b ≠ f

set_option maxRecDepth 100000 in
set_option maxHeartbeats 1000000 in
theorem unpack_any (f : Nat) (nm : ByteArray) (base size x : Int) (a : Option Addr) (n cap : Nat) (zs : List Int) (w : World) (hf : w.heap[f]? = some (fileB nm base size (.slice a n cap)))
    (hr : RdI w a zs) (hn : n = zs.length) (hl : n ≤ 1048577) (hs : Rising zs) (hap : Apart a f) (hx0 : 0 ≤ x) (hx1 : x ≤ 1048576) (hz : ∀ k, 0 ≤ zat zs k ∧ zat zs k ≤ 1048576) :
    Calls Tryf.prog 88 #[.pointer (some ⟨f, 0, none⟩), .int .i64 x, .bool true] w fun e w' => ∃ (i : Nat) (c : Int), e = .returned (.tuple #[.string nm, .int .i64 i, .int .i64 c]) ∧ Upto zs x i ∧ w'.heap[f]? = some (fileB nm base size (.slice a n cap)) ∧ Kept [f] w w' := by
  have HF := fileB_cells hf
  have HR : Hid (RdI w a zs ∧ n = zs.length ∧ Rising zs ∧ Apart a f) := ⟨hr, hn, hs, hap⟩
  have HFh : Hid (w.heap[f]? = some (fileB nm base size (.slice a n cap))) := hf
  have HZ : Hid (∀ k, 0 ≤ zat zs k ∧ zat zs k ≤ 1048576) := hz
  clear hr hn hs hap hf hz
  obtain ⟨c0, c1, c2, c3, c5, c6, z1, z3, z5⟩ := HF
  go_enter Tryf.func88, Tryf.ntmps88
  go_wp2_with fail
  refine (MuLone.lock_free Tryf.muLib ⟨f, 3, none⟩ _ c3 z3).mono ?_
  rintro e w1 ⟨rfl, hw1⟩
  have HL : Hid (w1.heap[f]? = some (fileL nm base size (.slice a n cap))) := by
    show _ = _; rw [hw1]; exact set_at HFh.out rfl
  have HK : Hid (Kept [f] w w1) := by
    show Kept _ _ _; rw [hw1]; exact (Kept.refl _ _).setCell (.inl (by simp)) _
  have HR1 : Hid (RdI w1 a zs) := rdI_kept HR.out.1 HK.out (fun b off e => by simpa using HR.out.2.2.2 b off e)
  clear hw1 c0 c1 c2 c3 c5 c6 z1 z3 z5
  obtain ⟨c0, c1, c2, c3, c5, c6, z1, z3, z5⟩ := fileL_cells HL.out
  go_wp2_with fail
  refine (searchInts_any a n cap zs x _ HR1.out HR.out.2.1 hl HR.out.2.2.1).mono ?_
  rintro e w' ⟨i, rfl, hU, rfl⟩
  have HU : Hid (Upto zs x i) := hU
  clear hU
  cases i with
  | zero =>
    go_wp2_with fail
    refine (MuLone.unlock_held Tryf.muLib ⟨f, 3, none⟩ _ c3 z3).mono ?_
    rintro e w2 ⟨rfl, hw2⟩
    have HF2 : Hid (w2.heap[f]? = some (fileB nm base size (.slice a n cap))) := by
      show _ = _; rw [hw2]; exact set_at HL.out rfl
    have HK2 : Hid (Kept [f] w w2) := by
      show Kept _ _ _; rw [hw2]; exact HK.out.setCell (.inl (by simp)) _
    clear hw2
    go_wp2_with fail
    go_ret3
    exact ⟨0, 0, rfl, HU.out, HF2.out, HK2.out⟩
  | succ i' =>
    obtain ⟨b, off, rfl, hc⟩ := HR1.out i' (by have := HU.out.1; omega)
    have hzb := HZ.out i'
    have hin : i' < n := by have := HU.out.1; have := HR.out.2.1; omega
    go_wp2_with fail
    go_quiet (fail)
    go_wp2_with fail
    refine (MuLone.unlock_held Tryf.muLib ⟨f, 3, none⟩ _ ?_ ?_).mono ?_
    · exact c3
    · exact z3
    rintro e w2 ⟨rfl, hw2⟩
    have HF2 : Hid (w2.heap[f]? = some (fileB nm base size (.slice (some ⟨b, off, none⟩) n cap))) := by
      show _ = _; rw [hw2]; exact set_at (w := w1.drewN nq) HL.out rfl
    have HK2 : Hid (Kept [f] w w2) := by
      show Kept _ _ _; rw [hw2]; exact (HK.out.drewN nq).setCell (.inl (by simp)) _
    clear hw2
    go_wp2_with fail
    go_ret3
    exact ⟨i' + 1, _, rfl, HU.out, HF2.out, HK2.out⟩

/-- the file at f: its fields, its lines -/
structure FileAt (w : World) (f : Nat) (nm : ByteArray) (base size : Int) (a : Option Addr) (n cap : Nat) (zs : List Int) : Prop where
  heap : w.heap[f]? = some (fileB nm base size (.slice a n cap))
  lines : RdI w a zs
  len : n = zs.length
  bound : n ≤ 1048577
  rising : Rising zs
  apart : Apart a f
  small : ∀ k, 0 ≤ zat zs k ∧ zat zs k ≤ 1048576
  size0 : 0 ≤ size
  size1 : size ≤ 65536
  base1 : 1 ≤ base
  base2 : base ≤ 262144

theorem FileAt.kept {S : List Nat} {w w' : World} {f : Nat} {nm : ByteArray} {base size : Int} {a : Option Addr} {n cap : Nat} {zs : List Int} (h : FileAt w f nm base size a n cap zs) (hk : Kept S w w')
    (hf : w'.heap[f]? = some (fileB nm base size (.slice a n cap))) (hn : ∀ b off, a = some ⟨b, off, none⟩ → ¬ b ∈ S) : FileAt w' f nm base size a n cap zs :=
  { h with heap := hf, lines := rdI_kept h.lines hk hn }

set_option maxRecDepth 100000 in
set_option maxHeartbeats 1000000 in
theorem position_any (f : Nat) (nm : ByteArray) (base size p : Int) (a : Option Addr) (n cap : Nat) (zs : List Int) (w : World) (h : FileAt w f nm base size a n cap zs) (hp0 : base ≤ p) (hp1 : p ≤ base + size) :
    Calls Tryf.prog 82 #[.pointer (some ⟨f, 0, none⟩), .int .i64 p, .bool true] w fun e w' => ∃ (i : Nat) (c : Int), e = .returned (.agg #[.string nm, .int .i64 (p - base), .int .i64 i, .int .i64 c]) ∧ Upto zs (p - base) i ∧ w'.heap[f]? = some (fileB nm base size (.slice a n cap)) ∧ Kept [f] w w' := by
  have HF : Hid (FileAt w f nm base size a n cap zs) := h
  have b1 := h.size0
  have b2 := h.size1
  have b3 := h.base1
  have b4 := h.base2
  have hlt := lt_of_heap h.heap
  obtain ⟨c0, c1, c2, c3, c5, c6, z1, z3, z5⟩ := fileB_cells h.heap
  clear h
  go_enter Tryf.func82, Tryf.ntmps82
  go_wp2_with fail
  refine (fixOffset_any f (p - base) size _ (cell_at (alloc_old _ HF.out.heap) 2) (by omega) (by omega) (by omega)).mono ?_
  rintro e w' ⟨rfl, rfl⟩
  go_wp2_with fail
  have hK0 : Kept [f] w (w.alloc (.cells #[.string ⟨#[]⟩, .int .i64 (p - base), .int .i64 0, .int .i64 0] 110)) := (Kept.refl _ _).alloc _
  have hFA := HF.out.kept hK0 (alloc_old _ HF.out.heap) (fun b off e => by simpa using HF.out.apart b off e)
  refine (unpack_any f nm base size (p - base) a n cap zs _ hFA.heap hFA.lines hFA.len hFA.bound hFA.rising hFA.apart (by omega) (by omega) hFA.small).mono ?_
  rintro e w2 ⟨i, c, rfl, hU, hf2, hk2⟩
  have hN : w2.heap[w.heap.size]? = some (.cells #[.string ⟨#[]⟩, .int .i64 (p - base), .int .i64 0, .int .i64 0] 110 (0, 0)) := hk2.at (alloc_new _ _) (by simp; omega)
  have HX : Hid (Upto zs (p - base) i ∧ w2.heap[f]? = some (fileB nm base size (.slice a n cap)) ∧ Kept [f] w w2) := ⟨hU, hf2, hK0.trans hk2⟩
  have n0 := cell_at hN 0
  have n1 := cell_at hN 1
  have n2 := cell_at hN 2
  have n3 := cell_at hN 3
  have m0 := free_at hN 0
  have m2 := free_at hN 2
  have m3 := free_at hN 3
  have HN : Hid (w2.heap[w.heap.size]? = some (.cells #[.string ⟨#[]⟩, .int .i64 (p - base), .int .i64 0, .int .i64 0] 110 (0, 0))) := hN
  clear hK0 hFA hU hf2 hk2 hN
  simp at n0 n1 n2 n3
  go_wp2_with fail
  exact bodyPost_ret (v := .agg #[.string nm, .int .i64 (p - base), .int .i64 i, .int .i64 c]) (by simp [results, Tryf.results82, go_sem, n0, n1, n2, n3]) rfl
    ⟨i, c, rfl, HX.out.1, set_ne (set_ne (set_ne HX.out.2.1 (by omega)) (by omega)) (by omega), ((HX.out.2.2.setCell (.inr (Nat.le_refl _)) _).setCell (.inr (Nat.le_refl _)) _).setCell (.inr (Nat.le_refl _)) _⟩

set_option maxRecDepth 100000 in
set_option maxHeartbeats 1000000 in
theorem positionFor_any (f : Nat) (nm : ByteArray) (base size p : Int) (a : Option Addr) (n cap : Nat) (zs : List Int) (w : World) (h : FileAt w f nm base size a n cap zs) (hp0 : base ≤ p) (hp1 : p ≤ base + size) :
    Calls Tryf.prog 68 #[.pointer (some ⟨f, 0, none⟩), .int .i64 p, .bool true] w fun e w' => ∃ (i : Nat) (c : Int), e = .returned (.agg #[.string nm, .int .i64 (p - base), .int .i64 i, .int .i64 c]) ∧ Upto zs (p - base) i ∧ w'.heap[f]? = some (fileB nm base size (.slice a n cap)) ∧ Kept [f] w w' := by
  have HF : Hid (FileAt w f nm base size a n cap zs) := h
  have b3 := h.base1
  have hlt := lt_of_heap h.heap
  have hp2 : (p != 0) = true := by simp; omega
  clear h
  go_enter Tryf.func68, Tryf.ntmps68
  go_wp2_with fail
  have hK0 : Kept [f] w (w.alloc (.cells #[.string ⟨#[]⟩, .int .i64 0, .int .i64 0, .int .i64 0] 110)) := (Kept.refl _ _).alloc _
  have hFA := HF.out.kept hK0 (alloc_old _ HF.out.heap) (fun b off e => by simpa using HF.out.apart b off e)
  refine (position_any f nm base size p a n cap zs _ hFA hp0 hp1).mono ?_
  rintro e w2 ⟨i, c, rfl, hU, hf2, hk2⟩
  have hN : w2.heap[w.heap.size]? = some (.cells #[.string ⟨#[]⟩, .int .i64 0, .int .i64 0, .int .i64 0] 110 (0, 0)) := hk2.at (alloc_new _ _) (by simp; omega)
  have HX : Hid (Upto zs (p - base) i ∧ w2.heap[f]? = some (fileB nm base size (.slice a n cap)) ∧ Kept [f] w w2) := ⟨hU, hf2, hK0.trans hk2⟩
  have n0 := cell_at hN 0
  have n1 := cell_at hN 1
  have n2 := cell_at hN 2
  have n3 := cell_at hN 3
  have m0 := free_at hN 0
  have m1 := free_at hN 1
  have m2 := free_at hN 2
  have m3 := free_at hN 3
  clear hK0 hFA hU hf2 hk2 hN
  simp at n0 n1 n2 n3
  go_wp2_with fail
  exact bodyPost_ret (v := .agg #[.string nm, .int .i64 (p - base), .int .i64 i, .int .i64 c]) (by simp [results, Tryf.results68, go_sem, n0, n1, n2, n3]) rfl
    ⟨i, c, rfl, HX.out.1, set_ne (set_ne (set_ne (set_ne HX.out.2.1 (by omega)) (by omega)) (by omega)) (by omega), (((HX.out.2.2.setCell (.inr (Nat.le_refl _)) _).setCell (.inr (Nat.le_refl _)) _).setCell (.inr (Nat.le_refl _)) _).setCell (.inr (Nat.le_refl _)) _⟩

set_option maxRecDepth 100000 in
set_option maxHeartbeats 1000000 in
theorem Position_any (f : Nat) (nm : ByteArray) (base size p : Int) (a : Option Addr) (n cap : Nat) (zs : List Int) (w : World) (h : FileAt w f nm base size a n cap zs) (hp0 : base ≤ p) (hp1 : p ≤ base + size) :
    Calls Tryf.prog 58 #[.pointer (some ⟨f, 0, none⟩), .int .i64 p] w fun e w' => ∃ (i : Nat) (c : Int), e = .returned (.agg #[.string nm, .int .i64 (p - base), .int .i64 i, .int .i64 c]) ∧ Upto zs (p - base) i ∧ w'.heap[f]? = some (fileB nm base size (.slice a n cap)) ∧ Kept [f] w w' := by
  have HF : Hid (FileAt w f nm base size a n cap zs) := h
  have b3 := h.base1
  have hlt := lt_of_heap h.heap
  have hp2 : (p != 0) = true := by simp; omega
  clear h
  go_enter Tryf.func58, Tryf.ntmps58
  go_wp2_with fail
  have hK0 : Kept [f] w (w.alloc (.cells #[.string ⟨#[]⟩, .int .i64 0, .int .i64 0, .int .i64 0] 110)) := (Kept.refl _ _).alloc _
  have hFA := HF.out.kept hK0 (alloc_old _ HF.out.heap) (fun b off e => by simpa using HF.out.apart b off e)
  refine (positionFor_any f nm base size p a n cap zs _ hFA hp0 hp1).mono ?_
  rintro e w2 ⟨i, c, rfl, hU, hf2, hk2⟩
  have hN : w2.heap[w.heap.size]? = some (.cells #[.string ⟨#[]⟩, .int .i64 0, .int .i64 0, .int .i64 0] 110 (0, 0)) := hk2.at (alloc_new _ _) (by simp; omega)
  have HX : Hid (Upto zs (p - base) i ∧ w2.heap[f]? = some (fileB nm base size (.slice a n cap)) ∧ Kept [f] w w2) := ⟨hU, hf2, hK0.trans hk2⟩
  have n0 := cell_at hN 0
  have n1 := cell_at hN 1
  have n2 := cell_at hN 2
  have n3 := cell_at hN 3
  have m0 := free_at hN 0
  have m1 := free_at hN 1
  have m2 := free_at hN 2
  have m3 := free_at hN 3
  clear hK0 hFA hU hf2 hk2 hN
  simp at n0 n1 n2 n3
  go_wp2_with fail
  exact bodyPost_ret (v := .agg #[.string nm, .int .i64 (p - base), .int .i64 i, .int .i64 c]) (by simp [results, Tryf.results58, go_sem, n0, n1, n2, n3]) rfl
    ⟨i, c, rfl, HX.out.1, set_ne (set_ne (set_ne (set_ne HX.out.2.1 (by omega)) (by omega)) (by omega)) (by omega), (((HX.out.2.2.setCell (.inr (Nat.le_refl _)) _).setCell (.inr (Nat.le_refl _)) _).setCell (.inr (Nat.le_refl _)) _).setCell (.inr (Nat.le_refl _)) _⟩

set_option maxRecDepth 100000 in
set_option maxHeartbeats 1000000 in
theorem Line_any (f : Nat) (nm : ByteArray) (base size p : Int) (a : Option Addr) (n cap : Nat) (zs : List Int) (w : World) (h : FileAt w f nm base size a n cap zs) (hp0 : base ≤ p) (hp1 : p ≤ base + size) :
    Calls Tryf.prog 35 #[.pointer (some ⟨f, 0, none⟩), .int .i64 p] w fun e w' => ∃ i : Nat, e = .returned (.int .i64 i) ∧ Upto zs (p - base) i ∧ w'.heap[f]? = some (fileB nm base size (.slice a n cap)) ∧ Kept [f] w w' := by
  have HF : Hid (FileAt w f nm base size a n cap zs) := h
  have hfd : ∀ (a b c d : Value) (wx : World), (Instr.field 110 (.agg #[a, b, c, d]) 2).run Tryf.prog wx = .ok c wx := fun _ _ _ _ _ => by kernel_rfl
  clear h
  go_enter Tryf.func35, Tryf.ntmps35
  go_wp2_with fail
  refine (Position_any f nm base size p a n cap zs _ HF.out hp0 hp1).mono ?_
  rintro e w2 ⟨i, c, rfl, hU, hf2, hk2⟩
  have HX : Hid (Upto zs (p - base) i ∧ w2.heap[f]? = some (fileB nm base size (.slice a n cap)) ∧ Kept [f] w w2) := ⟨hU, hf2, hk2⟩
  clear hU hf2 hk2
  go_wp2_with fail
  go_ret
  exact ⟨i, rfl, HX.out⟩

theorem fixOffset_same (f : Nat) (x size : Int) (w : World) (c2 : w.cell? ⟨f, 2, none⟩ = some (.int .i64 size)) (h0 : 0 ≤ x) (h1 : x ≤ size) (h2 : size ≤ 1048576) :
    Calls Tryf.prog 32 #[.pointer (some ⟨f, 0, none⟩), .int .i64 x] w fun e w' => e = .returned (.int .i64 x) ∧ w' = w :=
  (fixOffset_any f x size w c2 h0 h1 h2).mono fun e w' h => ⟨h.1, h.2.symm⟩

set_option maxRecDepth 100000 in
set_option maxHeartbeats 1000000 in
theorem Pos_any (f : Nat) (x base size : Int) (w : World) (c1 : w.cell? ⟨f, 1, none⟩ = some (.int .i64 base)) (c2 : w.cell? ⟨f, 2, none⟩ = some (.int .i64 size)) (h0 : 0 ≤ x) (h1 : x ≤ size) (h2 : size ≤ 1048576) (hb0 : 0 ≤ base) (hb1 : base ≤ 1048576) :
    Calls Tryf.prog 20 #[.pointer (some ⟨f, 0, none⟩), .int .i64 x] w fun e w' => e = .returned (.int .i64 (base + x)) ∧ ∃ n, w' = w.drewN n := by
  go_enter Tryf.func20, Tryf.ntmps20
  go_wp2_with fail
  go_quiet ((go_at_call 32; exact Calls.quiet_of_same (fixOffset_same f x size _ (by exact c2) h0 h1 h2)))
  go_wp2_with fail
  go_ret
  exact ⟨rfl, nq, rfl⟩
end Go.Proofs.Qxb6616684aFmt
