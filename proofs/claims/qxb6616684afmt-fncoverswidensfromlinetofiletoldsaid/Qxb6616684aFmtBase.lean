/-
  What stays and what turns in memory; the blocks of a file set, a file, a node. By an AI agent.
-/
import Derived.Test.Qxb6616684aFmtProg
import Derived.Test.Qxb6616684aFmtLocks
import Derived.Conc.RwLoneW
import Derived.WalkKit
import Derived.WalkSpells
import Derived.WalkLawsBesides
import Derived.Lib.Builder
import Derived.Deep.QuietTactic
import Derived.BigQuiet
import Derived.Deep.DeepCutAuto
import Derived.Deep.CutBlock
namespace Go.Proofs.Qxb6616684aFmt
open Go.RowKit
set_option linter.unusedVariables false

/-- w' is w with new blocks, and with writes to the blocks of S alone. -/
structure Kept (S : List Nat) (w w' : World) : Prop where
  os : w'.os = w.os
  tape : w'.tape = w.tape
  output : w'.output = w.output
  size : w.heap.size ≤ w'.heap.size
  block : ∀ k, k < w.heap.size → ¬ k ∈ S → w'.heap[k]? = w.heap[k]?

theorem Kept.refl (S : List Nat) (w : World) : Kept S w w := ⟨rfl, rfl, rfl, Nat.le_refl _, fun _ _ _ => rfl⟩
theorem Kept.trans {S : List Nat} {a b c : World} (h : Kept S a b) (k : Kept S b c) : Kept S a c :=
  ⟨k.os.trans h.os, k.tape.trans h.tape, k.output.trans h.output, Nat.le_trans h.size k.size, fun i hi hn => (k.block i (Nat.lt_of_lt_of_le hi h.size) hn).trans (h.block i hi hn)⟩
theorem Kept.mono {S S' : List Nat} {a b : World} (h : Kept S a b) (hs : ∀ k ∈ S, k ∈ S') : Kept S' a b :=
  ⟨h.os, h.tape, h.output, h.size, fun i hi hn => h.block i hi (fun h2 => hn (hs i h2))⟩
/-- writes to blocks that are new to 'a' do not count -/
theorem Kept.fresh {S S' : List Nat} {a b c : World} (h : Kept S a b) (k : Kept S' b c) (hs : ∀ x ∈ S', x ∈ S ∨ a.heap.size ≤ x) : Kept S a c :=
  ⟨k.os.trans h.os, k.tape.trans h.tape, k.output.trans h.output, Nat.le_trans h.size k.size, fun i hi hn =>
    (k.block i (Nat.lt_of_lt_of_le hi h.size) (fun h2 => by rcases hs i h2 with h3 | h3; exact hn h3; omega)).trans (h.block i hi hn)⟩
theorem Kept.alloc {S : List Nat} {a w : World} (h : Kept S a w) (o : Obj) : Kept S a (w.alloc o) :=
  h.trans ⟨rfl, rfl, rfl, by simp, fun k hk _ => Below.heap_alloc _ _ _ hk⟩
theorem Kept.setCell {S : List Nat} {a w : World} (h : Kept S a w) {p : Addr} (hp : p.block ∈ S ∨ a.heap.size ≤ p.block) (u : Value) : Kept S a (w.setCell p u) :=
  ⟨h.os, h.tape, h.output, by simp [World.setCell]; exact h.size, fun k hk hn => by
    rw [Below.heap_setCell _ _ _ _ (fun e => by rcases hp with hp | hp; exact hn (e ▸ hp); omega)]
    exact h.block k hk hn⟩
theorem Kept.drewN {S : List Nat} {a w : World} (h : Kept S a w) (n : Nat) : Kept S a (w.drewN n) := ⟨h.os, h.tape, h.output, h.size, h.block⟩
theorem Kept.drew {S : List Nat} {a w : World} (h : Kept S a w) : Kept S a w.drew := ⟨h.os, h.tape, h.output, h.size, h.block⟩
theorem Kept.below {S : List Nat} {w w' : World} {B : Nat} (h : Kept S w w') (hB : B ≤ w.heap.size) (hS : ∀ k ∈ S, B ≤ k) : Below B w w' :=
  ⟨h.os, h.tape, h.output, h.size, fun k hk => h.block k (by omega) (fun h2 => by have := hS k h2; omega)⟩

theorem lt_of_heap {w : World} {g : Nat} {o : Obj} (h : w.heap[g]? = some o) : g < w.heap.size := (Array.getElem?_eq_some_iff.1 h).1
theorem Kept.at {S : List Nat} {w w' : World} {b : Nat} {o : Obj} (h : Kept S w w') (hb : w.heap[b]? = some o) (hn : ¬ b ∈ S) : w'.heap[b]? = some o := (h.block b (lt_of_heap hb) hn).trans hb
theorem cell_at {w : World} {b : Nat} {cs : Array Value} {t : TypeId} (h : w.heap[b]? = some (.cells cs t (0, 0))) (i : Nat) : w.cell? ⟨b, i, none⟩ = cs[i]? := by simp [World.cell?, h]
theorem free_at {w : World} {b : Nat} {cs : Array Value} {t : TypeId} (h : w.heap[b]? = some (.cells cs t (0, 0))) (i : Nat) : w.frozen? ⟨b, i, none⟩ = false := by simp [World.frozen?, h]
theorem shape_at {w : World} {b : Nat} {cs : Array Value} {t : TypeId} (h : w.heap[b]? = some (.cells cs t (0, 0))) : w.shape? b = some (t, cs.size) := by simp [World.shape?, h]
theorem set_at {w : World} {b i : Nat} {cs cs' : Array Value} {t : TypeId} {v : Value} (h : w.heap[b]? = some (.cells cs t (0, 0))) (e : cs.setIfInBounds i v = cs') : (w.setCell ⟨b, i, none⟩ v).heap[b]? = some (.cells cs' t (0, 0)) := by
  rw [heap_setCell_same w b i cs t v h, e]
theorem set_ne {w : World} {b i c : Nat} {o : Obj} {v : Value} (h : w.heap[c]? = some o) (e : c ≠ b) : (w.setCell ⟨b, i, none⟩ v).heap[c]? = some o := by
  rw [Below.heap_setCell _ _ _ _ e]; exact h
theorem alloc_new (w : World) (o : Obj) : (w.alloc o).heap[w.heap.size]? = some o := by
  show (w.heap.push o)[w.heap.size]? = _
  rw [Array.getElem?_push_size]
theorem alloc_old {w : World} {c : Nat} {x : Obj} (o : Obj) (h : w.heap[c]? = some x) : (w.alloc o).heap[c]? = some x := by
  rw [Below.heap_alloc w o c (lt_of_heap h)]; exact h

theorem ret_int {k : IntKind} {a b : Int} (h : a = b) : Ending.returned (.int k a) = .returned (.int k b) := by rw [h]
theorem ret_bool {a b : Bool} (h : a = b) : Ending.returned (.bool a) = .returned (.bool b) := by rw [h]

/-- a file, its lock free, no line infos -/
def fileB (nm : ByteArray) (base size : Int) (lines : Value) : Obj := .cells #[.string nm, .int .i64 base, .int .i64 size, .int .i32 0, .int .u32 0, lines, .slice none 0 0] 79 (0, 0)
/-- a file whose lock is held -/
def fileL (nm : ByteArray) (base size : Int) (lines : Value) : Obj := .cells #[.string nm, .int .i64 base, .int .i64 size, .int .i32 1, .int .u32 0, lines, .slice none 0 0] 79 (0, 0)
/-- a file set: writers' word, readers' count, base, root, last -/
def fsB (wr rc base : Int) (root last : Option Addr) : Obj := .cells #[.int .i32 wr, .int .u32 0, .int .u32 0, .int .u32 0, .int .i32 rc, .int .i32 0, .int .i64 base, .pointer root, .pointer last] 75 (0, 0)
def nodeB (parent left right file : Option Addr) (s e bal h : Int) : Obj := .cells #[.pointer parent, .pointer left, .pointer right, .pointer file, .int .i64 s, .int .i64 e, .int .i32 bal, .int .i32 h] 104 (0, 0)

structure FileCells (w : World) (f : Nat) (nm : ByteArray) (base size lk : Int) (lines : Value) : Prop where
  c0 : w.cell? ⟨f, 0, none⟩ = some (.string nm)
  c1 : w.cell? ⟨f, 1, none⟩ = some (.int .i64 base)
  c2 : w.cell? ⟨f, 2, none⟩ = some (.int .i64 size)
  c3 : w.cell? ⟨f, 3, none⟩ = some (.int .i32 lk)
  c5 : w.cell? ⟨f, 5, none⟩ = some lines
  c6 : w.cell? ⟨f, 6, none⟩ = some (.slice none 0 0)
  z1 : w.frozen? ⟨f, 1, none⟩ = false
  z3 : w.frozen? ⟨f, 3, none⟩ = false
  z5 : w.frozen? ⟨f, 5, none⟩ = false
theorem fileB_cells {w : World} {f : Nat} {nm : ByteArray} {base size : Int} {lines : Value} (h : w.heap[f]? = some (fileB nm base size lines)) : FileCells w f nm base size 0 lines :=
  ⟨cell_at h 0, cell_at h 1, cell_at h 2, cell_at h 3, cell_at h 5, cell_at h 6, free_at h 1, free_at h 3, free_at h 5⟩
theorem fileL_cells {w : World} {f : Nat} {nm : ByteArray} {base size : Int} {lines : Value} (h : w.heap[f]? = some (fileL nm base size lines)) : FileCells w f nm base size 1 lines :=
  ⟨cell_at h 0, cell_at h 1, cell_at h 2, cell_at h 3, cell_at h 5, cell_at h 6, free_at h 1, free_at h 3, free_at h 5⟩

set_option maxRecDepth 100000 in
set_option maxHeartbeats 400000 in
theorem fixOffset_any (f : Nat) (x size : Int) (w : World) (c2 : w.cell? ⟨f, 2, none⟩ = some (.int .i64 size)) (h0 : 0 ≤ x) (h1 : x ≤ size) (h2 : size ≤ 1048576) :
    Calls Tryf.prog 32 #[.pointer (some ⟨f, 0, none⟩), .int .i64 x] w fun e w' => e = .returned (.int .i64 x) ∧ w = w' := by
  go_enter Tryf.func32, Tryf.ntmps32
  go_wp2
  all_goals
    go_ret
    exact ⟨ret_int (by omega), rfl⟩
end Go.Proofs.Qxb6616684aFmt
