/-
  THE WALKS of 'atomic.Pointer[File]': Store, Load; small walks of the tree's keys. By an AI agent.
-/
import Derived.Test.Qxb6616684aFmtBase
import Derived.Deep.RegionWith
import Derived.BigRegion
namespace Go.Proofs.Qxb6616684aFmt
open Go.RowKit
set_option linter.unusedVariables false

theorem run_storeP {P : Program} {f : FuncId} {fn : Func} (hf : P.funcs[f]? = some fn) (hname : (fn.name == "runtime.NumGoroutine") = false) (hb : fn.body.isNone = true) (hn : Extern.findNext fn = none)
    (he : Extern.find fn = some Extern.Atomic.storeT) {a : Addr} {y : Option Addr} {u : Value} {w : World} (hc : w.cell? a = some u) (hz : w.frozen? a = false) :
    (callFunc f #[.pointer (some a), .pointer y]).run P w = .ok (.value (.tuple #[])) (w.setCell a (.pointer y)) := by
  rw [run_callFunc_extern hf hname hb hn he]
  change (Sem.run P (do
    store (← asAddr (.pointer (some a))) (.pointer y) .atomic
    pure Extern.Atomic.none_) w).andThen _ = _
  simp [asAddr, hc, hz, run_store P w a (.pointer y) .atomic rfl, Result.andThen, Extern.Atomic.none_]
theorem run_loadP {P : Program} {f : FuncId} {fn : Func} (hf : P.funcs[f]? = some fn) (hname : (fn.name == "runtime.NumGoroutine") = false) (hb : fn.body.isNone = true) (hn : Extern.findNext fn = none)
    (he : Extern.find fn = some (Extern.Atomic.loadT .ptr)) {a : Addr} {y : Option Addr} {w : World} (hc : w.cell? a = some (.pointer y)) :
    (callFunc f #[.pointer (some a)]).run P w = .ok (.value (.pointer y)) w := by
  rw [run_callFunc_extern hf hname hb hn he]
  change (Sem.run P (do Extern.Atomic.read .ptr (← asAddr (.pointer (some a)))) w).andThen _ = _
  simp [Extern.Atomic.read, asAddr, hc, Result.andThen]

theorem to_unsafe (w : World) (f : Nat) (cs : Array Value) (h : w.heap[f]? = some (.cells cs 79 (0, 0))) (hc : cs.size = 7) : (convert 36 71 (.pointer (some ⟨f, 0, none⟩))).run Tryf.prog w = .ok (.pointer (some ⟨f, 0, none⟩)) w := by
  have hi : (Tryf.prog.info? 79).map (fun i => decide (i.size = 0)) = some false := by kernel_rfl
  obtain ⟨i, hi1, hi2⟩ := Option.map_eq_some_iff.1 hi
  exact Lib.run_to_unsafe (w := w) (t := 79) (e := 79) (cells := 7) ⟨f, 0, none⟩ (by kernel_rfl) (by kernel_rfl) hi1 (by simpa using hi2) (by show w.shape? f = _; rw [shape_at h, hc]) (by show 0 < 7; decide)
theorem from_unsafe (w : World) (f : Nat) (cs : Array Value) (h : w.heap[f]? = some (.cells cs 79 (0, 0))) (hc : cs.size = 7) : (convert 71 36 (.pointer (some ⟨f, 0, none⟩))).run Tryf.prog w = .ok (.pointer (some ⟨f, 0, none⟩)) w := by
  have hi : (Tryf.prog.info? 79).map (fun i => decide (i.size = 0)) = some false := by kernel_rfl
  obtain ⟨i, hi1, hi2⟩ := Option.map_eq_some_iff.1 hi
  exact Lib.run_from_unsafe (w := w) (u := 79) (e := 79) (cells := 7) ⟨f, 0, none⟩ (by kernel_rfl) (by kernel_rfl) hi1 (by show w.shape? f = _; rw [shape_at h, hc]) (by kernel_rfl)

set_option maxRecDepth 100000 in
set_option maxHeartbeats 400000 in
theorem Store_any (s f : Nat) (cs : Array Value) (u : Value) (w : World) (h : w.heap[f]? = some (.cells cs 79 (0, 0))) (hc : cs.size = 7) (c8 : w.cell? ⟨s, 8, none⟩ = some u) (z8 : w.frozen? ⟨s, 8, none⟩ = false) :
    Calls Tryf.prog 29 #[.pointer (some ⟨s, 8, none⟩), .pointer (some ⟨f, 0, none⟩)] w fun e w' => e = .returned (.tuple #[]) ∧ w' = w.setCell ⟨s, 8, none⟩ (.pointer (some ⟨f, 0, none⟩)) := by
  have h1 := to_unsafe w f cs h hc
  have h2 := run_storeP (P := Tryf.prog) (f := 54) (y := some ⟨f, 0, none⟩) Tryf.func54 (by kernel_rfl) (by kernel_rfl) (by kernel_rfl) (by kernel_rfl) c8 z8
  clear h
  go_enter Tryf.func29, Tryf.ntmps29
  go_wp2
  go_end0
  exact ⟨rfl, rfl⟩

set_option maxRecDepth 100000 in
set_option maxHeartbeats 400000 in
theorem Load_any (s f : Nat) (cs : Array Value) (w : World) (h : w.heap[f]? = some (.cells cs 79 (0, 0))) (hc : cs.size = 7) (c8 : w.cell? ⟨s, 8, none⟩ = some (.pointer (some ⟨f, 0, none⟩))) :
    Calls Tryf.prog 65 #[.pointer (some ⟨s, 8, none⟩)] w fun e w' => e = .returned (.pointer (some ⟨f, 0, none⟩)) ∧ w = w' := by
  have h1 := from_unsafe w f cs h hc
  have h2 := run_loadP (P := Tryf.prog) (f := 79) Tryf.func79 (by kernel_rfl) (by kernel_rfl) (by kernel_rfl) (by kernel_rfl) c8
  clear h
  go_enter Tryf.func65, Tryf.ntmps65
  go_wp2
  go_ret
  exact ⟨rfl, rfl⟩

theorem lt_of_cell' {w : World} {p : Addr} {v : Value} (h : w.cell? p = some v) : p.block < w.heap.size := by
  unfold World.cell? at h
  split at h
  · rename_i c e f hb; exact (Array.getElem?_eq_some_iff.1 hb).1
  · cases h
theorem cell_alloc_old {w : World} {p : Addr} {v : Value} (o : Obj) (h : w.cell? p = some v) : (w.alloc o).cell? p = some v := by
  rw [World.cell?_of_block (w := w) (a := p) (Below.heap_alloc w o _ (lt_of_cell' h))]; exact h
def keyB (s e : Int) : Obj := .cells #[.int .i64 s, .int .i64 e] 100 (0, 0)
def keyV (s e : Int) : Value := .agg #[.int .i64 s, .int .i64 e]
def cmp (a b c d : Int) : Int := if b < c then -1 else if d < a then 1 else 0

set_option maxRecDepth 100000 in
set_option maxHeartbeats 400000 in
theorem compareKey_any (a b c d : Int) (w : World) :
    Calls Tryf.prog 60 #[.agg #[.int .i64 a, .int .i64 b], .agg #[.int .i64 c, .int .i64 d]] w fun e w' => e = .returned (.int .i64 (cmp a b c d)) ∧ w' = (w.alloc (keyB a b)).alloc (keyB c d) := by
  have e1 : Hid (b < c → cmp a b c d = -1) := fun h => by simp [cmp, h]
  have e2 : Hid (c ≤ b → d < a → cmp a b c d = 1) := fun h h2 => by simp [cmp, h2]; omega
  have e3 : Hid (c ≤ b → a ≤ d → cmp a b c d = 0) := fun h h2 => by simp [cmp]; omega
  go_enter Tryf.func60, Tryf.ntmps60
  go_wp2
  all_goals
    go_ret
    first
      | exact ⟨ret_int (e1.out (by omega)).symm, rfl⟩
      | exact ⟨ret_int (e2.out (by omega) (by omega)).symm, rfl⟩
      | exact ⟨ret_int (e3.out (by omega) (by omega)).symm, rfl⟩

set_option maxRecDepth 100000 in
set_option maxHeartbeats 400000 in
theorem safeHeight_nil (w : World) : Calls Tryf.prog 83 #[.pointer none] w fun e w' => e = .returned (.int .i32 (-1)) ∧ w' = w := by
  go_enter Tryf.func83, Tryf.ntmps83
  go_wp2
  go_ret
  exact ⟨rfl, rfl⟩

set_option maxRecDepth 100000 in
set_option maxHeartbeats 400000 in
theorem safeHeight_at (n : Nat) (h : Int) (w : World) (c7 : w.cell? ⟨n, 7, none⟩ = some (.int .i32 h)) : Calls Tryf.prog 83 #[.pointer (some ⟨n, 0, none⟩)] w fun e w' => e = .returned (.int .i32 h) ∧ w' = w := by
  go_enter Tryf.func83, Tryf.ntmps83
  go_wp2
  go_ret
  exact ⟨rfl, rfl⟩

set_option maxRecDepth 100000 in
set_option maxHeartbeats 1000000 in
theorem key_any (f : Nat) (base size : Int) (w : World) (c1 : w.cell? ⟨f, 1, none⟩ = some (.int .i64 base)) (c2 : w.cell? ⟨f, 2, none⟩ = some (.int .i64 size)) (h0 : 0 ≤ size) (h2 : size ≤ 1048576) (hb0 : 0 ≤ base) (hb1 : base ≤ 1048576) :
    Calls Tryf.prog 49 #[.pointer (some ⟨f, 0, none⟩)] w fun e w' => e = .returned (.agg #[.int .i64 base, .int .i64 (base + size)]) ∧ Kept [] w w' := by
  
  have d1 : (w.alloc (.cells #[.int .i64 0, .int .i64 0] 100)).cell? ⟨f, 1, none⟩ = some (.int .i64 base) := cell_alloc_old _ c1
  have d2 : (w.alloc (.cells #[.int .i64 0, .int .i64 0] 100)).cell? ⟨f, 2, none⟩ = some (.int .i64 size) := cell_alloc_old _ c2
  have k0 : (w.alloc (.cells #[.int .i64 0, .int .i64 0] 100)).cell? ⟨w.heap.size, 0, none⟩ = some (.int .i64 0) := cell_at (alloc_new w _) 0
  have k1 : (w.alloc (.cells #[.int .i64 0, .int .i64 0] 100)).cell? ⟨w.heap.size, 1, none⟩ = some (.int .i64 0) := cell_at (alloc_new w _) 1
  have m0 : (w.alloc (.cells #[.int .i64 0, .int .i64 0] 100)).frozen? ⟨w.heap.size, 0, none⟩ = false := free_at (alloc_new w _) 0
  have m1 : (w.alloc (.cells #[.int .i64 0, .int .i64 0] 100)).frozen? ⟨w.heap.size, 1, none⟩ = false := free_at (alloc_new w _) 1
  have hw1 : Hid ((w.alloc (.cells #[.int .i64 0, .int .i64 0] 100)).heap[w.heap.size]? = some (.cells #[.int .i64 0, .int .i64 0] 100)) := alloc_new w _
  have HK : Hid (Kept [] w (w.alloc (.cells #[.int .i64 0, .int .i64 0] 100))) := (Kept.refl _ _).alloc _
  have hlt := lt_of_cell' c1
  clear c1 c2
  go_enter Tryf.func49, Tryf.ntmps49
  go_wp2
  generalize (w.alloc (.cells #[.int .i64 0, .int .i64 0] 100)) = w1 at *
  go_region
  all_goals
    go_wp2
    exact bodyPost_ret (v := .agg #[.int .i64 base, .int .i64 (base + size)]) (by simp [results, Tryf.results49, go_sem, k0, k1]) rfl ⟨rfl, ((HK.out.setCell (.inr (Nat.le_refl _)) _).setCell (.inr (Nat.le_refl _)) _).drew⟩
end Go.Proofs.Qxb6616684aFmt
