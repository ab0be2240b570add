/-
  THE WALK of 'ZZbuild'. By an AI agent.
-/
import Derived.Test.Qxb6616684aFmtFset
import Derived.Test.Qxb6616684aFmtSmall
import Derived.Laws.IdiomStrings
namespace Go.Proofs.Qxb6616684aFmt
open Go.RowKit
set_option linter.unusedVariables false

theorem conv_any (s : ByteArray) (w : World) : ∃ cap w1, (convert 9 39 (.string s)).run Tryf.prog w = .ok (.slice (some ⟨w.heap.size, 0, none⟩) s.size cap) w1 ∧ Kept [] w w1 ∧ RdB w1 (some ⟨w.heap.size, 0, none⟩) (B s) := by
  refine ⟨_, _, run_bytes_of_string w 9 39 5 s Tryf.underlying9 Tryf.underlying39 Tryf.underlying5, ((Kept.refl _ _).drew).alloc _, fun i hi => ⟨w.heap.size, 0, rfl, ?_⟩⟩
  rw [B_length] at hi
  have h := bat_eq s i hi
  rw [Nat.zero_add, show w.heap.size = w.drew.heap.size from rfl, World.cell?_alloc_mark, bytesRow_at s _ i hi, ← h]
  rfl

def comB (p : Int) (t : ByteArray) : Obj := .cells #[.int .i64 p, .string t] 44 (0, 0)

/-- what 'ZZbuild' has laid, from block 'lo' on: the directive d in the file f1 of the set s; a second file f2 behind it -/
structure BuiltX (lo : Nat) (w : World) (d s f1 : Nat) (s1 : ByteArray) (o : Nat) (verb : ByteArray) (alone : Bool) (c n1 n2 f2 : Nat) (nm nm2 txt : ByteArray) (l2 fb : Int) (a : Option Addr) (n cap : Nat) (lines2 : Value) : Prop where
  dir : w.heap[d]? = some (dirB (some ⟨c, 0, none⟩) (some ⟨f1, 0, none⟩) verb alone)
  com : w.heap[c]? = some (comB (1 + o) txt)
  set : w.heap[s]? = some (fsB 0 0 fb (some ⟨n1, 0, none⟩) (some ⟨f2, 0, none⟩))
  one : w.heap[n1]? = some (nodeB none none (some ⟨n2, 0, none⟩) (some ⟨f1, 0, none⟩) 1 (1 + s1.size) 1 1)
  two : w.heap[n2]? = some (nodeB (some ⟨n1, 0, none⟩) none none (some ⟨f2, 0, none⟩) (1 + (s1.size + 1)) (1 + (s1.size + 1) + l2) 0 0)
  file : FileAt w f1 nm 1 s1.size a n cap (Ln.linesTo (B s1) s1.size)
  file2 : w.heap[f2]? = some (fileB nm2 (1 + (s1.size + 1)) l2 lines2)
  ne : f1 ≠ f2
  off : o ≤ s1.size
  len : s1.size ≤ 65536
  len2 : 0 ≤ l2 ∧ l2 ≤ 65536
  los : lo ≤ d ∧ lo ≤ c ∧ lo ≤ s ∧ lo ≤ n1 ∧ lo ≤ n2 ∧ lo ≤ f1 ∧ lo ≤ f2
  loa : ∀ b off, a = some ⟨b, off, none⟩ → lo ≤ b
  aps : ∀ b off, a = some ⟨b, off, none⟩ → b ≠ s
def BuiltAt (lo : Nat) (w : World) (d s f1 : Nat) (s1 : ByteArray) (o : Nat) (verb : ByteArray) (alone : Bool) : Prop :=
  ∃ c n1 n2 f2 nm nm2 txt l2 fb a n cap lines2, BuiltX lo w d s f1 s1 o verb alone c n1 n2 f2 nm nm2 txt l2 fb a n cap lines2

theorem ne_sf {w : World} {x y : Nat} {wr rc b : Int} {r l : Option Addr} {nm : ByteArray} {base size : Int} {li : Value} (h : w.heap[x]? = some (fsB wr rc b r l)) (k : w.heap[y]? = some (fileB nm base size li)) : x ≠ y := fun e => by
  subst e; rw [h] at k; simp [fsB, fileB] at k
theorem ne_sn {w : World} {x y : Nat} {wr rc b : Int} {r l p q t f : Option Addr} {s e bal hh : Int} (h : w.heap[x]? = some (fsB wr rc b r l)) (k : w.heap[y]? = some (nodeB p q t f s e bal hh)) : x ≠ y := fun e => by
  subst e; rw [h] at k; simp [fsB, nodeB] at k
theorem ne_fn {w : World} {x y : Nat} {p q t f : Option Addr} {s e bal hh : Int} {nm : ByteArray} {base size : Int} {li : Value} (h : w.heap[x]? = some (fileB nm base size li)) (k : w.heap[y]? = some (nodeB p q t f s e bal hh)) : x ≠ y := fun e => by
  subst e; rw [h] at k; simp [fileB, nodeB] at k

theorem rdI_same {w w' : World} {a : Option Addr} {zs : List Int} (h : RdI w a zs) (hn : ∀ b off, a = some ⟨b, off, none⟩ → b < w.heap.size → w'.heap[b]? = w.heap[b]?) : RdI w' a zs := by
  intro i hi
  obtain ⟨b, off, e, hc⟩ := h i hi
  refine ⟨b, off, e, ?_⟩
  rw [World.cell?_of_block (w := w) (a := ⟨b, off + i, none⟩) (hn b off e (lt_of_cell hc))]
  exact hc
theorem BuiltX.carry {lo : Nat} {w w' : World} {d s f1 : Nat} {s1 : ByteArray} {o : Nat} {verb : ByteArray} {alone : Bool} {c n1 n2 f2 : Nat} {nm nm2 txt : ByteArray} {l2 fb : Int} {a : Option Addr} {n cap : Nat} {lines2 : Value}
    (h : BuiltX lo w d s f1 s1 o verb alone c n1 n2 f2 nm nm2 txt l2 fb a n cap lines2) (hk : ∀ k, lo ≤ k → k < w.heap.size → w'.heap[k]? = w.heap[k]?) : BuiltX lo w' d s f1 s1 o verb alone c n1 n2 f2 nm nm2 txt l2 fb a n cap lines2 :=
  have L := h.los
  { h with
    dir := (hk _ (by omega) (lt_of_heap h.dir)).trans h.dir
    com := (hk _ (by omega) (lt_of_heap h.com)).trans h.com
    set := (hk _ (by omega) (lt_of_heap h.set)).trans h.set
    one := (hk _ (by omega) (lt_of_heap h.one)).trans h.one
    two := (hk _ (by omega) (lt_of_heap h.two)).trans h.two
    file := { h.file with heap := (hk _ (by omega) (lt_of_heap h.file.heap)).trans h.file.heap, lines := rdI_same h.file.lines (fun b off e hb => hk b (h.loa b off e) hb) }
    file2 := (hk _ (by omega) (lt_of_heap h.file2)).trans h.file2 }
theorem BuiltAt.carry {lo : Nat} {w w' : World} {d s f1 : Nat} {s1 : ByteArray} {o : Nat} {verb : ByteArray} {alone : Bool} (h : BuiltAt lo w d s f1 s1 o verb alone) (hk : ∀ k, lo ≤ k → k < w.heap.size → w'.heap[k]? = w.heap[k]?) : BuiltAt lo w' d s f1 s1 o verb alone :=
  let ⟨c, n1, n2, f2, nm, nm2, txt, l2, fb, a, n, cap, lines2, H⟩ := h
  ⟨c, n1, n2, f2, nm, nm2, txt, l2, fb, a, n, cap, lines2, H.carry hk⟩

theorem newFileSet_ex (w : World) :
    Calls Tryf.prog 17 #[] w fun e w' => ∃ s, e = .returned (.pointer (some ⟨s, 0, none⟩)) ∧ w.heap.size ≤ s ∧ w'.heap[s]? = some (fsB 0 0 1 none none) ∧ Kept [] w w' :=
  (newFileSet_any w).mono fun e w' h => ⟨w.heap.size, h.1, Nat.le_refl _, h.2⟩

set_option maxRecDepth 100000 in
set_option maxHeartbeats 2000000 in
theorem zzBuild_any (s1 s2 txt verb : ByteArray) (alone : Bool) (o : Nat) (w : World) (h1 : s1.size ≤ 65536) (h2 : s2.size ≤ 65536) (ho : o ≤ s1.size) :
    Calls Tryf.prog 7 #[.string s1, .string s2, .int .i64 (o : Int), .string txt, .string verb, .bool alone] w fun e w' => ∃ d s f1, e = .returned (.tuple #[.pointer (some ⟨d, 0, none⟩), .pointer (some ⟨s, 0, none⟩)]) ∧ BuiltAt w.heap.size w' d s f1 s1 o verb alone ∧ Kept [] w w' := by
  go_enter Tryf.func7, Tryf.ntmps7
  go_wp2_with fail
  refine (newFileSet_ex w).mono ?_
  rintro e wa ⟨s, rfl, hs, hS, ka⟩
  have HSa : Hid (w.heap.size ≤ s ∧ wa.heap[s]? = some (fsB 0 0 1 none none) ∧ Kept [] w wa) := ⟨hs, hS, ka⟩
  clear hs hS ka
  go_wp2_with fail
  refine (addFile_one s _ (s1.size : Int) 1 none wa HSa.out.2.1 (by omega) (by omega) (by omega) (by omega)).mono ?_
  rintro e wb ⟨f1, rfl, hf1, ⟨li1, hF1⟩, ⟨n1, hn1, hN1, hSb⟩, kb⟩
  have hsf := ne_sf hSb hF1
  have hsn := ne_sn hSb hN1
  have hfn := ne_fn hF1 hN1
  have hwa := HSa.out.2.2.size
  have HLo : Hid (w.heap.size ≤ s ∧ w.heap.size ≤ f1 ∧ w.heap.size ≤ n1) := ⟨HSa.out.1, by omega, by omega⟩
  have HKb : Hid (Kept [] w wb) := HSa.out.2.2.fresh kb (by have := HSa.out.1; simp; omega)
  have HSb : Hid (wb.heap[s]? = some (fsB 0 0 (1 + (s1.size + 1)) (some ⟨n1, 0, none⟩) (some ⟨f1, 0, none⟩))) := hSb
  have HFb : Hid (wb.heap[f1]? = some (fileB ⟨#[97, 46, 103, 111]⟩ 1 s1.size li1)) := hF1
  have HNb : Hid (wb.heap[n1]? = some (nodeB none none none (some ⟨f1, 0, none⟩) 1 (1 + s1.size) 0 0)) := hN1
  clear hf1 hF1 hn1 hN1 hSb kb hwa
  obtain ⟨cap, wc, hcv, kc, hrc⟩ := conv_any s1 wb
  have HRc : Hid (Kept [] wb wc ∧ RdB wc (some ⟨wb.heap.size, 0, none⟩) (B s1)) := ⟨kc, hrc⟩
  clear kc hrc
  go_wp2_with fail
  refine (setLines_any f1 _ 1 s1.size li1 _ s1.size cap (B s1) wc (HRc.out.1.at HFb.out (by simp)) HRc.out.2 (B_length s1).symm h1 (by omega) (by omega) (by omega) (by omega)).mono ?_
  rintro e wd ⟨rfl, ⟨a1, m1, cap1, hA, hAlo⟩, kd⟩
  have hwbw := HKb.out.size
  have hwcb := HRc.out.1.size
  have HAd : Hid (FileAt wd f1 ⟨#[97, 46, 103, 111]⟩ 1 s1.size a1 m1 cap1 (Ln.linesTo (B s1) s1.size)) := hA
  have HAl : Hid (∀ b off, a1 = some ⟨b, off, none⟩ → wc.heap.size ≤ b) := hAlo
  have HSd : Hid (wd.heap[s]? = some (fsB 0 0 (1 + (s1.size + 1)) (some ⟨n1, 0, none⟩) (some ⟨f1, 0, none⟩))) := kd.at (HRc.out.1.at HSb.out (by simp)) (by simp; omega)
  have HNd : Hid (wd.heap[n1]? = some (nodeB none none none (some ⟨f1, 0, none⟩) 1 (1 + s1.size) 0 0)) := kd.at (HRc.out.1.at HNb.out (by simp)) (by simp; omega)
  have HKd : Hid (Kept [] w wd) := (HKb.out.trans HRc.out.1).fresh kd (by have := HLo.out; simp; omega)
  have hlsc := lt_of_heap (HRc.out.1.at HSb.out (by simp))
  have hlnc := lt_of_heap (HRc.out.1.at HNb.out (by simp))
  have HAs : Hid (∀ b off, a1 = some ⟨b, off, none⟩ → w.heap.size ≤ b ∧ b ≠ s ∧ b ≠ n1) := fun b off e => by have := hAlo b off e; omega
  clear hA hAlo kd hcv hwbw hwcb hlsc hlnc HAl
  go_wp2_with fail
  refine (addFile_two s _ (s2.size : Int) (1 + (s1.size + 1)) _ n1 (some ⟨f1, 0, none⟩) 1 (1 + s1.size) wd HSd.out HNd.out (by omega) (by omega) (by omega) (by omega) (by omega) (by omega)).mono ?_
  rintro e we ⟨f2, rfl, hf2, ⟨li2, hF2⟩, ⟨n2, hn2, hN2, hN1⟩, hS, ke⟩
  have hsf2 := ne_sf hS hF2
  have hsn2 := ne_sn hS hN2
  have hfn2 := ne_fn hF2 hN2
  have hf2n1 := ne_fn hF2 hN1
  have hwd := HKd.out.size
  have hl1 := lt_of_heap HAd.out.heap
  have hl2 := lt_of_heap HNd.out
  have hf12 : f1 ≠ f2 := by omega
  have hn12 : n1 ≠ n2 := by omega
  have HLe : Hid (w.heap.size ≤ f2 ∧ w.heap.size ≤ n2) := ⟨by omega, by omega⟩
  have HSe : Hid (we.heap[s]? = some (fsB 0 0 (1 + (s1.size + 1) + (s2.size + 1)) (some ⟨n1, 0, none⟩) (some ⟨f2, 0, none⟩))) := hS
  have HNe : Hid (we.heap[n1]? = some (nodeB none none (some ⟨n2, 0, none⟩) (some ⟨f1, 0, none⟩) 1 (1 + s1.size) 1 1)) := hN1
  have HMe : Hid (we.heap[n2]? = some (nodeB (some ⟨n1, 0, none⟩) none none (some ⟨f2, 0, none⟩) (1 + (s1.size + 1)) (1 + (s1.size + 1) + s2.size) 0 0)) := hN2
  have HFe : Hid (we.heap[f2]? = some (fileB ⟨#[98, 46, 103, 111]⟩ (1 + (s1.size + 1)) s2.size li2)) := hF2
  have HAe : Hid (FileAt we f1 ⟨#[97, 46, 103, 111]⟩ 1 s1.size a1 m1 cap1 (Ln.linesTo (B s1) s1.size)) := HAd.out.kept ke (ke.at HAd.out.heap (by simp; omega)) (fun b off e => by have := HAs.out b off e; simp; omega)
  have HKe : Hid (Kept [] w we) := HKd.out.fresh ke (by have := HLo.out; simp; omega)
  have HAr : Hid (Kept [s, n1] wd we ∧ wd.heap.size ≤ f2) := ⟨ke, hf2⟩
  clear hF2 hN2 hN1 hS ke hf2 hn2 hwd hl1 hl2
  obtain ⟨cap2, wf, hcv, kf, hrf⟩ := conv_any s2 we
  have HRf : Hid (Kept [] we wf ∧ RdB wf (some ⟨we.heap.size, 0, none⟩) (B s2)) := ⟨kf, hrf⟩
  clear kf hrf
  go_wp2_with fail
  refine (setLines_any f2 _ (1 + (s1.size + 1)) s2.size li2 _ s2.size cap2 (B s2) wf (HRf.out.1.at HFe.out (by simp)) HRf.out.2 (B_length s2).symm h2 (by omega) (by omega) (by omega) (by omega)).mono ?_
  rintro e wg ⟨rfl, ⟨a2, m2, cap2', hA2, hA2lo⟩, kg⟩
  have kfg : Kept [f2] we wg := (HRf.out.1.mono (by simp)).trans kg
  have HKg : Hid (Kept [] w wg) := (HKe.out.trans HRf.out.1).fresh kg (by have := HLe.out; simp; omega)
  have HSg : Hid (wg.heap[s]? = some (fsB 0 0 (1 + (s1.size + 1) + (s2.size + 1)) (some ⟨n1, 0, none⟩) (some ⟨f2, 0, none⟩))) := kfg.at HSe.out (by simp; omega)
  have HNg : Hid (wg.heap[n1]? = some (nodeB none none (some ⟨n2, 0, none⟩) (some ⟨f1, 0, none⟩) 1 (1 + s1.size) 1 1)) := kfg.at HNe.out (by simp; omega)
  have HMg : Hid (wg.heap[n2]? = some (nodeB (some ⟨n1, 0, none⟩) none none (some ⟨f2, 0, none⟩) (1 + (s1.size + 1)) (1 + (s1.size + 1) + s2.size) 0 0)) := kfg.at HMe.out (by simp; omega)
  have HFg : Hid (∃ li, wg.heap[f2]? = some (fileB ⟨#[98, 46, 103, 111]⟩ (1 + (s1.size + 1)) s2.size li)) := ⟨_, hA2.heap⟩
  have HAg : Hid (FileAt wg f1 ⟨#[97, 46, 103, 111]⟩ 1 s1.size a1 m1 cap1 (Ln.linesTo (B s1) s1.size)) :=
    { HAe.out with
      heap := kfg.at HAe.out.heap (by simp; omega)
      lines := rdI_same HAd.out.lines (fun b off e hb => by
        have h3 := HAs.out b off e
        have h4 := HAr.out
        exact (kfg.block b (Nat.lt_of_lt_of_le hb h4.1.size) (by simp; omega)).trans (h4.1.block b hb (by simp; omega))) }
  clear hA2 hA2lo kg kfg hcv
  have g1 := (fileB_cells HAg.out.heap).c1
  have g2 := (fileB_cells HAg.out.heap).c2
  go_wp2_with fail
  refine (Pos_any f1 o 1 s1.size wg g1 g2 (by omega) (by omega) (by omega) (by omega) (by omega)).mono ?_
  rintro e wh ⟨rfl, nq, hwh⟩
  have hheap : wh.heap = wg.heap := by rw [hwh]; rfl
  have HKh : Hid (Kept [] w wh) := by show Kept _ _ _; rw [hwh]; exact HKg.out.drewN _
  have HHh : Hid (wh.heap = wg.heap) := hheap
  have HRh : Hid (wh.os = wg.os ∧ wh.tape = wg.tape ∧ wh.output = wg.output ∧ True) := by show _ ∧ _; rw [hwh]; exact ⟨rfl, rfl, rfl, trivial⟩
  clear hwh hheap g1 g2
  go_wp2_with fail
  go_ret2
  have hsz : (wh.alloc (.cells #[.int .i64 (1 + o), .string txt] 44)).heap.size = wh.heap.size + 1 := by simp
  have kk : Kept [] wg ((wh.alloc (.cells #[.int .i64 (1 + o), .string txt] 44)).alloc (.cells #[.pointer (some ⟨wh.heap.size, 0, none⟩), .pointer (some ⟨f1, 0, none⟩), .string verb, .slice none 0 0, .string ⟨#[]⟩, .bool alone] 47)) := (Kept.mk (S := []) HRh.out.1 HRh.out.2.1 HRh.out.2.2.1 (by rw [HHh.out]; exact Nat.le_refl _) (fun k _ _ => by rw [HHh.out])).alloc _ |>.alloc _
  have hd : ((wh.alloc (.cells #[.int .i64 (1 + o), .string txt] 44)).alloc (.cells #[.pointer (some ⟨wh.heap.size, 0, none⟩), .pointer (some ⟨f1, 0, none⟩), .string verb, .slice none 0 0, .string ⟨#[]⟩, .bool alone] 47)).heap[wh.heap.size + 1]? = some (dirB (some ⟨wh.heap.size, 0, none⟩) (some ⟨f1, 0, none⟩) verb alone) := by
    have h := alloc_new (wh.alloc (.cells #[.int .i64 (1 + o), .string txt] 44)) (.cells #[.pointer (some ⟨wh.heap.size, 0, none⟩), .pointer (some ⟨f1, 0, none⟩), .string verb, .slice none 0 0, .string ⟨#[]⟩, .bool alone] 47)
    rw [hsz] at h
    exact h
  have hc : ((wh.alloc (.cells #[.int .i64 (1 + o), .string txt] 44)).alloc (.cells #[.pointer (some ⟨wh.heap.size, 0, none⟩), .pointer (some ⟨f1, 0, none⟩), .string verb, .slice none 0 0, .string ⟨#[]⟩, .bool alone] 47)).heap[wh.heap.size]? = some (comB (1 + o) txt) := alloc_old _ (alloc_new _ _)
  obtain ⟨li, hF2⟩ := HFg.out
  have hlo := HLo.out
  have hle := HLe.out
  have hwh := HKh.out.size
  exact ⟨wh.heap.size + 1, s, f1, rfl, ⟨wh.heap.size, n1, n2, f2, _, _, txt, s2.size, _, a1, m1, cap1, li,
    { dir := hd, com := hc, set := kk.at HSg.out (by simp), one := kk.at HNg.out (by simp), two := kk.at HMg.out (by simp),
       file := HAg.out.kept kk (kk.at HAg.out.heap (by simp)) (fun _ _ _ => by simp), file2 := kk.at hF2 (by simp), ne := hf12, off := ho, len := h1, len2 := by omega,
       los := by omega, loa := fun b off e => (HAs.out b off e).1, aps := fun b off e => (HAs.out b off e).2.1 }⟩, (HKh.out.alloc _).alloc _⟩
end Go.Proofs.Qxb6616684aFmt
