/-
  THE WALK of 'zzBytes_FnNewNameSetOfJoinedListsIsUnion': it answers some bool; the world is as it was. By an AI agent.
-/
import Derived.Test.Qxb6617892aWalksS
namespace Go.Proofs.Qxb6617892a
open Go.RowKit Go.Maps
set_option linter.unusedVariables false

/-- the first k strings are no longer than 1<<20 bytes -/
def Sml (ss : List ByteArray) (k : Nat) : Prop := ∀ i, i < k → (sat ss i).size ≤ 1048576
theorem Sml.zero (ss : List ByteArray) : Sml ss 0 := fun i h => by omega
theorem Sml.succ {ss : List ByteArray} {k : Nat} (h : Sml ss k) (hk : (sat ss k).size ≤ 1048576) : Sml ss (k + 1) := fun i hi => by
  by_cases e : i = k
  · subst e; exact hk
  · exact h i (by omega)
/-- some bool came back; where it is true, no string is longer than 1<<20 bytes -/
def SomeBool (A Bs : List ByteArray) (e : Ending) : Prop := ∃ r, e = .returned (.bool r) ∧ (r = true → Sml A A.length ∧ Sml Bs Bs.length)

set_option maxRecDepth 100000 in
set_option maxHeartbeats 2000000 in
theorem zb12 (a b : Option Addr) (la ca lb cb : Nat) (A Bs : List ByteArray) (w : World) (hla : la = A.length) (hlb : lb = Bs.length) (hra : RdS w a A) (hrb : RdS w b Bs) (hm1 : la ≤ 9223372036854775807) (hm2 : lb ≤ 9223372036854775807) :
    Calls Try.prog 12 #[.slice a la ca, .slice b lb cb] w fun e w' => SomeBool A Bs e ∧ w = w' := by
  have HA : Hid (RdS w a A ∧ la = A.length) := ⟨hra, hla⟩
  have HB : Hid (RdS w b Bs ∧ lb = Bs.length) := ⟨hrb, hlb⟩
  clear hra hrb hla hlb
  by_cases h1 : la ≤ 1048576
  · go_enter Try.func12, Try.ntmps12
    go_wp2_with fail
    go_loop [5, 6] (fun z i => ∃ k zz : Nat, k ≤ la ∧ zz ≤ 1048576 ∧ z = .int .i64 zz ∧ i = .int .i64 k ∧ Hid (Sml A k)) (fun _ i => la - (intOf i).toNat)
    case atStart => exact ⟨0, la, Nat.zero_le _, h1, rfl, rfl, Sml.zero A⟩
    case round =>
      obtain ⟨k, zz, hk, hz, rfl, rfl, hS⟩ := hrel
      by_cases hlt : k < la
      · obtain ⟨b0, off, rfl, hc⟩ := HA.out.1.1 k (by have := HA.out.2; omega)
        have hsm : (sat A k).size ≤ 9223372036854775807 := by have := HA.out.1.2 k; unfold maxLen at this; omega
        by_cases hs : (sat A k).size ≤ 1048576
        · by_cases hs2 : zz + (sat A k).size ≤ 1048576
          · go_wp2
            go_round
            case rel => exact ⟨k + 1, zz + (sat A k).size, by omega, hs2, by go_num, by go_num, hS.out.succ hs⟩
            case measure => simp [intOf]; omega
          · go_wp2
            go_ret
            exact ⟨⟨false, rfl, fun h => by cases h⟩, rfl⟩
        · go_wp2
          go_ret
          exact ⟨⟨false, rfl, fun h => by cases h⟩, rfl⟩
      · by_cases h2 : lb ≤ 1048576
        · by_cases h3 : zz + lb ≤ 1048576
          · go_wp2_with fail
            go_loop [5, 7] (fun z i => ∃ k2 z2 : Nat, k2 ≤ lb ∧ z2 ≤ 1048576 ∧ z = .int .i64 z2 ∧ i = .int .i64 k2 ∧ Hid (Sml Bs k2)) (fun _ i => lb - (intOf i).toNat)
            case atStart => exact ⟨0, zz + lb, Nat.zero_le _, h3, by go_num, rfl, Sml.zero Bs⟩
            case round =>
              obtain ⟨k2, z2, hk2, hz2, rfl, rfl, hS2⟩ := hrel
              by_cases hlt2 : k2 < lb
              · obtain ⟨b1, off1, rfl, hc1⟩ := HB.out.1.1 k2 (by have := HB.out.2; omega)
                have hsm1 : (sat Bs k2).size ≤ 9223372036854775807 := by have := HB.out.1.2 k2; unfold maxLen at this; omega
                by_cases hs : (sat Bs k2).size ≤ 1048576
                · by_cases hs2 : z2 + (sat Bs k2).size ≤ 1048576
                  · go_wp2
                    go_round
                    case rel => exact ⟨k2 + 1, z2 + (sat Bs k2).size, by omega, hs2, by go_num, by go_num, hS2.out.succ hs⟩
                    case measure => simp [intOf]; omega
                  · go_wp2
                    go_ret
                    exact ⟨⟨false, rfl, fun h => by cases h⟩, rfl⟩
                · go_wp2
                  go_ret
                  exact ⟨⟨false, rfl, fun h => by cases h⟩, rfl⟩
              · have hS3 : Hid (Sml A A.length ∧ Sml Bs Bs.length) := ⟨by rw [← HA.out.2, show la = k by omega]; exact hS.out, by rw [← HB.out.2, show lb = k2 by omega]; exact hS2.out⟩
                go_wp2
                go_ret
                exact ⟨⟨true, rfl, fun _ => hS3.out⟩, rfl⟩
          · go_wp2
            go_ret
            exact ⟨⟨false, rfl, fun h => by cases h⟩, rfl⟩
        · go_wp2
          go_ret
          exact ⟨⟨false, rfl, fun h => by cases h⟩, rfl⟩
  · go_enter Try.func12, Try.ntmps12
    go_wp2
    go_ret
    exact ⟨⟨false, rfl, fun h => by cases h⟩, rfl⟩
end Go.Proofs.Qxb6617892a
