/-
  THE WALK of 'isJSONNumber'. By an AI agent.
-/
import Derived.Test.Qxb6617848aWalksJ
import Derived.Deep.CutBlock
namespace Go.Proofs.Qxb6617848a
open Go.RowKit
set_option linter.unusedVariables false

theorem J_false1 {u : List Int} {e f d : Nat} (h : (!(d == f) && Num.dOnly u f d) = false) : Num.J u e f d = false := by unfold Num.J; rw [h]; rfl
theorem J_false2 {u : List Int} {e f d : Nat} (h : (decide (1 < d - f) && Num.uby u f == 48) = true) : Num.J u e f d = false := by unfold Num.J; rw [h]; simp
theorem J_false3 {u : List Int} {e f d : Nat} (h1 : d < e) (h : (!(d + 1 == e) && Num.dOnly u (d + 1) e) = false) : Num.J u e f d = false := by unfold Num.J; rw [if_pos h1, h]; simp
theorem J_false4 {u : List Int} {e f d : Nat} (h1 : e < u.length) (h : Num.pE u (e + 1) = false) : Num.J u e f d = false := by unfold Num.J; rw [if_pos h1, h]; simp
theorem J_true {u : List Int} {e f d : Nat} (a : (!(d == f) && Num.dOnly u f d) = true) (b : (decide (1 < d - f) && Num.uby u f == 48) = false) (c : (if d < e then !(d + 1 == e) && Num.dOnly u (d + 1) e else true) = true)
    (g : (if e < u.length then Num.pE u (e + 1) else true) = true) : Num.J u e f d = true := by unfold Num.J; rw [a, b, c, g]; rfl

set_option maxRecDepth 100000 in
set_option maxHeartbeats 1000000 in
theorem isJ_any (a : Option Addr) (L cap : Nat) (l : List Int) (n : Nat) (wz : Bool) (w : World) (hL : L = l.length) (hr : Rd w a l) (hn : n ≤ l.length) (hl : l.length ≤ 1048576) :
    Calls Try.prog 20 #[.slice a L cap, .int .i64 (n : Int), .bool wz] w fun e w' => e = .returned (.bool (Num.isJ (Num.U l n wz))) ∧ w = w' := by
  obtain ⟨u, hu⟩ : ∃ u, Hid (u = Num.U l n wz) := ⟨_, rfl⟩
  have HC : Hid (Ct w a l n u) := ⟨hr, hn, hl, fun k => by rw [hu.out]; exact Num.U_uby l n wz k⟩
  have HL : Hid (L = l.length) := hL
  obtain ⟨S, hS⟩ : ∃ S, Hid (u.length = S) := ⟨_, rfl⟩
  have hSn : Hid (S = if wz then n + 1 else n) := by show _ = _; rw [← hS.out, hu.out]; exact Num.U_length l n wz hn
  have hSle : S ≤ 1048577 := by have := hSn.out; cases wz <;> simp at this <;> omega
  obtain ⟨E, hE⟩ : ∃ E, Hid (Num.eAt u = E) := ⟨_, rfl⟩
  have hES : E ≤ S := by rw [← hE.out, ← hS.out]; exact Num.eAt_le u
  obtain ⟨F, hF⟩ : ∃ F : Nat, Hid (F = if decide (E > 0) && Num.uby u 0 == 45 then 1 else 0) := ⟨if decide (E > 0) && Num.uby u 0 == 45 then 1 else 0, show _ = _ from rfl⟩
  have hFE : F ≤ E := by
    rw [hF.out]
    by_cases h : (decide (E > 0) && Num.uby u 0 == 45) = true
    · rw [if_pos h]; have := (Bool.and_eq_true_iff.1 h).1; simp at this; omega
    · rw [if_neg h]; omega
  obtain ⟨D, hD⟩ : ∃ D, Hid (F + Num.dAt ((u.take E).drop F) = D) := ⟨_, rfl⟩
  have hFD : F ≤ D := by rw [← hD.out]; omega
  have hDE : D ≤ E := by
    have h1 := Num.dAt_le ((u.take E).drop F)
    rw [List.length_drop, List.length_take] at h1
    have := hD.out; omega
  have HJ : Hid (Num.isJ (Num.U l n wz) = Num.J u E F D) := by
    show _ = _
    rw [← hu.out]; exact Num.isJ_eq u E F D hE.out hF.out hD.out
  have hn2 : n ≤ 1048576 := by omega
  clear hu hL hr hn hl
  go_enter Try.func20, Try.ntmps20
  go_upto_if 17 with fail
  go_cut [7] (fun v w1 => v = .int .i64 S ∧ w = w1)
  case first =>
    have hb := hSn.out
    cases wz with
    | true =>
      have HB : Hid (S = n + 1) := hb
      clear hb hSn HJ
      go_wp2_with fail
      go_meet
      case rel => exact ⟨by have := HB.out; go_num, rfl⟩
    | false =>
      have HB : Hid (S = n) := hb
      clear hb hSn HJ
      go_wp2_with fail
      go_meet
      case rel => exact ⟨by have := HB.out; go_num, rfl⟩
  case rest =>
    obtain ⟨rfl, rfl⟩ := hcut
    clear hSn
    go_upto_block 0 with fail
    go_cut [8] (fun v w1 => v = .int .i64 E ∧ w = w1)
    case first =>
      go_wp2_with fail
      go_loop [8, 9] (fun v8 v => v8 = .int .i64 S ∧ ∃ k : Nat, k ≤ S ∧ v = .int .i64 k ∧ Hid (E = k + Num.eAt (u.drop k))) (fun _ v => S - (intOf v).toNat)
      case atStart => exact ⟨rfl, 0, Nat.zero_le _, rfl, by show _ = _; rw [← hE.out]; simp⟩
      case round =>
        obtain ⟨rfl, k, hk, rfl, hk3⟩ := hrel
        by_cases hlt : k < S
        · have hs := Num.eAt_step u k (by rw [hS.out]; exact hlt)
          cases he : Num.isE (Num.uby u k) with
          | false =>
            have h3 : Hid (E = k + 1 + Num.eAt (u.drop (k + 1))) := by
              have := hk3.out; rw [hs, he] at this; show _ = _; simp at this; omega
            have h101 : (Num.uby u k == 101) = false := by rw [Num.isE] at he; exact (Bool.or_eq_false_iff.1 he).1
            have h69 : (Num.uby u k == 69) = false := by rw [Num.isE] at he; exact (Bool.or_eq_false_iff.1 he).2
            clear hs hk3 he
            go_wp2_with (go_at_call 33; refine (nb_any a L cap l n u _ k _ rfl HL.out HC.out).mono ?_; rintro e w' ⟨rfl, rfl⟩)
            go_round
            case rel => exact ⟨rfl, k + 1, by omega, by go_num, h3⟩
            case measure => simp [intOf]; omega
          | true =>
            have h3 : Hid (k = E) := by
              have := hk3.out; rw [hs, he] at this; show _ = _; simp at this; omega
            have h12 : (Num.uby u k == 101) = true ∨ ((Num.uby u k == 101) = false ∧ (Num.uby u k == 69) = true) := by
              rw [Num.isE] at he
              cases h : (Num.uby u k == 101) with
              | true => exact .inl rfl
              | false => rw [h] at he; exact .inr ⟨rfl, he⟩
            clear hs hk3 he
            rcases h12 with h1 | ⟨h1, h2⟩
            all_goals
              go_wp2_with (go_at_call 33; refine (nb_any a L cap l n u _ k _ rfl HL.out HC.out).mono ?_; rintro e w' ⟨rfl, rfl⟩)
              go_meet
              case rel => exact ⟨by rw [h3.out], rfl⟩
        · have h3 : Hid (S = E) := by
            have := hk3.out; rw [Num.eAt_end u k (by rw [hS.out]; omega)] at this; show _ = _; omega
          clear hk3
          go_wp2_with fail
          go_meet
          case rel => exact ⟨by rw [h3.out], rfl⟩
    case rest =>
      obtain ⟨rfl, rfl⟩ := hcut
      clear hE
      obtain ⟨b, hb⟩ : ∃ b, Hid (b = (decide (E > 0) && Num.uby u 0 == 45)) := ⟨_, rfl⟩
      have hFb : Hid (F = if b then 1 else 0) := by show _ = _; rw [hF.out, hb.out]
      clear hF
      go_upto_region 12 with fail
      go_cut [44] (fun v w1 => v = .bool b ∧ w = w1)
      case first =>
        by_cases h0 : 0 < E
        · cases h45 : (Num.uby u 0 == 45) with
          | true =>
            have hbb : Hid (true = b) := by show _ = _; rw [hb.out, h45]; simp [h0]
            clear hb
            go_wp2_with (go_at_call 33; refine (nb_any a L cap l n u _ 0 _ rfl HL.out HC.out).mono ?_; rintro e w' ⟨rfl, rfl⟩)
            go_meet
            case rel => exact ⟨by rw [← hbb.out], rfl⟩
          | false =>
            have hbb : Hid (false = b) := by show _ = _; rw [hb.out, h45]; simp
            clear hb
            go_wp2_with (go_at_call 33; refine (nb_any a L cap l n u _ 0 _ rfl HL.out HC.out).mono ?_; rintro e w' ⟨rfl, rfl⟩)
            go_meet
            case rel => exact ⟨by rw [← hbb.out], rfl⟩
        · have hbb : Hid (false = b) := by show _ = _; rw [hb.out]; simp [h0]
          clear hb
          go_wp2_with fail
          go_meet
          case rel => exact ⟨by rw [← hbb.out], rfl⟩
      case rest =>
        obtain ⟨rfl, rfl⟩ := hcut
        clear hb
        go_upto_if 44 with fail
        go_cut [11, 44] (fun v v2 w1 => v = .int .i64 F ∧ w = w1)
        case first =>
          have hb := hFb.out
          cases b with
          | true =>
            have HB : Hid (F = 1) := hb
            clear hb hFb
            go_wp2_with fail
            go_meet
            case rel => exact ⟨by rw [HB.out]; rfl, rfl⟩
          | false =>
            have HB : Hid (F = 0) := hb
            clear hb hFb
            go_wp2_with fail
            go_meet
            case rel => exact ⟨by rw [HB.out]; rfl, rfl⟩
        case rest =>
          obtain ⟨rfl, rfl⟩ := hcut
          clear hFb
          go_upto_block 2 with fail
          go_cut [12] (fun v w1 => v = .int .i64 D ∧ w = w1)
          case first =>
            go_wp2_with fail
            go_loop [12, 13] (fun v12 v => v12 = .int .i64 E ∧ ∃ k : Nat, F ≤ k ∧ k ≤ E ∧ v = .int .i64 k ∧ Hid (D = k + Num.dAt ((u.take E).drop k))) (fun _ v => E - (intOf v).toNat)
            case atStart => exact ⟨rfl, F, Nat.le_refl _, hFE, rfl, by show _ = _; rw [← hD.out]⟩
            case round =>
              obtain ⟨rfl, k, hkF, hk, rfl, hk3⟩ := hrel
              by_cases hlt : k < E
              · have hs := Num.dAt_step u k E hlt (by rw [hS.out]; exact hES)
                cases he : Num.isDot (Num.uby u k) with
                | false =>
                  have h3 : Hid (D = k + 1 + Num.dAt ((u.take E).drop (k + 1))) := by
                    have := hk3.out; rw [hs, he] at this; show _ = _; simp at this; omega
                  have h46 : (Num.uby u k == 46) = false := he
                  clear hs hk3 he
                  go_wp2_with (go_at_call 33; refine (nb_any a L cap l n u _ k _ rfl HL.out HC.out).mono ?_; rintro e w' ⟨rfl, rfl⟩)
                  go_round
                  case rel => exact ⟨rfl, k + 1, by omega, by omega, by go_num, h3⟩
                  case measure => simp [intOf]; omega
                | true =>
                  have h3 : Hid (k = D) := by
                    have := hk3.out; rw [hs, he] at this; show _ = _; simp at this; omega
                  have h46 : (Num.uby u k == 46) = true := he
                  clear hs hk3 he
                  go_wp2_with (go_at_call 33; refine (nb_any a L cap l n u _ k _ rfl HL.out HC.out).mono ?_; rintro e w' ⟨rfl, rfl⟩)
                  go_meet
                  case rel => exact ⟨by rw [h3.out], rfl⟩
              · have h3 : Hid (E = D) := by
                  have := hk3.out; rw [Num.dAt_end u k E (by omega)] at this; show _ = _; omega
                clear hk3
                go_wp2_with fail
                go_meet
                case rel => exact ⟨by rw [h3.out], rfl⟩
          case rest =>
            obtain ⟨rfl, rfl⟩ := hcut
            clear hD
            rcases Nat.lt_or_ge F D with hlt | hge
            rotate_left
            · have hfin : Hid (false = Num.isJ (Num.U l n wz)) := by
                show _ = _; rw [HJ.out, J_false1 (by rw [show D = F by omega]; simp)]
              go_wp2_with fail
              go_ret
              exact ⟨ret_bool hfin.out, rfl⟩
            cases hd1 : Num.dOnly u F D with
            | false =>
              have hfin : Hid (false = Num.isJ (Num.U l n wz)) := by
                show _ = _; rw [HJ.out, J_false1 (by rw [hd1]; simp)]
              go_wp2_with (go_at_call 34; refine (digitsOnly_any a L cap l n u _ _ F D _ rfl rfl HL.out hFD (by omega) HC.out).mono ?_; rintro e w' ⟨rfl, rfl⟩)
              go_ret
              exact ⟨ret_bool hfin.out, rfl⟩
            | true =>
              have H1 : Hid ((!(D == F) && Num.dOnly u F D) = true) := by
                show _ = _; rw [hd1]; simp; omega
              obtain ⟨b2, hb2⟩ : ∃ b, Hid (b = (decide (1 < D - F) && Num.uby u F == 48)) := ⟨_, rfl⟩
              go_upto_region 22 with (go_at_call 34; refine (digitsOnly_any a L cap l n u _ _ F D _ rfl rfl HL.out hFD (by omega) HC.out).mono ?_; rintro e w' ⟨rfl, rfl⟩)
              go_cut [79] (fun v w1 => v = .bool b2 ∧ w = w1)
              case first =>
                clear hd1
                by_cases h1 : 1 < D - F
                · cases h48 : (Num.uby u F == 48) with
                  | true =>
                    have hbb : Hid (true = b2) := by show _ = _; rw [hb2.out, h48]; simp [h1]
                    clear hb2
                    go_wp2_with (go_at_call 33; refine (nb_any a L cap l n u _ F _ rfl HL.out HC.out).mono ?_; rintro e w' ⟨rfl, rfl⟩)
                    go_meet
                    case rel => exact ⟨by rw [← hbb.out], rfl⟩
                  | false =>
                    have hbb : Hid (false = b2) := by show _ = _; rw [hb2.out, h48]; simp
                    clear hb2
                    go_wp2_with (go_at_call 33; refine (nb_any a L cap l n u _ F _ rfl HL.out HC.out).mono ?_; rintro e w' ⟨rfl, rfl⟩)
                    go_meet
                    case rel => exact ⟨by rw [← hbb.out], rfl⟩
                · have hbb : Hid (false = b2) := by show _ = _; rw [hb2.out]; simp [h1]
                  have hdd : decide ((1 : Int) < (D : Int) - (F : Int)) = false := by simp; omega
                  clear hb2
                  go_wp2_with fail
                  go_meet
                  case rel => exact ⟨by rw [← hbb.out], rfl⟩
              case rest =>
                clear hd1
                obtain ⟨rfl, rfl⟩ := hcut
                cases b2 with
                | true =>
                  have hfin : Hid (false = Num.isJ (Num.U l n wz)) := by
                    show _ = _; rw [HJ.out, J_false2 hb2.out.symm]
                  go_wp2_with fail
                  go_ret
                  exact ⟨ret_bool hfin.out, rfl⟩
                | false =>
                  have H2 : Hid ((decide (1 < D - F) && Num.uby u F == 48) = false) := hb2.out.symm
                  clear hb2
                  go_upto_if 82 with fail
                  go_cut [] (fun w1 => w = w1 ∧ Hid ((if D < E then !(D + 1 == E) && Num.dOnly u (D + 1) E else true) = true))
                  case first =>
                    rcases Nat.lt_or_ge D E with hde | hde
                    · rcases Nat.lt_or_ge (D + 1) E with hde2 | hde2
                      · cases hd2 : Num.dOnly u (D + 1) E with
                        | false =>
                          have hfin : Hid (false = Num.isJ (Num.U l n wz)) := by
                            show _ = _; rw [HJ.out, J_false3 hde (by rw [hd2]; simp)]
                          go_wp2_with (go_at_call 34; refine (digitsOnly_any a L cap l n u _ _ (D + 1) E _ (by omega) rfl HL.out (by omega) (by omega) HC.out).mono ?_; rintro e w' ⟨rfl, rfl⟩)
                          go_ret
                          exact ⟨ret_bool hfin.out, rfl⟩
                        | true =>
                          have h3 : Hid ((if D < E then !(D + 1 == E) && Num.dOnly u (D + 1) E else true) = true) := by
                            show _ = _; rw [if_pos hde, hd2]; simp; omega
                          go_wp2_with (go_at_call 34; refine (digitsOnly_any a L cap l n u _ _ (D + 1) E _ (by omega) rfl HL.out (by omega) (by omega) HC.out).mono ?_; rintro e w' ⟨rfl, rfl⟩)
                          go_meet
                          case rel => exact ⟨rfl, h3⟩
                      · have hfin : Hid (false = Num.isJ (Num.U l n wz)) := by
                          show _ = _; rw [HJ.out, J_false3 hde (by rw [show D + 1 = E by omega]; simp)]
                        go_wp2_with fail
                        go_ret
                        exact ⟨ret_bool hfin.out, rfl⟩
                    · have h3 : Hid ((if D < E then !(D + 1 == E) && Num.dOnly u (D + 1) E else true) = true) := by
                        show _ = _; rw [if_neg (by omega)]
                      go_wp2_with fail
                      go_meet
                      case rel => exact ⟨rfl, h3⟩
                  case rest =>
                    obtain ⟨rfl, H3⟩ := hcut
                    go_upto_if 98 with fail
                    go_cut [] (fun w1 => w = w1 ∧ Hid ((if E < u.length then Num.pE u (E + 1) else true) = true))
                    case first =>
                      rcases Nat.lt_or_ge E S with hes | hes
                      · obtain ⟨G, hG⟩ : ∃ G : Nat, Hid (G = if decide (E + 1 < u.length) && Num.isS (Num.uby u (E + 1)) then E + 1 + 1 else E + 1) := ⟨if decide (E + 1 < u.length) && Num.isS (Num.uby u (E + 1)) then E + 1 + 1 else E + 1, show _ = _ from rfl⟩
                        have hpE : Hid (Num.pE u (E + 1) = (!(G == u.length) && Num.dOnly u G u.length)) := by
                          show _ = _; unfold Num.pE; rw [hG.out]
                        have hGS : G ≤ S := by
                          have h1 := hG.out
                          rw [hS.out] at h1
                          by_cases hc : (decide (E + 1 < S) && Num.isS (Num.uby u (E + 1))) = true
                          · rw [if_pos hc] at h1; have := (Bool.and_eq_true_iff.1 hc).1; simp at this; omega
                          · rw [if_neg hc] at h1; omega
                        go_upto_if 103 with fail
                        go_cut [14] (fun v w1 => v = .int .i64 G ∧ w = w1)
                        case first =>
                          rcases Nat.lt_or_ge (E + 1) S with h1 | h1
                          · cases hs : Num.isS (Num.uby u (E + 1)) with
                            | true =>
                              have hg : Hid (G = E + 1 + 1) := by
                                show _ = _; rw [hG.out, hs, hS.out]; simp [h1]
                              have h12 : (Num.uby u (E + 1) == 43) = true ∨ ((Num.uby u (E + 1) == 43) = false ∧ (Num.uby u (E + 1) == 45) = true) := by
                                rw [Num.isS] at hs
                                cases h : (Num.uby u (E + 1) == 43) with
                                | true => exact .inl rfl
                                | false => rw [h] at hs; exact .inr ⟨rfl, hs⟩
                              clear hG hs
                              rcases h12 with h43 | ⟨h43, h45⟩
                              all_goals
                                go_wp2_with (go_at_call 33; refine (nb_any a L cap l n u _ (E + 1) _ (by omega) HL.out HC.out).mono ?_; rintro e w' ⟨rfl, rfl⟩)
                                go_meet
                                case rel => exact ⟨by have := hg.out; go_num, rfl⟩
                            | false =>
                              have hg : Hid (G = E + 1) := by
                                show _ = _; rw [hG.out, hs]; simp
                              have h43 : (Num.uby u (E + 1) == 43) = false := by rw [Num.isS] at hs; exact (Bool.or_eq_false_iff.1 hs).1
                              have h45 : (Num.uby u (E + 1) == 45) = false := by rw [Num.isS] at hs; exact (Bool.or_eq_false_iff.1 hs).2
                              clear hG hs
                              go_wp2_with (go_at_call 33; refine (nb_any a L cap l n u _ (E + 1) _ (by omega) HL.out HC.out).mono ?_; rintro e w' ⟨rfl, rfl⟩)
                              go_meet
                              case rel => exact ⟨by have := hg.out; go_num, rfl⟩
                          · have hg : Hid (G = E + 1) := by
                              show _ = _; rw [hG.out, hS.out]; simp [show ¬ E + 1 < S by omega]
                            clear hG
                            go_wp2_with fail
                            go_meet
                            case rel => exact ⟨by have := hg.out; go_num, rfl⟩
                        case rest =>
                          obtain ⟨rfl, rfl⟩ := hcut
                          clear hG
                          rcases Nat.lt_or_ge G S with hgs | hgs
                          · cases hd4 : Num.dOnly u G S with
                            | false =>
                              have hfin : Hid (false = Num.isJ (Num.U l n wz)) := by
                                show _ = _; rw [HJ.out, J_false4 (by rw [hS.out]; exact hes) (by rw [hpE.out, hS.out, hd4]; simp)]
                              clear hpE
                              go_wp2_with (go_at_call 34; refine (digitsOnly_any a L cap l n u _ _ G S _ rfl rfl HL.out hGS (by omega) HC.out).mono ?_; rintro e w' ⟨rfl, rfl⟩)
                              go_ret
                              exact ⟨ret_bool hfin.out, rfl⟩
                            | true =>
                              have h4 : Hid ((if E < u.length then Num.pE u (E + 1) else true) = true) := by
                                show _ = _; rw [if_pos (by rw [hS.out]; exact hes), hpE.out, hS.out, hd4]; simp; omega
                              clear hpE
                              go_wp2_with (go_at_call 34; refine (digitsOnly_any a L cap l n u _ _ G S _ rfl rfl HL.out hGS (by omega) HC.out).mono ?_; rintro e w' ⟨rfl, rfl⟩)
                              go_meet
                              case rel => exact ⟨rfl, h4⟩
                          · have hfin : Hid (false = Num.isJ (Num.U l n wz)) := by
                              show _ = _; rw [HJ.out, J_false4 (by rw [hS.out]; exact hes) (by rw [hpE.out, hS.out, show G = S by omega]; simp)]
                            clear hpE
                            go_wp2_with fail
                            go_ret
                            exact ⟨ret_bool hfin.out, rfl⟩
                      · have h4 : Hid ((if E < u.length then Num.pE u (E + 1) else true) = true) := by
                          show _ = _; rw [if_neg (by rw [hS.out]; omega)]
                        go_wp2_with fail
                        go_meet
                        case rel => exact ⟨rfl, h4⟩
                    case rest =>
                      obtain ⟨rfl, H4⟩ := hcut
                      have hfin : Hid (true = Num.isJ (Num.U l n wz)) := by
                        show _ = _; rw [HJ.out, J_true H1.out H2.out H3.out H4.out]
                      go_wp2_with fail
                      go_ret
                      exact ⟨ret_bool hfin.out, rfl⟩

end Go.Proofs.Qxb6617848a
