/-
  THE WALK OF readNumber: four cuts: behind the minus, the integer, the fraction, the exponent.
-/
import Derived.Test.Qxb6604230aWalkNum
import Derived.Deep.CutRange
namespace Go.Proofs.Qxb6604230a
open Go.RowKit Pl

theorem one_byte {w : World} {b off k : Nat} {zs : List Int} (hbd : ∀ j : Nat, 0 ≤ zs[j]?.getD 0 ∧ zs[j]?.getD 0 ≤ 255) (hc : ∀ j, j < zs.length → w.cell? ⟨b, off + j, none⟩ = some (.int .u8 (zs.getD j 0))) (h : k < zs.length) :
    ∃ c : Int, w.cell? ⟨b, off + k, none⟩ = some (.int .u8 c) ∧ 0 ≤ c ∧ c ≤ 255 ∧ Hid (zs[k]?.getD 0 = c) := ⟨_, hc k h, (hbd k).1, (hbd k).2, rfl⟩

set_option maxRecDepth 100000 in
set_option maxHeartbeats 2000000 in
theorem readNumber_some (b off cap k0 : Nat) (zs : List Int) (w : World) (hmx : zs.length ≤ 1048576) (hbd : ∀ j : Nat, 0 ≤ zs[j]?.getD 0 ∧ zs[j]?.getD 0 ≤ 255) (hc : ∀ j, j < zs.length → w.cell? ⟨b, off + j, none⟩ = some (.int .u8 (zs.getD j 0))) :
    Calls Try.prog 24 #[.slice (some ⟨b, off, none⟩) zs.length cap, .int .i64 k0] w fun e w' => e = .returned (.tuple #[.int .i64 ((sh k0 (rn (zs.drop k0))).1 : Int), .bool (sh k0 (rn (zs.drop k0))).2]) ∧ w' = w := by
  obtain ⟨T, HT⟩ : ∃ T, Hid (sh k0 (rn (zs.drop k0)) = T) := ⟨_, rfl⟩
  rw [HT.out]
  have HBD : Hid (∀ j : Nat, 0 ≤ zs[j]?.getD 0 ∧ zs[j]?.getD 0 ≤ 255) := hbd
  have HC : Hid (∀ j, j < zs.length → w.cell? ⟨b, off + j, none⟩ = some (.int .u8 (zs.getD j 0))) := hc
  clear hbd hc
  go_enter Try.func24, Try.ntmps24
  iterate 13 go_step
  go_cut [1] from 8 (fun v wx => ∃ k : Nat, v = .int .i64 k ∧ Hid (sh k (rnI (zs.drop k)) = T) ∧ wx = w)
  case first =>
    by_cases hlt : k0 < zs.length
    · obtain ⟨c, hcx, hb0, hb1, HE⟩ := one_byte HBD.out HC.out hlt
      by_cases h1 : c = 45
      · have h1b : (c == 45) = true := beq_iff_eq.2 h1
        have H2 : Hid (sh (k0 + 1) (rnI (zs.drop (k0 + 1))) = T) := by show _ = _; rw [← st_minus hlt (by rw [HE.out, h1])]; exact HT.out
        clear h1
        go_wp2
        go_meet
        case rel => exact ⟨k0 + 1, by go_num, H2, rfl⟩
      · have h1b : (c == 45) = false := beq_eq_false_iff_ne.2 h1
        have H2 : Hid (sh k0 (rnI (zs.drop k0)) = T) := by show _ = _; rw [← st_nominus hlt (by rw [HE.out]; exact h1)]; exact HT.out
        clear h1
        go_wp2
        go_meet
        case rel => exact ⟨k0, rfl, H2, rfl⟩
    · have h3 : decide ((k0 : Int) < zs.length) = false := by simp; omega
      have H2 : Hid (sh k0 (rnI (zs.drop k0)) = T) := by show _ = _; rw [← st_end0 hlt]; exact HT.out
      go_wp2
      go_meet
      case rel => exact ⟨k0, rfl, H2, rfl⟩
  case rest =>
    clear HT
    obtain ⟨k, rfl, HT, rfl⟩ := hcut
    iterate 2 go_step
    go_cut [1] from 8 (fun v wx => ∃ k : Nat, v = .int .i64 k ∧ Hid (sh k (rnF (zs.drop k)) = T) ∧ wx = wc)
    case first =>
      by_cases hlt : k < zs.length
      · obtain ⟨c, hcx, hb0, hb1, HE⟩ := one_byte HBD.out HC.out hlt
        by_cases h1 : c = 48
        · have h1b : (c == 48) = true := beq_iff_eq.2 h1
          have H2 : Hid (sh (k + 1) (rnF (zs.drop (k + 1))) = T) := by show _ = _; rw [← st_zero hlt (by rw [HE.out, h1])]; exact HT.out
          clear h1
          go_wp2
          go_meet
          case rel => exact ⟨k + 1, by go_num, H2, rfl⟩
        · have h1b : (c == 48) = false := beq_eq_false_iff_ne.2 h1
          by_cases h2 : 49 ≤ c
          · by_cases h4 : c ≤ 57
            · go_wp2_with (go_at_call 30; refine (digitsEnd_ex b off cap k _ zs _ rfl hmx HBD.out HC.out).mono ?_; rintro e w1 ⟨m, rfl, HM, hm1, hm2, rfl⟩)
              go_meet
              case rel => exact ⟨m, rfl, by show _ = _; rw [← st_digits hlt (by rw [HE.out]; exact h2) (by rw [HE.out]; exact h4) HM.out]; exact HT.out, rfl⟩
            · have h4b : decide (c ≤ 57) = false := by simpa using h4
              have e : T = (k, false) := by rw [← HT.out, st_bad hlt (by rw [HE.out]; omega)]
              have HE2 : Hid (T = (k, false)) := e
              clear e
              go_wp2
              go_ret2
              rw [HE2.out]
              exact ⟨rfl, rfl⟩
          · have h2b : decide (49 ≤ c) = false := by simpa using h2
            have e : T = (k, false) := by rw [← HT.out, st_bad hlt (by rw [HE.out]; omega)]
            have HE2 : Hid (T = (k, false)) := e
            clear e
            go_wp2
            go_ret2
            rw [HE2.out]
            exact ⟨rfl, rfl⟩
      · have h3 : decide ((k : Int) < zs.length) = false := by simp; omega
        have e : T = (k, false) := by rw [← HT.out, st_end1 hlt]
        have HE2 : Hid (T = (k, false)) := e
        clear e
        go_wp2
        go_ret2
        rw [HE2.out]
        exact ⟨rfl, rfl⟩
    case rest =>
      clear HT
      obtain ⟨k, rfl, HT, rfl⟩ := hcut
      iterate 2 go_step
      go_cut [1] from 8 (fun v wx => ∃ k : Nat, v = .int .i64 k ∧ Hid (sh k (rnE (zs.drop k)) = T) ∧ wx = wc)
      case first =>
        by_cases hlt : k < zs.length
        · obtain ⟨c, hcx, hb0, hb1, HE⟩ := one_byte HBD.out HC.out hlt
          by_cases h1 : c = 46
          · have h1b : (c == 46) = true := beq_iff_eq.2 h1
            have HE1 : Hid (zs[k]?.getD 0 = 46) := by show _ = _; rw [HE.out, h1]
            clear h1
            go_wp2_with (go_at_call 30; refine (digitsEnd_ex b off cap (k + 1) _ zs _ (by omega) hmx HBD.out HC.out).mono ?_; rintro e w1 ⟨m, rfl, HM, hm1, hm2, rfl⟩)
            · have e : m = k + 1 := by have h := beq_iff_eq.1 (show ((m : Int) == (k : Int) + 1) = true by assumption); omega
              have HE2 : Hid (T = (m, false)) := by show _ = _; rw [← HT.out, st_dot0 hlt HE1.out HM.out e]
              clear e
              go_ret2
              rw [HE2.out]
              exact ⟨rfl, rfl⟩
            · have e : ¬ m = k + 1 := by have h := beq_eq_false_iff_ne.1 (show ((m : Int) == (k : Int) + 1) = false by assumption); omega
              go_meet
              case rel => exact ⟨m, rfl, by show _ = _; rw [← st_dot hlt HE1.out HM.out e]; exact HT.out, rfl⟩
          · have h1b : (c == 46) = false := beq_eq_false_iff_ne.2 h1
            have H2 : Hid (sh k (rnE (zs.drop k)) = T) := by show _ = _; rw [← st_nodot hlt (by rw [HE.out]; exact h1)]; exact HT.out
            clear h1
            go_wp2
            go_meet
            case rel => exact ⟨k, rfl, H2, rfl⟩
        · have h3 : decide ((k : Int) < zs.length) = false := by simp; omega
          have H2 : Hid (sh k (rnE (zs.drop k)) = T) := by show _ = _; rw [← st_end2 hlt]; exact HT.out
          go_wp2
          go_meet
          case rel => exact ⟨k, rfl, H2, rfl⟩
      case rest =>
        clear HT
        obtain ⟨k, rfl, HT, rfl⟩ := hcut
        by_cases hlt : k < zs.length
        · obtain ⟨c, hcx, hb0, hb1, HE⟩ := one_byte HBD.out HC.out hlt
          by_cases h1 : c = 101 ∨ c = 69
          · have H2 : Hid (sh (k + 1) (rnE1 (zs.drop (k + 1))) = T) := by show _ = _; rw [← st_e hlt (by rw [HE.out]; exact h1)]; exact HT.out
            have hor : (c == 101) = true ∨ ((c == 101) = false ∧ (c == 69) = true) := by
              by_cases h : c = 101
              · exact .inl (beq_iff_eq.2 h)
              · exact .inr ⟨beq_eq_false_iff_ne.2 h, beq_iff_eq.2 (by omega)⟩
            clear h1 HT HE
            by_cases hlt2 : k + 1 < zs.length
            · obtain ⟨c2, hcx2, hd0, hd1, HE3⟩ := one_byte HBD.out HC.out hlt2
              by_cases h5 : c2 = 43 ∨ c2 = 45
              · have H3 : Hid (sh (k + 1 + 1) (rnE2 (zs.drop (k + 1 + 1))) = T) := by show _ = _; rw [← st_sign hlt2 (by rw [HE3.out]; exact h5)]; exact H2.out
                have hor2 : (c2 == 43) = true ∨ ((c2 == 43) = false ∧ (c2 == 45) = true) := by
                  by_cases h : c2 = 43
                  · exact .inl (beq_iff_eq.2 h)
                  · exact .inr ⟨beq_eq_false_iff_ne.2 h, beq_iff_eq.2 (by omega)⟩
                clear h5 H2 HE3
                rcases hor with he | ⟨he, he2⟩ <;> rcases hor2 with hf | ⟨hf, hf2⟩
                all_goals
                  go_wp2_with (go_at_call 30; refine (digitsEnd_ex b off cap (k + 1 + 1) _ zs _ (by omega) hmx HBD.out HC.out).mono ?_; rintro e w1 ⟨m, rfl, HM, hm1, hm2, rfl⟩)
                  · have e : m = k + 1 + 1 := by have h := beq_iff_eq.1 (show ((m : Int) == (k : Int) + 1 + 1) = true by assumption); omega
                    have HE2 : Hid (T = (m, false)) := by show _ = _; rw [← H3.out, st_last0 HM.out e]
                    clear e
                    go_ret2
                    rw [HE2.out]
                    exact ⟨rfl, rfl⟩
                  · have e : ¬ m = k + 1 + 1 := by have h := beq_eq_false_iff_ne.1 (show ((m : Int) == (k : Int) + 1 + 1) = false by assumption); omega
                    have HE2 : Hid (T = (m, true)) := by show _ = _; rw [← H3.out, st_last HM.out e]
                    clear e
                    go_ret2
                    rw [HE2.out]
                    exact ⟨rfl, rfl⟩
              · have hf : (c2 == 43) = false := beq_eq_false_iff_ne.2 (by omega)
                have hf2 : (c2 == 45) = false := beq_eq_false_iff_ne.2 (by omega)
                have H3 : Hid (sh (k + 1) (rnE2 (zs.drop (k + 1))) = T) := by show _ = _; rw [← st_nosign hlt2 (by rw [HE3.out]; exact h5)]; exact H2.out
                clear h5 H2 HE3
                rcases hor with he | ⟨he, he2⟩
                all_goals
                  go_wp2_with (go_at_call 30; refine (digitsEnd_ex b off cap (k + 1) _ zs _ (by omega) hmx HBD.out HC.out).mono ?_; rintro e w1 ⟨m, rfl, HM, hm1, hm2, rfl⟩)
                  · have e : m = k + 1 := by have h := beq_iff_eq.1 (show ((m : Int) == (k : Int) + 1) = true by assumption); omega
                    have HE2 : Hid (T = (m, false)) := by show _ = _; rw [← H3.out, st_last0 HM.out e]
                    clear e
                    go_ret2
                    rw [HE2.out]
                    exact ⟨rfl, rfl⟩
                  · have e : ¬ m = k + 1 := by have h := beq_eq_false_iff_ne.1 (show ((m : Int) == (k : Int) + 1) = false by assumption); omega
                    have HE2 : Hid (T = (m, true)) := by show _ = _; rw [← H3.out, st_last HM.out e]
                    clear e
                    go_ret2
                    rw [HE2.out]
                    exact ⟨rfl, rfl⟩
            · have h3 : decide ((k : Int) + 1 < zs.length) = false := by simp; omega
              have H3 : Hid (sh (k + 1) (rnE2 (zs.drop (k + 1))) = T) := by show _ = _; rw [← st_end4 hlt2]; exact H2.out
              clear H2
              rcases hor with he | ⟨he, he2⟩
              all_goals
                go_wp2_with (go_at_call 30; refine (digitsEnd_ex b off cap (k + 1) _ zs _ (by omega) hmx HBD.out HC.out).mono ?_; rintro e w1 ⟨m, rfl, HM, hm1, hm2, rfl⟩)
                · have e : m = k + 1 := by have h := beq_iff_eq.1 (show ((m : Int) == (k : Int) + 1) = true by assumption); omega
                  have HE2 : Hid (T = (m, false)) := by show _ = _; rw [← H3.out, st_last0 HM.out e]
                  clear e
                  go_ret2
                  rw [HE2.out]
                  exact ⟨rfl, rfl⟩
          · have h1b : (c == 101) = false := beq_eq_false_iff_ne.2 (by omega)
            have h1c : (c == 69) = false := beq_eq_false_iff_ne.2 (by omega)
            have HE2 : Hid (T = (k, true)) := by show _ = _; rw [← HT.out, st_noe hlt (by rw [HE.out]; exact h1)]
            clear h1
            go_wp2
            go_ret2
            rw [HE2.out]
            exact ⟨rfl, rfl⟩
        · have h3 : decide ((k : Int) < zs.length) = false := by simp; omega
          have HE2 : Hid (T = (k, true)) := by show _ = _; rw [← HT.out, st_end3 hlt]
          go_wp2
          go_ret2
          rw [HE2.out]
          exact ⟨rfl, rfl⟩

set_option maxRecDepth 100000 in
set_option maxHeartbeats 400000 in
theorem readNumber_none (a : Option Addr) (cap k0 : Nat) (w : World) :
    Calls Try.prog 24 #[.slice a 0 cap, .int .i64 k0] w fun e w' => e = .returned (.tuple #[.int .i64 (k0 : Int), .bool false]) ∧ w' = w := by
  have h3 : decide ((k0 : Int) < 0) = false := by simp
  go_enter Try.func24, Try.ntmps24
  go_wp2
  go_ret2
  exact ⟨rfl, rfl⟩

/-- THE CONTRACT OF readNumber -/
theorem readNumber_any (a : Option Addr) (n cap : Nat) (i : Int) (k : Nat) (zs : List Int) (w : World) (hn : n = zs.length) (hi : i = k) (hmx : n ≤ 1048576) (hr : RD w a zs) :
    Calls Try.prog 24 #[.slice a n cap, .int .i64 i] w fun e w' => e = .returned (.tuple #[.int .i64 ((sh k (rn (zs.drop k))).1 : Int), .bool (sh k (rn (zs.drop k))).2]) ∧ w' = w := by
  subst hi; subst hn
  rcases hr.2 with rfl | ⟨b, off, rfl, hc⟩
  · have e : sh k (rn (([] : List Int).drop k)) = (k, false) := by simp [rn, sh]
    rw [e]
    exact readNumber_none a cap k w
  · exact readNumber_some b off cap k zs w hmx hr.1 hc

set_option maxHeartbeats 400000 in
theorem ZZreadNumber_any (a : Option Addr) (n cap : Nat) (i : Int) (k : Nat) (zs : List Int) (w : World) (hn : n = zs.length) (hi : i = k) (hmx : n ≤ 1048576) (hr : RD w a zs) :
    Calls Try.prog 11 #[.slice a n cap, .int .i64 i] w fun e w' => e = .returned (.tuple #[.int .i64 ((sh k (rn (zs.drop k))).1 : Int), .bool (sh k (rn (zs.drop k))).2]) ∧ w' = w := by
  obtain ⟨T, HT⟩ : ∃ T, Hid (sh k (rn (zs.drop k)) = T) := ⟨_, rfl⟩
  have h24 := readNumber_any a n cap i k zs w hn hi hmx hr
  rw [HT.out] at h24 ⊢
  have H24 : Hid (Calls Try.prog 24 #[.slice a n cap, .int .i64 i] w fun e w' => e = .returned (.tuple #[.int .i64 (T.1 : Int), .bool T.2]) ∧ w' = w) := h24
  clear h24 hi hn hr
  go_enter Try.func11, Try.ntmps11
  go_wp2_with (go_at_call 24; refine H24.out.mono ?_; rintro e w' ⟨rfl, rfl⟩)
  go_ret2
  exact ⟨rfl, rfl⟩
end Go.Proofs.Qxb6604230a
