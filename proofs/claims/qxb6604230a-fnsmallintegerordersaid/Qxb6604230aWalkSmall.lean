/-
  THE WALKS OF zzAllDigits AND FnSmallIntegerSpec.
-/
import Derived.Test.Qxb6604230aWalkInt2
import Derived.Deep.CutRange
namespace Go.Proofs.Qxb6604230a
open Go.RowKit Pl

theorem allD_drop {zs : List Int} {k : Nat} (h : k < zs.length) : allD (zs.drop k) = (isd (zs[k]?.getD 0) && allD (zs.drop (k + 1))) := by
  rw [drop_cons h]; rfl

set_option maxHeartbeats 400000 in
theorem allDigits_some (b off cap : Nat) (zs : List Int) (w : World) (hmx : zs.length ≤ 1048576) (hbd : ∀ j : Nat, 0 ≤ zs[j]?.getD 0 ∧ zs[j]?.getD 0 ≤ 255) (hc : ∀ j, j < zs.length → w.cell? ⟨b, off + j, none⟩ = some (.int .u8 (zs.getD j 0))) :
    Calls Try.prog 20 #[.slice (some ⟨b, off, none⟩) zs.length cap] w fun e w' => e = .returned (.bool (allD zs)) ∧ w' = w := by
  obtain ⟨T, HT⟩ : ∃ T, Hid (T = allD zs) := ⟨_, rfl⟩
  rw [← HT.out]
  go_enter Try.func20, Try.ntmps20
  go_wp2
  go_loop [3] (fun i => ∃ k : Nat, i = .int .i64 k ∧ k ≤ zs.length ∧ Hid (T = allD (zs.drop k))) (fun i => zs.length - (intOf i).toNat)
  case atStart => exact ⟨0, rfl, by omega, HT⟩
  case round =>
    obtain ⟨k, rfl, hk, H⟩ := hrel
    clear HT
    by_cases hlt : k < zs.length
    · obtain ⟨c, hcx, hb0, hb1, HC⟩ : ∃ c : Int, w.cell? ⟨b, off + k, none⟩ = some (.int .u8 c) ∧ 0 ≤ c ∧ c ≤ 255 ∧ Hid (zs[k]?.getD 0 = c) := ⟨_, hc k hlt, (hbd k).1, (hbd k).2, rfl⟩
      have H2 : Hid (T = (isd c && allD (zs.drop (k + 1)))) := by show _ = _; rw [← HC.out, ← allD_drop hlt]; exact H.out
      clear hc hbd H
      by_cases h1 : c < 48
      · have h1b : decide (c < 48) = true := by simpa using h1
        have HE : Hid (T = false) := by show _ = _; rw [H2.out, isd_no (.inl h1)]; rfl
        clear H2
        go_wp2
        go_ret
        rw [HE.out]
        exact ⟨rfl, rfl⟩
      · have h1b : decide (c < 48) = false := by simpa using h1
        by_cases h2 : 57 < c
        · have h2b : decide (57 < c) = true := by simpa using h2
          have HE : Hid (T = false) := by show _ = _; rw [H2.out, isd_no (.inr h2)]; rfl
          clear H2
          go_wp2
          go_ret
          rw [HE.out]
          exact ⟨rfl, rfl⟩
        · have h2b : decide (57 < c) = false := by simpa using h2
          have H3 : Hid (T = allD (zs.drop (k + 1))) := by show _ = _; rw [H2.out, isd_yes (by omega) (by omega)]; rfl
          clear H2
          go_wp2
          go_round
          case rel => exact ⟨k + 1, by go_num, by omega, H3⟩
          case measure => simp [intOf]; omega
    · have HE : Hid (T = true) := by show _ = _; rw [H.out, drop_none hlt]; rfl
      go_wp2
      go_ret
      rw [HE.out]
      exact ⟨rfl, rfl⟩

set_option maxHeartbeats 400000 in
theorem allDigits_none (a : Option Addr) (cap : Nat) (w : World) :
    Calls Try.prog 20 #[.slice a 0 cap] w fun e w' => e = .returned (.bool true) ∧ w' = w := by
  go_enter Try.func20, Try.ntmps20
  go_wp2
  refine wp_loop_rounds 1 ?_
  rw [rounds_succ]
  go_wp2
  go_ret
  exact ⟨rfl, rfl⟩

theorem allDigits_any (a : Option Addr) (n cap : Nat) (zs : List Int) (w : World) (hn : n = zs.length) (hmx : n ≤ 1048576) (hr : RD w a zs) :
    Calls Try.prog 20 #[.slice a n cap] w fun e w' => e = .returned (.bool (allD zs)) ∧ w' = w := by
  subst hn
  rcases hr.2 with rfl | ⟨b, off, rfl, hc⟩
  · exact allDigits_none a cap w
  · exact allDigits_some b off cap zs w hmx hr.1 hc

set_option maxRecDepth 100000 in
set_option maxHeartbeats 2000000 in
theorem small_in (a1 : Option Addr) (n1 c1 : Nat) (ts : List Int) (w : World) (g1 : Good w a1 n1 c1 ts) (h1 : n1 ≤ 1048576) :
    Calls Try.prog 7 #[.slice a1 n1 c1] w fun e w' => e = .returned (.bool true) ∧ Below w.heap.size w w' := by
  obtain rfl := g1.1
  have hneq := fun wx => run_neq_slice_nil_any (P := Try.prog) wx 22 5 a1 ts.length c1 0 0 Try.underlying22
  have G1 : Hid (Good w a1 ts.length c1 ts) := g1
  clear g1
  go_enter Try.func7, Try.ntmps7
  go_upto_if 15 with (go_in)
  go_cut [0] from 8 (fun v wx => ∃ a c, v = .slice a ts.length c ∧ Hid (Good wx a ts.length c ts) ∧ Below w.heap.size w wx)
  case first =>
    cases a1 with
    | some x =>
      go_wp2_with (first
        | (at_make; refine wpList_mk _ rfl _ _ rfl _ _ ts.length rfl rfl rfl rfl (by omega) ?_; intro w3 HG3 hB3)
        | ((with_reducible refine at_copy ?_); refine wpList_cp _ rfl _ _ rfl _ _ _ _ _ ts rfl rfl HG3 G1.out.1 G1.out.1 (show Hid (RD w3 (some x) ts) from G1.out.2.1.later hB3) ?_; intro w4 HR4 hB4))
      go_meet
      case rel => exact ⟨_, _, rfl, Good.own HR4.out G1.out.1 (by omega), hB3.trans hB4⟩
    | none =>
      go_wp2
      go_meet
      case rel => exact ⟨_, _, rfl, G1, Below.refl _ _⟩
  case rest =>
    obtain ⟨a, c, rfl, GT, hbw⟩ := hcut
    clear G1 hneq
    by_cases hz : ts.length = 0
    · have hzb : ((ts.length : Int) == 0) = true := beq_iff_eq.2 (by omega)
      have HS : Hid (si ts = (0, false)) := si_no _ (.inl hz)
      clear hz
      go_wp2_with fail
      refine (ZZsmallInteger_any a _ c ts _ rfl (by omega) GT.out.2.1).mono ?_
      rintro e w5 ⟨rfl, rfl⟩
      simp only [HS.out]
      go_wp2_with fail
      go_ret
      exact ⟨rfl, hbw⟩
    · have hzb : ((ts.length : Int) == 0) = false := beq_eq_false_iff_ne.2 (by omega)
      by_cases hl : 15 < ts.length
      · have hlb : decide (15 < (ts.length : Int)) = true := decide_eq_true (by omega)
        have HS : Hid (si ts = (0, false)) := si_no _ (.inr (.inl hl))
        go_wp2_with fail
        refine (ZZsmallInteger_any a _ c ts _ rfl (by omega) GT.out.2.1).mono ?_
        rintro e w5 ⟨rfl, rfl⟩
        simp only [HS.out]
        go_wp2_with fail
        go_ret
        exact ⟨rfl, hbw⟩
      · have hlb : decide (15 < (ts.length : Int)) = false := decide_eq_false (by omega)
        cases had : allD ts with
        | false =>
          have HS : Hid (si ts = (0, false)) := si_no _ (.inr (.inr had))
          have HA : Hid (allD ts = false) := had
          clear had
          go_wp2_with fail
          refine (ZZsmallInteger_any a _ c ts _ rfl (by omega) GT.out.2.1).mono ?_
          rintro e w5 ⟨rfl, rfl⟩
          simp only [HS.out]
          go_wp2_with fail
          refine (allDigits_any a _ c ts _ rfl (by omega) GT.out.2.1).mono ?_
          rintro e w6 ⟨rfl, rfl⟩
          simp only [HA.out]
          go_wp2_with fail
          go_ret
          exact ⟨rfl, hbw⟩
        | true =>
          have HS : Hid (si ts = (num ts, true)) := si_yes _ hz (by omega) had
          have HA : Hid (allD ts = true) := had
          have hnb := num_15 ts had (by omega)
          obtain ⟨hn0, hn1⟩ := hnb
          have hnb : decide (num ts < 0) = false := decide_eq_false (by omega)
          obtain ⟨b, off, hao, hc⟩ := GT.out.2.1.2.resolve_left (by rintro rfl; simp at hz)
          have HC : Hid (∀ j, j < ts.length → wc.cell? ⟨b, off + j, none⟩ = some (.int .u8 (ts.getD j 0))) := hc
          subst hao
          clear had hc
          go_wp2_with fail
          refine (ZZsmallInteger_any _ _ c ts _ rfl (by omega) GT.out.2.1).mono ?_
          rintro e w5 ⟨rfl, rfl⟩
          simp only [HS.out]
          go_wp2_with fail
          refine (allDigits_any _ _ c ts _ rfl (by omega) GT.out.2.1).mono ?_
          rintro e w6 ⟨rfl, rfl⟩
          simp only [HA.out]
          go_wp2_with fail
          go_loop [6, 7] (fun m j => ∃ (k : Nat) (M : Int), k ≤ ts.length ∧ j = .int .i64 ((k : Int) - 1) ∧ m = .int .i64 M ∧ Hid (M = num (ts.take k))) (fun _ j => (intOf j + 1).toNat)
          case atStart => exact ⟨ts.length, num ts, Nat.le_refl _, rfl, rfl, by show _ = _; rw [List.take_length]⟩
          case round =>
            obtain ⟨k, M, hk, rfl, rfl, HM⟩ := hrel
            cases k with
            | zero =>
              have hm : (M == 0) = true := by rw [HM.out]; rfl
              go_wp2
              go_ret
              exact ⟨rfl, hbw⟩
            | succ q =>
              have hld := last_digit ts q (by omega) HA.out
              have hb := num_15 (ts.take (q + 1)) (allD_take ts (q + 1) HA.out) (by simp; omega)
              rw [← HM.out] at hld hb
              obtain ⟨hb0, hb1⟩ := hb
              have hcx : w6.cell? ⟨b, off + q, none⟩ = some (.int .u8 (48 + M % 10)) := by rw [hld.1]; exact HC.out q (by omega)
              have HN : Hid (M / 10 = num (ts.take q)) := hld.2
              have hq : ((q + 1 : Nat) : Int) - 1 = (q : Int) := by omega
              clear hld HM
              rw [hq]
              go_wp2
              go_round
              case rel => exact ⟨q, M / 10, by omega, rfl, rfl, HN⟩
              case measure => simp [intOf]

set_option maxRecDepth 100000 in
set_option maxHeartbeats 2000000 in
theorem small_any (a1 : Option Addr) (n1 c1 : Nat) (ts : List Int) (w : World) (g1 : Good w a1 n1 c1 ts) :
    Calls Try.prog 7 #[.slice a1 n1 c1] w fun e w' => e = .returned (.bool true) ∧ Below w.heap.size w w' := by
  by_cases h : 1048576 < n1
  · have b1 := g1.2.2.2
    clear g1
    go_enter Try.func7, Try.ntmps7
    go_wp2
    all_goals
      go_ret
      exact ⟨rfl, Below.refl _ _⟩
  · exact small_in a1 n1 c1 ts w g1 (by omega)
end Go.Proofs.Qxb6604230a
