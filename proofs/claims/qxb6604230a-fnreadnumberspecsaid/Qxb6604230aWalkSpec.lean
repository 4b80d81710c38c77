/-
  THE WALKS OF zzNumStep, zzNumAccepting, zzModelReadNumber AND FnReadNumberSpec.
-/
import Derived.Test.Qxb6604230aWalkNum2
namespace Go.Proofs.Qxb6604230a
open Go.RowKit Pl

theorem ret_num {a b : Int} (h : a = b) : Ending.returned (.int .i64 a) = .returned (.int .i64 b) := by rw [h]
theorem isd_iff (c : Int) : (isd c = true) = (48 ≤ c ∧ c ≤ 57) := by simp [isd]

set_option maxRecDepth 100000 in
set_option maxHeartbeats 2000000 in
theorem numStep_any (st c : Int) (w : World) (h0 : 0 ≤ st) (h1 : st ≤ 8) (hc0 : 0 ≤ c) (hc1 : c ≤ 255) :
    Calls Try.prog 25 #[.int .i64 st, .int .u8 c] w fun e w' => e = .returned (.int .i64 (stp st c)) ∧ w' = w := by
  have hst : st = 0 ∨ st = 1 ∨ st = 2 ∨ st = 3 ∨ st = 4 ∨ st = 5 ∨ st = 6 ∨ st = 7 ∨ st = 8 := by omega
  clear h0 h1
  obtain ⟨S, HS⟩ : ∃ S, Hid (S = stp st c) := ⟨_, rfl⟩
  rw [← HS.out]
  rcases hst with rfl | rfl | rfl | rfl | rfl | rfl | rfl | rfl | rfl
  all_goals
    go_enter Try.func25, Try.ntmps25
    go_wp2
    all_goals
      go_ret
      refine ⟨ret_num ?_, rfl⟩
      have hS := HS.out
      simp only [stp, isd_iff] at hS
      try simp only [beq_iff_eq, beq_eq_false_iff_ne, ne_eq] at *
      clear HS
      rw [hS]
      clear hS
      try simp
      repeat' split
      all_goals omega

set_option maxHeartbeats 400000 in
theorem accepting_any (st : Int) (w : World) (h0 : 0 ≤ st) (h1 : st ≤ 8) :
    Calls Try.prog 26 #[.int .i64 st] w fun e w' => e = .returned (.bool (acc st)) ∧ w' = w := by
  have hst : st = 0 ∨ st = 1 ∨ st = 2 ∨ st = 3 ∨ st = 4 ∨ st = 5 ∨ st = 6 ∨ st = 7 ∨ st = 8 := by omega
  clear h0 h1
  rcases hst with rfl | rfl | rfl | rfl | rfl | rfl | rfl | rfl | rfl
  all_goals
    go_enter Try.func26, Try.ntmps26
    go_wp2
    go_ret
    exact ⟨rfl, rfl⟩

theorem am_step {zs : List Int} {k : Nat} (st : Int) (h : k < zs.length) : sh k (am st (zs.drop k)) = if stp st (zs[k]?.getD 0) < 0 then (k, acc st) else sh (k + 1) (am (stp st (zs[k]?.getD 0)) (zs.drop (k + 1))) := by
  rw [drop_cons h]
  simp only [am]
  split
  · rfl
  · rw [sh_sh]
theorem am_end {zs : List Int} {k : Nat} (st : Int) (h : ¬ k < zs.length) : sh k (am st (zs.drop k)) = (k, acc st) := by
  rw [drop_none h]; rfl

set_option maxRecDepth 100000 in
set_option maxHeartbeats 1000000 in
theorem model_some (b off cap k0 : Nat) (zs : List Int) (w : World) (hmx : zs.length ≤ 1048576) (hbd : ∀ j : Nat, 0 ≤ zs[j]?.getD 0 ∧ zs[j]?.getD 0 ≤ 255) (hc : ∀ j, j < zs.length → w.cell? ⟨b, off + j, none⟩ = some (.int .u8 (zs.getD j 0))) :
    Calls Try.prog 12 #[.slice (some ⟨b, off, none⟩) zs.length cap, .int .i64 k0] w fun e w' => e = .returned (.tuple #[.int .i64 ((sh k0 (am 0 (zs.drop k0))).1 : Int), .bool (sh k0 (am 0 (zs.drop k0))).2]) ∧ w' = w := by
  obtain ⟨T, HT⟩ : ∃ T, Hid (sh k0 (am 0 (zs.drop k0)) = T) := ⟨_, rfl⟩
  rw [HT.out]
  have HBD : Hid (∀ j : Nat, 0 ≤ zs[j]?.getD 0 ∧ zs[j]?.getD 0 ≤ 255) := hbd
  have HC : Hid (∀ j, j < zs.length → w.cell? ⟨b, off + j, none⟩ = some (.int .u8 (zs.getD j 0))) := hc
  clear hbd hc
  go_enter Try.func12, Try.ntmps12
  go_wp2_with fail
  go_loop [6, 7, 8] (fun s i _ => ∃ (st : Int) (k : Nat), 0 ≤ st ∧ st ≤ 8 ∧ s = .int .i64 st ∧ i = .int .i64 k ∧ Hid (sh k (am st (zs.drop k)) = T)) (fun _ i _ => zs.length - (intOf i).toNat)
  case atStart => exact ⟨0, k0, by omega, by omega, rfl, rfl, HT⟩
  case round =>
    obtain ⟨st, k, hs0, hs1, rfl, rfl, H⟩ := hrel
    clear HT
    by_cases hlt : k < zs.length
    · obtain ⟨c, hcx, hb0, hb1, HE⟩ := one_byte HBD.out HC.out hlt
      have hst := am_step st hlt
      rw [HE.out, H.out] at hst
      have hx0 := stp_lo st c
      have hx1 := stp_hi st c
      obtain ⟨S, HSt⟩ : ∃ S, Hid (stp st c = S) := ⟨_, rfl⟩
      rw [HSt.out] at hst hx0 hx1
      by_cases hneg : S < 0
      · rw [if_pos hneg] at hst
        have H2 : Hid (T = (k, acc st)) := hst
        clear hst H HE
        go_wp2_with (first
          | (go_at_call 25; refine (numStep_any st c _ hs0 hs1 hb0 hb1).mono ?_; rintro e w1 ⟨rfl, rfl⟩; rw [HSt.out])
          | (go_at_call 26; refine (accepting_any st _ hs0 hs1).mono ?_; rintro e w1 ⟨rfl, rfl⟩))
        go_ret2
        rw [H2.out]
        exact ⟨rfl, rfl⟩
      · rw [if_neg hneg] at hst
        have H2 : Hid (sh (k + 1) (am S (zs.drop (k + 1))) = T) := hst.symm
        clear hst H HE
        go_wp2_with (go_at_call 25; refine (numStep_any st c _ hs0 hs1 hb0 hb1).mono ?_; rintro e w1 ⟨rfl, rfl⟩; rw [HSt.out])
        go_round
        case rel => exact ⟨S, k + 1, by omega, by omega, rfl, by go_num, H2⟩
        case measure => simp [intOf]; omega
    · have h3 : decide (k < zs.length) = false := decide_eq_false hlt
      have H2 : Hid (T = (k, acc st)) := by show _ = _; rw [← H.out, am_end st hlt]
      go_wp2_with (go_at_call 26; refine (accepting_any st _ hs0 hs1).mono ?_; rintro e w1 ⟨rfl, rfl⟩)
      go_ret2
      rw [H2.out]
      exact ⟨rfl, rfl⟩

set_option maxHeartbeats 400000 in
theorem model_none (a : Option Addr) (cap k0 : Nat) (w : World) :
    Calls Try.prog 12 #[.slice a 0 cap, .int .i64 k0] w fun e w' => e = .returned (.tuple #[.int .i64 (k0 : Int), .bool false]) ∧ w' = w := by
  have h3 : decide ((k0 : Int) < 0) = false := by simp
  go_enter Try.func12, Try.ntmps12
  go_wp2_with fail
  refine wp_loop_rounds 1 ?_
  rw [rounds_succ]
  go_wp2_with (go_at_call 26; refine (accepting_any 0 _ (by omega) (by omega)).mono ?_; rintro e w1 ⟨rfl, rfl⟩)
  go_ret2
  exact ⟨rfl, rfl⟩

theorem model_any (a : Option Addr) (n cap : Nat) (i : Int) (k : Nat) (zs : List Int) (w : World) (hn : n = zs.length) (hi : i = k) (hmx : n ≤ 1048576) (hr : RD w a zs) :
    Calls Try.prog 12 #[.slice a n cap, .int .i64 i] w fun e w' => e = .returned (.tuple #[.int .i64 ((sh k (rn (zs.drop k))).1 : Int), .bool (sh k (rn (zs.drop k))).2]) ∧ w' = w := by
  subst hi; subst hn
  rw [← am0]
  rcases hr.2 with rfl | ⟨b, off, rfl, hc⟩
  · have e : sh k (am 0 (([] : List Int).drop k)) = (k, false) := by simp [am, sh, acc]
    rw [e]
    exact model_none a cap k w
  · exact model_some b off cap k zs w hmx hr.1 hc

set_option maxRecDepth 100000 in
set_option maxHeartbeats 2000000 in
theorem spec_in (a1 : Option Addr) (n1 c1 : Nat) (ts : List Int) (k : Nat) (w : World) (g1 : Good w a1 n1 c1 ts) (h1 : n1 ≤ 1048576) :
    Calls Try.prog 3 #[.slice a1 n1 c1, .int .i64 k] w fun e w' => e = .returned (.bool true) ∧ Below w.heap.size w w' := by
  obtain rfl := g1.1
  have hneq := fun wx => run_neq_slice_nil_any (P := Try.prog) wx 22 5 a1 ts.length c1 0 0 Try.underlying22
  have hk0 : decide ((k : Int) < 0) = false := by simp
  have G1 : Hid (Good w a1 ts.length c1 ts) := g1
  clear g1
  go_enter Try.func3, Try.ntmps3
  go_upto_if 20 with (go_in)
  go_cut [0] from 10 (fun v wx => ∃ a c, v = .slice a ts.length c ∧ Hid (Good wx a ts.length c ts) ∧ Below w.heap.size w wx)
  case first =>
    cases a1 with
    | some x =>
      go_wp2_with (first
        | (at_make; refine wpList_mk _ rfl _ _ rfl _ _ ts.length rfl rfl rfl rfl (by omega) ?_; intro w3 HG3 hB3)
        | ((with_reducible refine at_copy ?_); refine wpList_cp _ rfl _ _ rfl _ _ _ _ _ ts rfl rfl HG3 G1.out.1 G1.out.1 (show Hid (RD w3 (some x) ts) from G1.out.2.1.later hB3) ?_; intro w4 HR4 hB4))
      go_meet
      case rel => exact ⟨_, _, rfl, Good.own HR4.out G1.out.1 (by omega), hB3.trans hB4⟩
    | none =>
      go_wp2
      go_meet
      case rel => exact ⟨_, _, rfl, G1, Below.refl _ _⟩
  case rest =>
    obtain ⟨a, c, rfl, GT, hbw⟩ := hcut
    clear G1 hneq
    obtain ⟨T, HT⟩ : ∃ T, Hid (sh k (rn (ts.drop k)) = T) := ⟨_, rfl⟩
    go_wp2_with fail
    refine (ZZreadNumber_any a ts.length c _ k ts _ rfl rfl (by omega) GT.out.2.1).mono ?_
    rintro e w5 ⟨rfl, rfl⟩
    simp only [HT.out]
    go_wp2_with fail
    refine (model_any a ts.length c _ k ts _ rfl rfl (by omega) GT.out.2.1).mono ?_
    rintro e w6 ⟨rfl, rfl⟩
    simp only [HT.out]
    go_wp2_with fail
    go_ret
    exact ⟨by simp, hbw⟩

set_option maxRecDepth 100000 in
set_option maxHeartbeats 2000000 in
theorem spec_out (a1 : Option Addr) (n1 c1 : Nat) (i : Int) (w : World) (b1 : n1 ≤ 9223372036854775807) (h : 1048576 < n1 ∨ (n1 ≤ 1048576 ∧ i < 0)) :
    Calls Try.prog 3 #[.slice a1 n1 c1, .int .i64 i] w fun e w' => e = .returned (.bool true) ∧ Below w.heap.size w w' := by
  rcases h with h | ⟨h0, h1⟩
  all_goals
    go_enter Try.func3, Try.ntmps3
    go_wp2
    all_goals
      go_ret
      exact ⟨rfl, Below.refl _ _⟩

theorem spec_any (a1 : Option Addr) (n1 c1 : Nat) (ts : List Int) (i : Int) (w : World) (g1 : Good w a1 n1 c1 ts) :
    Calls Try.prog 3 #[.slice a1 n1 c1, .int .i64 i] w fun e w' => e = .returned (.bool true) ∧ Below w.heap.size w w' := by
  by_cases h : 1048576 < n1 ∨ (n1 ≤ 1048576 ∧ i < 0)
  · exact spec_out a1 n1 c1 i w g1.2.2.2 h
  · obtain ⟨k, rfl⟩ := Int.eq_ofNat_of_zero_le (show 0 ≤ i by omega)
    exact spec_in a1 n1 c1 ts k w g1 (by omega)
end Go.Proofs.Qxb6604230a
