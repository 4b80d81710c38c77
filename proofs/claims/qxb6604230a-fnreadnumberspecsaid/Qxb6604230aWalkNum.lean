/-
  THE WALKS OF digitsEnd AND readNumber.
-/
import Derived.Test.Qxb6604230aBase
import Derived.Test.Qxb6604230aPlainNum
import Derived.Outline
import Derived.Deep.CutRange
namespace Go.Proofs.Qxb6604230a
open Go.RowKit Pl

theorem dgs_yes {zs : List Int} {k : Nat} (h : k < zs.length) (h1 : 48 ≤ zs[k]?.getD 0) (h2 : zs[k]?.getD 0 ≤ 57) : k + dgs (zs.drop k) = (k + 1) + dgs (zs.drop (k + 1)) := by
  rw [drop_cons h]; simp [dgs, isd, h1, h2]; omega
theorem dgs_no {zs : List Int} {k : Nat} (h : k < zs.length) (h1 : zs[k]?.getD 0 < 48 ∨ 57 < zs[k]?.getD 0) : k + dgs (zs.drop k) = k := by
  rw [drop_cons h]; simp [dgs, isd]; omega
theorem dgs_end {zs : List Int} {k : Nat} (h : ¬ k < zs.length) : k + dgs (zs.drop k) = k := by
  rw [drop_none h]; rfl

set_option maxHeartbeats 400000 in
theorem digitsEnd_some (b off cap k0 : Nat) (zs : List Int) (w : World) (hmx : zs.length ≤ 1048576) (hbd : ∀ j : Nat, 0 ≤ zs[j]?.getD 0 ∧ zs[j]?.getD 0 ≤ 255) (hc : ∀ j, j < zs.length → w.cell? ⟨b, off + j, none⟩ = some (.int .u8 (zs.getD j 0))) :
    Calls Try.prog 30 #[.slice (some ⟨b, off, none⟩) zs.length cap, .int .i64 k0] w fun e w' => e = .returned (.int .i64 ((k0 + dgs (zs.drop k0) : Nat) : Int)) ∧ w' = w := by
  obtain ⟨T, hT⟩ : ∃ T, T = k0 + dgs (zs.drop k0) := ⟨_, rfl⟩
  rw [← hT]
  have HT : Hid (T = k0 + dgs (zs.drop k0)) := hT
  clear hT
  go_enter Try.func30, Try.ntmps30
  go_wp2
  go_loop [1] (fun i => ∃ k : Nat, i = .int .i64 k ∧ Hid (T = k + dgs (zs.drop k))) (fun i => zs.length - (intOf i).toNat)
  case atStart => exact ⟨k0, rfl, HT⟩
  case round =>
    obtain ⟨k, rfl, H⟩ := hrel
    clear HT
    by_cases hlt : k < zs.length
    · obtain ⟨c, hcx, hb, HC⟩ : ∃ c : Int, w.cell? ⟨b, off + k, none⟩ = some (.int .u8 c) ∧ (0 ≤ c ∧ c ≤ 255) ∧ Hid (c = zs[k]?.getD 0) := ⟨_, hc k hlt, hbd k, rfl⟩
      obtain ⟨hb0, hb1⟩ := hb
      clear hc hbd
      by_cases h1 : 48 ≤ c
      · by_cases h2 : c ≤ 57
        · go_wp2
          go_round
          case rel => exact ⟨k + 1, by go_num, by show _ = _; rw [H.out, dgs_yes hlt (by rw [← HC.out]; exact h1) (by rw [← HC.out]; exact h2)]⟩
          case measure => simp [intOf]; omega
        · have h3 : decide (c ≤ 57) = false := by simpa using h2
          have e : T = k := by rw [H.out, dgs_no hlt (by rw [← HC.out]; omega)]
          go_wp2
          go_ret
          exact ⟨rfl, rfl⟩
      · have h3 : decide (48 ≤ c) = false := by simpa using h1
        have e : T = k := by rw [H.out, dgs_no hlt (by rw [← HC.out]; omega)]
        go_wp2
        go_ret
        exact ⟨rfl, rfl⟩
    · have h3 : decide ((k : Int) < zs.length) = false := by simp; omega
      have e : T = k := by rw [H.out, dgs_end hlt]
      go_wp2
      go_ret
      exact ⟨rfl, rfl⟩

/-- the contract of digitsEnd as readNumber uses it -/
theorem digitsEnd_ex (b off cap k0 : Nat) (i : Int) (zs : List Int) (w : World) (hi : i = k0) (hmx : zs.length ≤ 1048576) (hbd : ∀ j : Nat, 0 ≤ zs[j]?.getD 0 ∧ zs[j]?.getD 0 ≤ 255) (hc : ∀ j, j < zs.length → w.cell? ⟨b, off + j, none⟩ = some (.int .u8 (zs.getD j 0))) :
    Calls Try.prog 30 #[.slice (some ⟨b, off, none⟩) zs.length cap, .int .i64 i] w fun e w' => ∃ m : Nat, e = .returned (.int .i64 m) ∧ Hid (m = k0 + dgs (zs.drop k0)) ∧ k0 ≤ m ∧ (k0 ≤ zs.length → m ≤ zs.length) ∧ w' = w := by
  subst hi
  refine (digitsEnd_some b off cap k0 zs w hmx hbd hc).mono ?_
  rintro e w' ⟨rfl, rfl⟩
  exact ⟨_, rfl, rfl, by omega, fun h => by have := dgs_le (zs.drop k0); simp at this; omega, rfl⟩

/-! ### The steps of readNumber, on the bytes from place k on -/
theorem st_minus {zs : List Int} {k : Nat} (h : k < zs.length) (hc : zs[k]?.getD 0 = 45) : sh k (rn (zs.drop k)) = sh (k + 1) (rnI (zs.drop (k + 1))) := by
  rw [drop_cons h]; simp [rn, hc, sh_sh]
theorem st_nominus {zs : List Int} {k : Nat} (h : k < zs.length) (hc : ¬ zs[k]?.getD 0 = 45) : sh k (rn (zs.drop k)) = sh k (rnI (zs.drop k)) := by
  rw [drop_cons h]; simp [rn, hc]
theorem st_end0 {zs : List Int} {k : Nat} (h : ¬ k < zs.length) : sh k (rn (zs.drop k)) = sh k (rnI (zs.drop k)) := by
  rw [drop_none h]; rfl
theorem st_zero {zs : List Int} {k : Nat} (h : k < zs.length) (hc : zs[k]?.getD 0 = 48) : sh k (rnI (zs.drop k)) = sh (k + 1) (rnF (zs.drop (k + 1))) := by
  rw [drop_cons h]; simp [rnI, hc, sh_sh]
theorem st_digits {zs : List Int} {k m : Nat} (h : k < zs.length) (h1 : 49 ≤ zs[k]?.getD 0) (h2 : zs[k]?.getD 0 ≤ 57) (hm : m = k + dgs (zs.drop k)) : sh k (rnI (zs.drop k)) = sh m (rnF (zs.drop m)) := by
  have e : zs.drop m = (zs.drop k).drop (dgs (zs.drop k)) := by rw [List.drop_drop, hm]
  rw [e, hm, ← sh_sh, drop_cons h]
  have h3 : ¬ zs[k]?.getD 0 = 48 := by omega
  simp [rnI, h1, h2, h3]
theorem st_bad {zs : List Int} {k : Nat} (h : k < zs.length) (hc : zs[k]?.getD 0 < 48 ∨ 57 < zs[k]?.getD 0) : sh k (rnI (zs.drop k)) = (k, false) := by
  have h3 : ¬ zs[k]?.getD 0 = 48 := by omega
  have h4 : ¬ (49 ≤ zs[k]?.getD 0 ∧ zs[k]?.getD 0 ≤ 57) := by omega
  rw [drop_cons h]; simp only [rnI, h3, h4, if_false, sh]; rfl
theorem st_end1 {zs : List Int} {k : Nat} (h : ¬ k < zs.length) : sh k (rnI (zs.drop k)) = (k, false) := by
  rw [drop_none h]; rfl
theorem st_dot0 {zs : List Int} {k m : Nat} (h : k < zs.length) (hc : zs[k]?.getD 0 = 46) (hm : m = (k + 1) + dgs (zs.drop (k + 1))) (e : m = k + 1) : sh k (rnF (zs.drop k)) = (m, false) := by
  have h0 : dgs (zs.drop (k + 1)) = 0 := by omega
  rw [drop_cons h]; simp [rnF, hc, h0, sh, e]
theorem st_dot {zs : List Int} {k m : Nat} (h : k < zs.length) (hc : zs[k]?.getD 0 = 46) (hm : m = (k + 1) + dgs (zs.drop (k + 1))) (e : ¬ m = k + 1) : sh k (rnF (zs.drop k)) = sh m (rnE (zs.drop m)) := by
  have h0 : ¬ dgs (zs.drop (k + 1)) = 0 := by omega
  have e2 : zs.drop m = (zs.drop (k + 1)).drop (dgs (zs.drop (k + 1))) := by rw [List.drop_drop, hm]
  rw [e2, drop_cons h]; simp [rnF, hc, h0, sh_sh, hm, Nat.add_assoc]
theorem st_nodot {zs : List Int} {k : Nat} (h : k < zs.length) (hc : ¬ zs[k]?.getD 0 = 46) : sh k (rnF (zs.drop k)) = sh k (rnE (zs.drop k)) := by
  rw [drop_cons h]; simp [rnF, hc]
theorem st_end2 {zs : List Int} {k : Nat} (h : ¬ k < zs.length) : sh k (rnF (zs.drop k)) = sh k (rnE (zs.drop k)) := by
  rw [drop_none h]; rfl
theorem st_e {zs : List Int} {k : Nat} (h : k < zs.length) (hc : zs[k]?.getD 0 = 101 ∨ zs[k]?.getD 0 = 69) : sh k (rnE (zs.drop k)) = sh (k + 1) (rnE1 (zs.drop (k + 1))) := by
  rw [drop_cons h]; simp [rnE, hc, sh_sh]
theorem st_noe {zs : List Int} {k : Nat} (h : k < zs.length) (hc : ¬ (zs[k]?.getD 0 = 101 ∨ zs[k]?.getD 0 = 69)) : sh k (rnE (zs.drop k)) = (k, true) := by
  rw [drop_cons h]; simp only [rnE, hc, if_false, sh]; rfl
theorem st_end3 {zs : List Int} {k : Nat} (h : ¬ k < zs.length) : sh k (rnE (zs.drop k)) = (k, true) := by
  rw [drop_none h]; rfl
theorem st_sign {zs : List Int} {k : Nat} (h : k < zs.length) (hc : zs[k]?.getD 0 = 43 ∨ zs[k]?.getD 0 = 45) : sh k (rnE1 (zs.drop k)) = sh (k + 1) (rnE2 (zs.drop (k + 1))) := by
  rw [drop_cons h]; simp [rnE1, hc, sh_sh]
theorem st_nosign {zs : List Int} {k : Nat} (h : k < zs.length) (hc : ¬ (zs[k]?.getD 0 = 43 ∨ zs[k]?.getD 0 = 45)) : sh k (rnE1 (zs.drop k)) = sh k (rnE2 (zs.drop k)) := by
  rw [drop_cons h]; simp only [rnE1, hc, if_false]
theorem st_end4 {zs : List Int} {k : Nat} (h : ¬ k < zs.length) : sh k (rnE1 (zs.drop k)) = sh k (rnE2 (zs.drop k)) := by
  rw [drop_none h]; rfl
theorem st_last0 {zs : List Int} {k m : Nat} (hm : m = k + dgs (zs.drop k)) (e : m = k) : sh k (rnE2 (zs.drop k)) = (m, false) := by
  have h0 : dgs (zs.drop k) = 0 := by omega
  simp [rnE2, h0, sh, e]
theorem st_last {zs : List Int} {k m : Nat} (hm : m = k + dgs (zs.drop k)) (e : ¬ m = k) : sh k (rnE2 (zs.drop k)) = (m, true) := by
  have h0 : ¬ dgs (zs.drop k) = 0 := by omega
  simp [rnE2, h0, sh, hm]
end Go.Proofs.Qxb6604230a
