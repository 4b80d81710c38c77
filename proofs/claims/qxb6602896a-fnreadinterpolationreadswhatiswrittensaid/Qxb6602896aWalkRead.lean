/-
  THE WALK OF readInterpolation: 'K' is the place behind the name.
-/
import Derived.Test.Qxb6602896aWalkName
import Derived.Deep.QuietTactic
import Derived.BigQuiet
namespace Go.Proofs.Qxb6602896a
open Go.RowKit Pl

set_option maxRecDepth 100000 in
set_option maxHeartbeats 1000000 in
theorem read_braced (S : ByteArray) (K : Nat) (w : World) (hn : 3 ≤ K) (h0 : K + 1 ≤ S.size) (h1 : S.size ≤ 2000000) (hx : ∀ h : 1 < S.size, (S[1]'h).toNat = 123)
    (hy : ∀ j (h : j < S.size), 2 ≤ j → j < K → nb ((S[j]'h).toNat : Int) = true) (hz : ∀ h : K < S.size, nb ((S[K]'h).toNat : Int) = false) (he : ((S.extract K (K + 1)).toList == [125]) = true) :
    Calls Try.prog 27 #[.string S] w fun e w' => e = .returned (.tuple #[.int .i64 2, .string (S.extract 2 K), .int .i64 ((K : Int) + 1)]) ∧ ∃ m, w' = w.drewN m := by
  have hz1 : ((S.size : Int) == 1) = false := beq_eq_false_iff_ne.2 (by omega)
  have HY : Hid (∀ j (h : j < S.size), 2 ≤ j → j < K → nb ((S[j]'h).toNat : Int) = true) := hy
  have HZ : Hid (∀ h : K < S.size, nb ((S[K]'h).toNat : Int) = false) := hz
  clear hy hz
  go_enter Try.func27, Try.ntmps27
  go_wp2_with fail
  go_loop [6] (fun i => ∃ k : Nat, i = .int .i64 k ∧ 2 ≤ k ∧ k ≤ K) (fun i => K - (intOf i).toNat)
  case atStart => exact ⟨2, rfl, by omega, by omega⟩
  case round =>
    obtain ⟨k, rfl, hk0, hk1⟩ := hrel
    have hks : k < S.size := by omega
    have hb1 : S[k].toNat < 256 := S[k].toNat_lt
    clear hx
    by_cases hlt : k < K
    · have HB : Hid (nb (S[k].toNat : Int) = true) := HY.out k hks hk0 hlt
      go_wp2_with (go_at_call 34; refine (isNameByte_any _ _ (by omega) (by omega)).mono ?_; rintro e w1 ⟨rfl, rfl⟩; rw [HB.out])
      go_round
      case rel => exact ⟨k + 1, by go_num, by omega, by omega⟩
      case measure => simp [intOf]; omega
    · have hke : k = K := by omega
      subst hke
      have HB : Hid (nb (S[k].toNat : Int) = false) := HZ.out hks
      have hnz : ((k : Int) == 2) = false := beq_eq_false_iff_ne.2 (by omega)
      have hk2 : (2 : Int) ≤ (k : Int) := by omega
      have hk3 : (k : Int) + 1 ≤ (S.size : Int) := by omega
      clear hlt hk1 hk0 HY HZ
      go_wp2_with (go_at_call 34; refine (isNameByte_any _ _ (by omega) (by omega)).mono ?_; rintro e w1 ⟨rfl, rfl⟩; rw [HB.out])
      go_quiet (fail)
      go_wp2
      go_ret3
      exact ⟨rfl, _, rfl⟩

set_option maxRecDepth 100000 in
set_option maxHeartbeats 1000000 in
theorem read_old (S : ByteArray) (K : Nat) (w : World) (hn : 3 ≤ K) (h0 : K + 2 ≤ S.size) (h1 : S.size ≤ 2000000) (hx : ∀ h : 1 < S.size, (S[1]'h).toNat = 40)
    (hy : ∀ j (h : j < S.size), 2 ≤ j → j < K → nb ((S[j]'h).toNat : Int) = true) (hz : ∀ h : K < S.size, nb ((S[K]'h).toNat : Int) = false) (he : ((S.extract K (K + 2)).toList == [41, 115]) = true) :
    Calls Try.prog 27 #[.string S] w fun e w' => e = .returned (.tuple #[.int .i64 3, .string (S.extract 2 K), .int .i64 ((K : Int) + 2)]) ∧ ∃ m, w' = w.drewN m := by
  have hz1 : ((S.size : Int) == 1) = false := beq_eq_false_iff_ne.2 (by omega)
  have HY : Hid (∀ j (h : j < S.size), 2 ≤ j → j < K → nb ((S[j]'h).toNat : Int) = true) := hy
  have HZ : Hid (∀ h : K < S.size, nb ((S[K]'h).toNat : Int) = false) := hz
  clear hy hz
  go_enter Try.func27, Try.ntmps27
  go_wp2_with fail
  go_loop [6] (fun i => ∃ k : Nat, i = .int .i64 k ∧ 2 ≤ k ∧ k ≤ K) (fun i => K - (intOf i).toNat)
  case atStart => exact ⟨2, rfl, by omega, by omega⟩
  case round =>
    obtain ⟨k, rfl, hk0, hk1⟩ := hrel
    have hks : k < S.size := by omega
    have hb1 : S[k].toNat < 256 := S[k].toNat_lt
    clear hx
    by_cases hlt : k < K
    · have HB : Hid (nb (S[k].toNat : Int) = true) := HY.out k hks hk0 hlt
      go_wp2_with (go_at_call 34; refine (isNameByte_any _ _ (by omega) (by omega)).mono ?_; rintro e w1 ⟨rfl, rfl⟩; rw [HB.out])
      go_round
      case rel => exact ⟨k + 1, by go_num, by omega, by omega⟩
      case measure => simp [intOf]; omega
    · have hke : k = K := by omega
      subst hke
      have HB : Hid (nb (S[k].toNat : Int) = false) := HZ.out hks
      have hnz : ((k : Int) == 2) = false := beq_eq_false_iff_ne.2 (by omega)
      have hk2 : (2 : Int) ≤ (k : Int) := by omega
      have hk3 : (k : Int) + 2 ≤ (S.size : Int) := by omega
      clear hlt hk1 hk0 HY HZ
      go_wp2_with (go_at_call 34; refine (isNameByte_any _ _ (by omega) (by omega)).mono ?_; rintro e w1 ⟨rfl, rfl⟩; rw [HB.out])
      go_quiet (fail)
      go_wp2
      go_ret3
      exact ⟨rfl, _, rfl⟩
end Go.Proofs.Qxb6602896a
