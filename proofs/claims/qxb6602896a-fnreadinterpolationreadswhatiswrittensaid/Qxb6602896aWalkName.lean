/-
  THE WALKS OF zzNameByte, isNameByte, zzAllNameBytes.
-/
import Derived.Test.Qxb6602896aRows
import Derived.Test.Qxb6602896aPlain
import Derived.WalkKit
import Derived.WalkSpells
import Derived.WalkLawsBesides
import Derived.Laws.BitsAllLaws
namespace Go.Proofs.Qxb6602896a
open Go.RowKit Pl

theorem ret_bool {a b : Bool} (h : a = b) : Ending.returned (.bool a) = .returned (.bool b) := by rw [h]

set_option maxHeartbeats 1000000 in
theorem isNameByte_any (c : Int) (w : World) (h0 : 0 ≤ c) (h1 : c ≤ 255) :
    Calls Try.prog 34 #[.int .u8 c] w fun e w' => e = .returned (.bool (nb c)) ∧ w' = w := by
  obtain ⟨S, HS⟩ : ∃ S, Hid (S = nb c) := ⟨_, rfl⟩
  rw [← HS.out]
  go_enter Try.func34, Try.ntmps34
  go_wp2
  all_goals
    go_ret
    refine ⟨ret_bool ?_, rfl⟩
    have hS := HS.out
    rw [hS, Bool.eq_iff_iff]
    simp [nb]
    try simp only [beq_iff_eq, beq_eq_false_iff_ne, ne_eq] at *
    omega

theorem or_nat : ∀ n : Fin 256, (97 ≤ (n.val ||| 32) ∧ (n.val ||| 32) ≤ 122) ↔ ((97 ≤ n.val ∧ n.val ≤ 122) ∨ (65 ≤ n.val ∧ n.val ≤ 90)) := by decide +kernel

theorem or_int (c : Int) (h0 : 0 ≤ c) (h1 : c ≤ 255) : (97 ≤ bits .or .u8 c 32 ∧ bits .or .u8 c 32 ≤ 122) ↔ ((97 ≤ c ∧ c ≤ 122) ∨ (65 ≤ c ∧ c ≤ 90)) := by
  obtain ⟨n, rfl⟩ := Int.eq_ofNat_of_zero_le h0
  have h := or_nat ⟨n, by omega⟩
  have e : bits .or .u8 (n : Int) 32 = ((n ||| 32 : Nat) : Int) := u8_or_nat n 32 (by omega) (by omega)
  rw [e]
  simp only at h
  omega

set_option maxHeartbeats 1000000 in
theorem zzNameByte_any (c : Int) (w : World) (h0 : 0 ≤ c) (h1 : c ≤ 255) :
    Calls Try.prog 28 #[.int .u8 c] w fun e w' => e = .returned (.bool (nb c)) ∧ w' = w := by
  obtain ⟨S, HS⟩ : ∃ S, Hid (S = nb c) := ⟨_, rfl⟩
  rw [← HS.out]
  have HO : Hid ((97 ≤ bits .or .u8 c 32 ∧ bits .or .u8 c 32 ≤ 122) ↔ ((97 ≤ c ∧ c ≤ 122) ∨ (65 ≤ c ∧ c ≤ 90))) := or_int c h0 h1
  go_enter Try.func28, Try.ntmps28
  go_wp2
  all_goals
    go_ret
    refine ⟨ret_bool ?_, rfl⟩
    have hS := HS.out
    have hO := HO.out
    rw [hS, Bool.eq_iff_iff]
    simp [nb]
    try simp only [beq_iff_eq, beq_eq_false_iff_ne, ne_eq] at *
    omega

def anb (l : List Int) : Bool := l.all nb

set_option maxHeartbeats 1000000 in
theorem allName_any (s : ByteArray) (w : World) (hs : s.size ≤ 1048576) :
    Calls Try.prog 13 #[.string s] w fun e w' => e = .returned (.bool (anb (bs s))) ∧ w' = w := by
  obtain ⟨T, HT⟩ : ∃ T, Hid (T = anb (bs s)) := ⟨_, rfl⟩
  rw [← HT.out]
  go_enter Try.func13, Try.ntmps13
  go_wp2_with fail
  go_loop [3] (fun i => ∃ k : Nat, i = .int .i64 k ∧ k ≤ s.size ∧ Hid (T = anb ((bs s).drop k))) (fun i => s.size - (intOf i).toNat)
  case atStart => exact ⟨0, rfl, by omega, HT⟩
  case round =>
    obtain ⟨k, rfl, hk, H⟩ := hrel
    clear HT
    by_cases hlt : k < s.size
    · have H2 : Hid (T = (nb (s[k].toNat : Int) && anb ((bs s).drop (k + 1)))) := by show _ = _; rw [H.out, bs_drop s k hlt]; rfl
      clear H
      have hb1 : s[k].toNat < 256 := s[k].toNat_lt
      cases hb : nb (s[k].toNat : Int) with
      | false =>
        have HE : Hid (T = false) := by show _ = _; rw [H2.out, hb]; rfl
        have HB : Hid (nb (s[k].toNat : Int) = false) := hb
        clear hb H2
        go_wp2_with (go_at_call 28; refine (zzNameByte_any _ _ (by omega) (by omega)).mono ?_; rintro e w1 ⟨rfl, rfl⟩; rw [HB.out])
        go_ret
        rw [HE.out]
        exact ⟨rfl, rfl⟩
      | true =>
        have HE : Hid (T = anb ((bs s).drop (k + 1))) := by show _ = _; rw [H2.out, hb]; rfl
        have HB : Hid (nb (s[k].toNat : Int) = true) := hb
        clear hb H2
        go_wp2_with (go_at_call 28; refine (zzNameByte_any _ _ (by omega) (by omega)).mono ?_; rintro e w1 ⟨rfl, rfl⟩; rw [HB.out])
        go_round
        case rel => exact ⟨k + 1, by go_num, by omega, HE⟩
        case measure => simp [intOf]; omega
    · have HE : Hid (T = true) := by show _ = _; rw [H.out, List.drop_eq_nil_of_le (by rw [bs_len]; omega)]; rfl
      go_wp2_with fail
      go_ret
      rw [HE.out]
      exact ⟨rfl, rfl⟩
end Go.Proofs.Qxb6602896a
