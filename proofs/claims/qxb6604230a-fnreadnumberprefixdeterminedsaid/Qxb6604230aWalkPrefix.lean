/-
  THE WALK OF FnReadNumberPrefixDetermined.
-/
import Derived.Test.Qxb6604230aWalkNum2
namespace Go.Proofs.Qxb6604230a
open Go.RowKit Pl

theorem cutoff_law (ts : List Int) (k : Nat) : ∃ E O, sh k (rn (ts.drop k)) = (E, O) ∧ k ≤ E ∧ ((E = k ∧ O = false ∧ ts.length < E) ∨ (E ≤ ts.length ∧ sh k (rn ((ts.take E).drop k)) = (E, O))) := by
  have hle := rn_le (ts.drop k)
  have htk := rn_take (ts.drop k)
  have hok := rn_ok (ts.drop k)
  by_cases hk : ts.length < k
  · have e : ts.drop k = [] := List.drop_eq_nil_of_le (by omega)
    rw [e]
    exact ⟨k, false, rfl, by omega, .inl ⟨rfl, rfl, hk⟩⟩
  · have e : (ts.take (k + (rn (ts.drop k)).1)).drop k = (ts.drop k).take (rn (ts.drop k)).1 := by
      rw [List.drop_take, Nat.add_sub_cancel_left]
    refine ⟨k + (rn (ts.drop k)).1, (rn (ts.drop k)).2, rfl, by omega, .inr ⟨by simp at hle; omega, ?_⟩⟩
    rw [e, htk]; rfl

set_option maxRecDepth 100000 in
set_option maxHeartbeats 2000000 in
theorem cutoff_in (a1 : Option Addr) (n1 c1 : Nat) (ts : List Int) (k : Nat) (w : World) (g1 : Good w a1 n1 c1 ts) (h1 : n1 ≤ 1048576) (hk : (k : Int) ≤ 9223372036854775807) :
    Calls Try.prog 5 #[.slice a1 n1 c1, .int .i64 k] w fun e w' => e = .returned (.bool true) ∧ Below w.heap.size w w' := by
  obtain rfl := g1.1
  have hneq := fun wx => run_neq_slice_nil_any (P := Try.prog) wx 22 5 a1 ts.length c1 0 0 Try.underlying22
  have hk0 : decide ((k : Int) < 0) = false := by simp
  have G1 : Hid (Good w a1 ts.length c1 ts) := g1
  clear g1
  go_enter Try.func5, Try.ntmps5
  go_upto_if 20 with (go_in)
  go_cut [0] from 10 (fun v wx => ∃ a c, v = .slice a ts.length c ∧ Hid (Good wx a ts.length c ts) ∧ ts.length ≤ c ∧ Below w.heap.size w wx)
  case first =>
    cases a1 with
    | some x =>
      go_wp2_with (first
        | (at_make; refine wpList_mk _ rfl _ _ rfl _ _ ts.length rfl rfl rfl rfl (by omega) ?_; intro w3 HG3 hB3)
        | ((with_reducible refine at_copy ?_); refine wpList_cp _ rfl _ _ rfl _ _ _ _ _ ts rfl rfl HG3 G1.out.1 G1.out.1 (show Hid (RD w3 (some x) ts) from G1.out.2.1.later hB3) ?_; intro w4 HR4 hB4))
      go_meet
      case rel => exact ⟨_, _, rfl, Good.own HR4.out G1.out.1 (by omega), Nat.le_refl _, hB3.trans hB4⟩
    | none =>
      have hz := (G1.out.2.2.1 rfl)
      have HZ : Hid (ts.length = 0 ∧ c1 = 0) := hz
      clear hz
      go_wp2
      go_meet
      case rel => exact ⟨_, _, rfl, G1, by have := HZ.out; omega, Below.refl _ _⟩
  case rest =>
    obtain ⟨a, c, rfl, GT, hcap, hbw⟩ := hcut
    clear G1 hneq
    obtain ⟨E, O, hT, hE0, hE1⟩ := cutoff_law ts k
    have HT : Hid (sh k (rn (ts.drop k)) = (E, O)) := hT
    clear hT
    rcases hE1 with ⟨rfl, rfl, hlt⟩ | ⟨hle, hU⟩
    · have hb : decide (ts.length < E) = true := decide_eq_true hlt
      go_wp2_with fail
      refine (ZZreadNumber_any a ts.length c _ E ts _ rfl rfl (by omega) GT.out.2.1).mono ?_
      rintro e w5 ⟨rfl, rfl⟩
      simp only [HT.out]
      go_wp2_with fail
      go_ret
      exact ⟨rfl, hbw⟩
    · have HU : Hid (sh k (rn ((ts.take E).drop k)) = (E, O)) := hU
      have hb : decide (ts.length < E) = false := decide_eq_false (by omega)
      clear hU
      go_wp2_with fail
      refine (ZZreadNumber_any a ts.length c _ k ts _ rfl rfl (by omega) GT.out.2.1).mono ?_
      rintro e w5 ⟨rfl, rfl⟩
      simp only [HT.out]
      go_wp2_with fail
      refine (ZZreadNumber_any a E c _ k (ts.take E) _ (by simp; omega) rfl (by omega) (GT.out.2.1.take E)).mono ?_
      rintro e w6 ⟨rfl, rfl⟩
      simp only [HU.out]
      go_wp2_with fail
      go_ret
      exact ⟨by simp, hbw⟩

set_option maxRecDepth 100000 in
set_option maxHeartbeats 2000000 in
theorem cutoff_out (a1 : Option Addr) (n1 c1 : Nat) (i : Int) (w : World) (b1 : n1 ≤ 9223372036854775807) (h : 1048576 < n1 ∨ (n1 ≤ 1048576 ∧ i < 0)) :
    Calls Try.prog 5 #[.slice a1 n1 c1, .int .i64 i] w fun e w' => e = .returned (.bool true) ∧ Below w.heap.size w w' := by
  rcases h with h | ⟨h0, h1⟩
  all_goals
    go_enter Try.func5, Try.ntmps5
    go_wp2
    all_goals
      go_ret
      exact ⟨rfl, Below.refl _ _⟩

theorem cutoff_any (a1 : Option Addr) (n1 c1 : Nat) (ts : List Int) (i : Int) (w : World) (g1 : Good w a1 n1 c1 ts) (hi : i ≤ 9223372036854775807) :
    Calls Try.prog 5 #[.slice a1 n1 c1, .int .i64 i] w fun e w' => e = .returned (.bool true) ∧ Below w.heap.size w w' := by
  by_cases h : 1048576 < n1 ∨ (n1 ≤ 1048576 ∧ i < 0)
  · exact cutoff_out a1 n1 c1 i w g1.2.2.2 h
  · obtain ⟨k, rfl⟩ := Int.eq_ofNat_of_zero_le (show 0 ≤ i by omega)
    exact cutoff_in a1 n1 c1 ts k w g1 (by omega) hi
end Go.Proofs.Qxb6604230a
