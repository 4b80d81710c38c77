/-
  THE WALK OF FnReadNumberShift.
-/
import Derived.Test.Qxb6604230aWalkNum2
namespace Go.Proofs.Qxb6604230a
open Go.RowKit Pl

theorem shift_law (ps ts : List Int) (k : Nat) : ∃ E O, sh k (rn (ts.drop k)) = (E, O) ∧ sh (k + ps.length) (rn ((ps ++ ts).drop (k + ps.length))) = (E + ps.length, O) ∧ k ≤ E ∧ (E = k ∨ E ≤ ts.length) ∧ (O = true → E ≠ k) := by
  have e : (ps ++ ts).drop (k + ps.length) = ts.drop k := by
    rw [List.drop_append, List.drop_eq_nil_of_le (by omega), Nat.add_sub_cancel]; rfl
  have hle := rn_le (ts.drop k)
  have hok := rn_ok (ts.drop k)
  rw [e]
  generalize rn (ts.drop k) = r at *
  obtain ⟨x, o⟩ := r
  simp at hle
  refine ⟨k + x, o, rfl, ?_, by omega, by omega, fun h => ?_⟩
  · simp [sh]; omega
  · have := hok h
    simp at this
    omega

set_option maxRecDepth 100000 in
set_option maxHeartbeats 2000000 in
theorem shift_in (a0 : Option Addr) (n0 c0 : Nat) (ps : List Int) (a1 : Option Addr) (n1 c1 : Nat) (ts : List Int) (k : Nat) (w : World) (g0 : Good w a0 n0 c0 ps) (g1 : Good w a1 n1 c1 ts)
    (h0 : n0 ≤ 524288) (h1 : n1 ≤ 524288) (hk : (k : Int) ≤ 9223372036854775807 - n0) :
    Calls Try.prog 4 #[.slice a0 n0 c0, .slice a1 n1 c1, .int .i64 k] w fun e w' => e = .returned (.bool true) ∧ Below w.heap.size w w' := by
  obtain rfl := g0.1
  obtain rfl := g1.1
  have hneq := fun wx => run_neq_slice_nil_any (P := Try.prog) wx 22 5 a1 ts.length c1 0 0 Try.underlying22
  have hk0 : decide ((k : Int) < 0) = false := by simp
  have hk1 : decide (9223372036854775807 - (ps.length : Int) < k) = false := by simp; omega
  have G0 : Hid (Good w a0 ps.length c0 ps) := g0
  have G1 : Hid (Good w a1 ts.length c1 ts) := g1
  clear g0 g1
  go_enter Try.func4, Try.ntmps4
  go_upto_if 34 with (go_in)
  go_cut [1] from 13 (fun v wx => ∃ a c, v = .slice a ts.length c ∧ Hid (Good wx a ts.length c ts) ∧ Below w.heap.size w wx)
  case first =>
    cases a1 with
    | some x =>
      go_wp2_with (first
        | (at_make; refine wpList_mk _ rfl _ _ rfl _ _ ts.length rfl rfl rfl rfl (by omega) ?_; intro w3 HG3 hB3)
        | ((with_reducible refine at_copy ?_); refine wpList_cp _ rfl _ _ rfl _ _ _ _ _ ts rfl rfl HG3 G1.out.1 G1.out.1 (show Hid (RD w3 (some x) ts) from G1.out.2.1.later hB3) ?_; intro w4 HR4 hB4))
      go_meet
      case rel => exact ⟨_, _, rfl, Good.own HR4.out G1.out.1 (by omega), hB3.trans hB4⟩
    | none =>
      go_wp2
      go_meet
      case rel => exact ⟨_, _, rfl, G1, Below.refl _ _⟩
  case rest =>
    obtain ⟨a, c, rfl, GT, hbw⟩ := hcut
    have GP : Hid (Good wc a0 ps.length c0 ps) := G0.out.later hbw
    clear G0 G1 hneq
    obtain ⟨E, O, hT, hU, hE0, hE1, hO⟩ := shift_law ps ts k
    have HT : Hid (sh k (rn (ts.drop k)) = (E, O)) := hT
    have HU : Hid (sh (k + ps.length) (rn ((ps ++ ts).drop (k + ps.length))) = (E + ps.length, O)) := hU
    clear hT hU
    have hway : (O = true ∧ (((E : Int) == k) = false) ∧ (((E : Int) != k) = true) ∧ (decide (ts.length < E) = false)) ∨ (O = false ∧ (((E : Int) == k) = true) ∧ (((E : Int) != k) = false)) ∨ (O = false ∧ (((E : Int) == k) = false) ∧ (((E : Int) != k) = true) ∧ (decide (ts.length < E) = false)) := by
      cases O with
      | true => exact .inl ⟨rfl, beq_eq_false_iff_ne.2 (by have := hO rfl; omega), bne_iff_ne.2 (by have := hO rfl; omega), decide_eq_false (by have := hO rfl; omega)⟩
      | false =>
        by_cases e : E = k
        · exact .inr (.inl ⟨rfl, beq_iff_eq.2 (by omega), by simp [e]⟩)
        · exact .inr (.inr ⟨rfl, beq_eq_false_iff_ne.2 (by omega), bne_iff_ne.2 (by omega), decide_eq_false (by omega)⟩)
    have hEb : E ≤ 9223372036854775807 - ps.length := by omega
    clear hE1 hO
    rcases hway with ⟨rfl, hx, hx2, hy⟩ | ⟨rfl, hx, hx2⟩ | ⟨rfl, hx, hx2, hy⟩
    all_goals
      go_wp2_with (first
        | (at_make; refine wpList_mk0 _ rfl _ _ rfl _ (ps.length + ts.length) rfl rfl (by omega) (by omega) ?_; intro w2 HO2 hb2)
        | (at_builtin; refine wpList_ap _ rfl (.tmp 48) (.tmp 49) rfl wc.heap.size wc.heap.size 0 (ps.length + ts.length) [] _ _ _ ps rfl rfl HO2 rfl (GP.out.2.1.later hb2) GP.out.2.2.1 (by omega) ?_; intro w3 HO3 hb3; simp only [Nat.zero_add, List.nil_append] at HO3)
        | (at_builtin; refine wpList_ap _ rfl (.tmp 51) (.tmp 52) rfl wc.heap.size wc.heap.size ps.length (ps.length + ts.length) ps _ _ _ ts rfl rfl HO3 rfl (GT.out.2.1.later (hb2.trans hb3)) GT.out.2.2.1 (by omega) ?_; intro w4 HO4 hb4))
      refine (ZZreadNumber_any a ts.length c _ k ts _ rfl rfl (by omega) (GT.out.2.1.later ((hb2.trans hb3).trans hb4))).mono ?_
      rintro e w5 ⟨rfl, rfl⟩
      simp only [HT.out]
      go_wp2_with fail
      refine (ZZreadNumber_any _ (ps.length + ts.length) _ ((k : Int) + ps.length) (k + ps.length) (ps ++ ts) _ HO4.len (by omega) (by omega) (HO4.rd (bd_app GP.out.2.1.1 GT.out.2.1.1))).mono ?_
      rintro e w6 ⟨rfl, rfl⟩
      simp only [HU.out]
      go_wp2_with fail
      go_ret
      exact ⟨rfl, hbw.trans (((hb2.trans hb3).trans hb4).mono hbw.size)⟩

set_option maxRecDepth 100000 in
set_option maxHeartbeats 2000000 in
/-- the ways on which the law answers at once -/
theorem shift_out (a0 : Option Addr) (n0 c0 : Nat) (a1 : Option Addr) (n1 c1 : Nat) (i : Int) (w : World) (b0 : n0 ≤ 9223372036854775807) (b1 : n1 ≤ 9223372036854775807)
    (h : 524288 < n0 ∨ (n0 ≤ 524288 ∧ 524288 < n1) ∨ (n0 ≤ 524288 ∧ n1 ≤ 524288 ∧ i < 0) ∨ (n0 ≤ 524288 ∧ n1 ≤ 524288 ∧ 0 ≤ i ∧ 9223372036854775807 - (n0 : Int) < i)) :
    Calls Try.prog 4 #[.slice a0 n0 c0, .slice a1 n1 c1, .int .i64 i] w fun e w' => e = .returned (.bool true) ∧ Below w.heap.size w w' := by
  rcases h with h | ⟨h0, h1⟩ | ⟨h0, h1, h2⟩ | ⟨h0, h1, h2, h3⟩
  · go_enter Try.func4, Try.ntmps4
    go_wp2
    all_goals
      go_ret
      exact ⟨rfl, Below.refl _ _⟩
  · go_enter Try.func4, Try.ntmps4
    go_wp2
    all_goals
      go_ret
      exact ⟨rfl, Below.refl _ _⟩
  · go_enter Try.func4, Try.ntmps4
    go_wp2
    all_goals
      go_ret
      exact ⟨rfl, Below.refl _ _⟩
  · have h2b : decide (i < 0) = false := by simpa using h2
    go_enter Try.func4, Try.ntmps4
    go_wp2
    all_goals
      go_ret
      exact ⟨rfl, Below.refl _ _⟩

theorem shift_any (a0 : Option Addr) (n0 c0 : Nat) (ps : List Int) (a1 : Option Addr) (n1 c1 : Nat) (ts : List Int) (i : Int) (w : World) (g0 : Good w a0 n0 c0 ps) (g1 : Good w a1 n1 c1 ts) :
    Calls Try.prog 4 #[.slice a0 n0 c0, .slice a1 n1 c1, .int .i64 i] w fun e w' => e = .returned (.bool true) ∧ Below w.heap.size w w' := by
  by_cases h : 524288 < n0 ∨ (n0 ≤ 524288 ∧ 524288 < n1) ∨ (n0 ≤ 524288 ∧ n1 ≤ 524288 ∧ i < 0) ∨ (n0 ≤ 524288 ∧ n1 ≤ 524288 ∧ 0 ≤ i ∧ 9223372036854775807 - (n0 : Int) < i)
  · exact shift_out a0 n0 c0 a1 n1 c1 i w g0.2.2.2 g1.2.2.2 h
  · obtain ⟨k, rfl⟩ := Int.eq_ofNat_of_zero_le (show 0 ≤ i by omega)
    exact shift_in a0 n0 c0 ps a1 n1 c1 ts k w g0 g1 (by omega) (by omega) (by omega)
end Go.Proofs.Qxb6604230a
