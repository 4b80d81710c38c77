/-
  THE WALKS OF zzCompareBytes AND FnSmallIntegerOrder.
-/
import Derived.Test.Qxb6604230aWalkSmall
import Derived.Deep.QuietTactic
import Derived.BigQuiet
import Derived.WalkSmall
namespace Go.Proofs.Qxb6604230a
open Go.RowKit Pl

theorem cmp_drop {xs ys : List Int} {k : Nat} (h1 : k < xs.length) (h2 : k < ys.length) : cmp (xs.drop k) (ys.drop k) = if xs[k]?.getD 0 < ys[k]?.getD 0 then -1 else if ys[k]?.getD 0 < xs[k]?.getD 0 then 1 else cmp (xs.drop (k + 1)) (ys.drop (k + 1)) := by
  rw [drop_cons h1, drop_cons h2]; rfl

set_option maxHeartbeats 1000000 in
/-- two texts of one length -/
theorem compare_any (b off cap b' off' cap' : Nat) (xs ys : List Int) (w : World) (hl : ys.length = xs.length) (hmx : xs.length ≤ 1048576) (hbd : ∀ j : Nat, 0 ≤ xs[j]?.getD 0 ∧ xs[j]?.getD 0 ≤ 255) (hbd' : ∀ j : Nat, 0 ≤ ys[j]?.getD 0 ∧ ys[j]?.getD 0 ≤ 255)
    (hc : ∀ j, j < xs.length → w.cell? ⟨b, off + j, none⟩ = some (.int .u8 (xs.getD j 0))) (hc' : ∀ j, j < ys.length → w.cell? ⟨b', off' + j, none⟩ = some (.int .u8 (ys.getD j 0))) :
    Calls Try.prog 23 #[.slice (some ⟨b, off, none⟩) xs.length cap, .slice (some ⟨b', off', none⟩) xs.length cap'] w fun e w' => e = .returned (.int .i64 (cmp xs ys)) ∧ ∃ n, w' = w.drewN n := by
  obtain ⟨T, HT⟩ : ∃ T, Hid (T = cmp xs ys) := ⟨_, rfl⟩
  rw [← HT.out]
  have HC : Hid (∀ j, j < xs.length → w.cell? ⟨b, off + j, none⟩ = some (.int .u8 (xs.getD j 0))) := hc
  have HC' : Hid (∀ j, j < ys.length → w.cell? ⟨b', off' + j, none⟩ = some (.int .u8 (ys.getD j 0))) := hc'
  have HB : Hid (∀ j : Nat, 0 ≤ xs[j]?.getD 0 ∧ xs[j]?.getD 0 ≤ 255) := hbd
  have HB' : Hid (∀ j : Nat, 0 ≤ ys[j]?.getD 0 ∧ ys[j]?.getD 0 ≤ 255) := hbd'
  have HL : Hid (ys.length = xs.length) := hl
  clear hc hc' hbd hbd' hl
  go_enter Try.func23, Try.ntmps23
  go_wp2
  go_loopw [5] (fun i wr => ∃ k n : Nat, i = .int .i64 k ∧ k ≤ xs.length ∧ Hid (T = cmp (xs.drop k) (ys.drop k)) ∧ wr = w.drewN n) (fun i _ => xs.length - (intOf i).toNat)
  case atStart => exact ⟨0, 0, rfl, by omega, HT, rfl⟩
  case round =>
    obtain ⟨k, n, rfl, hk, H, rfl⟩ := hrel
    clear HT
    by_cases hlt : k < xs.length
    · obtain ⟨c, hcx, hb0, hb1, HX⟩ : ∃ c : Int, w.cell? ⟨b, off + k, none⟩ = some (.int .u8 c) ∧ 0 ≤ c ∧ c ≤ 255 ∧ Hid (xs[k]?.getD 0 = c) := ⟨_, HC.out k hlt, (HB.out k).1, (HB.out k).2, rfl⟩
      obtain ⟨d, hdx, hd0, hd1, HY⟩ : ∃ d : Int, w.cell? ⟨b', off' + k, none⟩ = some (.int .u8 d) ∧ 0 ≤ d ∧ d ≤ 255 ∧ Hid (ys[k]?.getD 0 = d) := ⟨_, HC'.out k (by have := HL.out; omega), (HB'.out k).1, (HB'.out k).2, rfl⟩
      have H2 : Hid (T = if c < d then -1 else if d < c then 1 else cmp (xs.drop (k + 1)) (ys.drop (k + 1))) := by
        show _ = _
        rw [H.out, cmp_drop hlt (by have := HL.out; omega), HX.out, HY.out]
      have hlI : (k : Int) < (xs.length : Int) := by omega
      clear H HX HY
      by_cases h1 : c < d
      · have HE : Hid (T = -1) := by show _ = _; rw [H2.out, if_pos h1]
        clear H2
        go_wp2
        go_quiet (fail)
        go_wp2
        go_ret
        rw [HE.out]
        exact ⟨rfl, _, by rw [World.drewN_drewN]⟩
      · by_cases h2 : d < c
        · have HE : Hid (T = 1) := by show _ = _; rw [H2.out, if_neg h1, if_pos h2]
          clear H2
          go_wp2
          go_quiet (fail)
          go_wp2
          go_quiet (fail)
          go_wp2
          go_ret
          rw [HE.out]
          exact ⟨rfl, _, by rw [World.drewN_drewN, World.drewN_drewN]⟩
        · have H3 : Hid (T = cmp (xs.drop (k + 1)) (ys.drop (k + 1))) := by show _ = _; rw [H2.out, if_neg h1, if_neg h2]
          clear H2
          go_wp2
          go_quiet (fail)
          go_wp2
          go_quiet (fail)
          go_wp2
          go_roundw
          case rel => exact ⟨k + 1, _, by go_num, by omega, H3, rfl⟩
          case measure => simp [intOf]; omega
    · have h3 : decide (k < xs.length) = false := decide_eq_false hlt
      have HE : Hid (T = 0) := by show _ = _; rw [H.out, drop_none hlt, drop_none (by have := HL.out; omega)]; rfl
      go_wp2
      go_ret
      rw [HE.out]
      exact ⟨rfl, _, rfl⟩

theorem order_law (xs ys : List Int) (hl : ys.length = xs.length) (hx : allD xs = true) (hy : allD ys = true) (h0 : xs.length ≠ 0) (h1 : xs.length ≤ 15) :
    si xs = (num xs, true) ∧ si ys = (num ys, true) ∧ ((cmp xs ys = -1 ∧ num xs < num ys) ∨ (cmp xs ys = 1 ∧ num ys < num xs) ∨ (cmp xs ys = 0 ∧ num xs = num ys)) := by
  have h := cmp_num xs ys hl.symm hx hy
  refine ⟨si_yes xs h0 h1 hx, si_yes ys (by omega) (by omega) hy, ?_⟩
  rcases cmp_tri xs ys with e | e | e
  · exact .inl ⟨e, h.1 (by omega)⟩
  · exact .inr (.inr ⟨e, h.2.2 e⟩)
  · exact .inr (.inl ⟨e, h.2.1 (by omega)⟩)

theorem some_of {w : World} {a : Option Addr} {n c : Nat} {zs : List Int} (g : Good w a n c zs) (h : zs.length ≠ 0) : ∃ b off, a = some ⟨b, off, none⟩ := by
  obtain ⟨b, off, e, _⟩ := g.2.1.2.resolve_left (by rintro rfl; simp at h)
  exact ⟨b, off, e⟩

theorem rd_at {w : World} {b off : Nat} {zs : List Int} (h : RD w (some ⟨b, off, none⟩) zs) (j : Nat) (hj : j < zs.length) : w.cell? ⟨b, off + j, none⟩ = some (.int .u8 (zs.getD j 0)) := by
  obtain ⟨b2, off2, e, hc⟩ := h.2.resolve_left (by rintro rfl; simp at hj)
  simp only [Option.some.injEq, Addr.mk.injEq, and_true] at e
  obtain ⟨rfl, rfl⟩ := e
  exact hc j hj

set_option maxRecDepth 100000 in
set_option maxHeartbeats 2000000 in
theorem order_in (a0 : Option Addr) (c0 : Nat) (xs : List Int) (a1 : Option Addr) (c1 : Nat) (ys : List Int) (w : World) (g0 : Good w a0 xs.length c0 xs) (g1 : Good w a1 xs.length c1 ys)
    (h0 : xs.length ≠ 0) (h1 : xs.length ≤ 15) (hx : allD xs = true) (hy : allD ys = true) :
    Calls Try.prog 9 #[.slice a0 xs.length c0, .slice a1 xs.length c1] w fun e w' => e = .returned (.bool true) ∧ Below w.heap.size w w' := by
  have hl := g1.1
  obtain ⟨b, off, rfl⟩ := some_of g0 h0
  obtain ⟨b', off', rfl⟩ := some_of g1 (by omega)
  have hneq := fun wx => run_neq_slice_nil_any (P := Try.prog) wx 22 5 (some ⟨b, off, none⟩) xs.length c0 0 0 Try.underlying22
  have hneq' := fun wx => run_neq_slice_nil_any (P := Try.prog) wx 22 5 (some ⟨b', off', none⟩) xs.length c1 0 0 Try.underlying22
  obtain ⟨HS0, HS1, hway⟩ := order_law xs ys hl.symm hx hy h0 h1
  have HS0 : Hid (si xs = (num xs, true)) := HS0
  have HS1 : Hid (si ys = (num ys, true)) := HS1
  have hnz : ((xs.length : Int) == 0) = false := beq_eq_false_iff_ne.2 (by omega)
  have hnl : decide (15 < (xs.length : Int)) = false := decide_eq_false (by omega)
  have G0 : Hid (Good w (some ⟨b, off, none⟩) xs.length c0 xs) := g0
  have G1 : Hid (Good w (some ⟨b', off', none⟩) xs.length c1 ys) := g1
  have HX : Hid (allD xs = true) := hx
  have HY : Hid (allD ys = true) := hy
  have HL : Hid (xs.length = ys.length) := hl
  clear g0 g1 hx hy hl
  go_enter Try.func9, Try.ntmps9
  go_wp2_with (go_at_call 22; go_in)
  refine (allDigits_any _ _ _ xs _ rfl (by omega) G0.out.2.1).mono ?_
  rintro e w1 ⟨rfl, rfl⟩
  simp only [HX.out]
  go_wp2_with fail
  refine (allDigits_any _ _ _ ys _ HL.out (by omega) G1.out.2.1).mono ?_
  rintro e w2 ⟨rfl, rfl⟩
  simp only [HY.out]
  go_wp2_with (first
    | (at_make; refine wpList_mk _ rfl (.tmp 50) (.tmp 50) rfl _ _ xs.length rfl rfl rfl rfl (by omega) ?_; intro w3 HG3 hB3)
    | ((with_reducible refine at_copy ?_); refine wpList_cp _ rfl (.tmp 52) (.tmp 53) rfl _ _ _ _ _ xs rfl rfl HG3 rfl rfl (show Hid (RD w3 _ xs) from G0.out.2.1.later hB3) ?_; intro w4 HR4 hB4)
    | (at_make; refine wpList_mk _ rfl (.tmp 59) (.tmp 59) rfl _ _ xs.length rfl rfl rfl rfl (by omega) ?_; intro w5 HG5 hB5)
    | ((with_reducible refine at_copy ?_); refine wpList_cp _ rfl (.tmp 61) (.tmp 62) rfl _ _ _ _ _ ys rfl rfl HG5 HL.out HL.out (show Hid (RD w5 _ ys) from (G1.out.2.1.later (hB3.trans hB4)).later hB5) ?_; intro w6 HR6 hB6))
  have HR4' : Hid (RD w6 _ xs) := HR4.out.later (hB5.trans hB6)
  refine (ZZsmallInteger_any _ _ _ xs _ rfl (by omega) HR4'.out).mono ?_
  rintro e w7 ⟨rfl, rfl⟩
  simp only [HS0.out]
  go_wp2_with fail
  refine (ZZsmallInteger_any _ _ _ ys _ HL.out (by omega) HR6.out).mono ?_
  rintro e w8 ⟨rfl, rfl⟩
  simp only [HS1.out]
  go_wp2_with fail
  refine (compare_any _ _ _ _ _ _ xs ys _ HL.out.symm (by omega) HR4'.out.1 HR6.out.1 (rd_at HR4'.out) (rd_at HR6.out)).mono ?_
  rintro e w9 ⟨rfl, nd, rfl⟩
  have hfin : Below w2.heap.size w2 (w8.drewN nd) := below_drewN ((hB3.trans hB4).trans ((hB5.trans hB6).mono (hB3.trans hB4).size)) nd
  rcases hway with ⟨e, hlt⟩ | ⟨e, hlt⟩ | ⟨e, heq⟩
  · rw [e]
    go_wp2_with fail
    go_ret
    exact ⟨rfl, hfin⟩
  · rw [e]
    go_wp2_with fail
    go_ret
    exact ⟨rfl, hfin⟩
  · rw [e]
    go_wp2_with fail
    go_ret
    exact ⟨by simp, hfin⟩

set_option maxRecDepth 100000 in
set_option maxHeartbeats 2000000 in
/-- the ways on which the law answers at once, by the lengths alone -/
theorem order_out (a0 : Option Addr) (n0 c0 : Nat) (a1 : Option Addr) (n1 c1 : Nat) (w : World) (b0 : n0 ≤ 9223372036854775807) (b1 : n1 ≤ 9223372036854775807)
    (h : 524288 < n0 ∨ (n0 ≤ 524288 ∧ 524288 < n1) ∨ (n0 ≤ 524288 ∧ n1 ≤ 524288 ∧ n0 ≠ n1)) :
    Calls Try.prog 9 #[.slice a0 n0 c0, .slice a1 n1 c1] w fun e w' => e = .returned (.bool true) ∧ Below w.heap.size w w' := by
  rcases h with h | ⟨h0, h1⟩ | ⟨h0, h1, h2⟩
  · go_enter Try.func9, Try.ntmps9
    go_wp2
    all_goals
      go_ret
      exact ⟨rfl, Below.refl _ _⟩
  · go_enter Try.func9, Try.ntmps9
    go_wp2
    all_goals
      go_ret
      exact ⟨rfl, Below.refl _ _⟩
  · have h2b : ((n0 : Int) != n1) = true := bne_iff_ne.2 (by omega)
    clear h2
    go_enter Try.func9, Try.ntmps9
    go_wp2
    all_goals
      go_ret
      exact ⟨rfl, Below.refl _ _⟩

set_option maxRecDepth 100000 in
set_option maxHeartbeats 2000000 in
theorem order_len (a0 : Option Addr) (n c0 : Nat) (a1 : Option Addr) (c1 : Nat) (w : World) (h : n = 0 ∨ (15 < n ∧ n ≤ 524288)) :
    Calls Try.prog 9 #[.slice a0 n c0, .slice a1 n c1] w fun e w' => e = .returned (.bool true) ∧ Below w.heap.size w w' := by
  rcases h with rfl | ⟨h0, h1⟩
  · go_enter Try.func9, Try.ntmps9
    go_wp2
    all_goals
      go_ret
      exact ⟨rfl, Below.refl _ _⟩
  · have hnz : ((n : Int) == 0) = false := beq_eq_false_iff_ne.2 (by omega)
    have hnl : decide (15 < (n : Int)) = true := decide_eq_true (by omega)
    go_enter Try.func9, Try.ntmps9
    go_wp2
    all_goals
      go_ret
      exact ⟨rfl, Below.refl _ _⟩

set_option maxRecDepth 100000 in
set_option maxHeartbeats 2000000 in
theorem order_bad (a0 : Option Addr) (c0 : Nat) (xs : List Int) (a1 : Option Addr) (c1 : Nat) (ys : List Int) (w : World) (g0 : Good w a0 xs.length c0 xs) (g1 : Good w a1 xs.length c1 ys)
    (h0 : xs.length ≠ 0) (h1 : xs.length ≤ 15) (h : allD xs = false ∨ (allD xs = true ∧ allD ys = false)) :
    Calls Try.prog 9 #[.slice a0 xs.length c0, .slice a1 xs.length c1] w fun e w' => e = .returned (.bool true) ∧ Below w.heap.size w w' := by
  have hnz : ((xs.length : Int) == 0) = false := beq_eq_false_iff_ne.2 (by omega)
  have hnl : decide (15 < (xs.length : Int)) = false := decide_eq_false (by omega)
  have G0 : Hid (Good w a0 xs.length c0 xs) := g0
  have G1 : Hid (Good w a1 xs.length c1 ys) := g1
  clear g0 g1
  rcases h with hx | ⟨hx, hy⟩
  · have HX : Hid (allD xs = false) := hx
    clear hx
    go_enter Try.func9, Try.ntmps9
    go_wp2_with (go_at_call 22; go_in)
    refine (allDigits_any _ _ _ xs _ rfl (by omega) G0.out.2.1).mono ?_
    rintro e w1 ⟨rfl, rfl⟩
    simp only [HX.out]
    go_wp2_with fail
    go_ret
    exact ⟨rfl, Below.refl _ _⟩
  · have HX : Hid (allD xs = true) := hx
    have HY : Hid (allD ys = false) := hy
    clear hx hy
    go_enter Try.func9, Try.ntmps9
    go_wp2_with (go_at_call 22; go_in)
    refine (allDigits_any _ _ _ xs _ rfl (by omega) G0.out.2.1).mono ?_
    rintro e w1 ⟨rfl, rfl⟩
    simp only [HX.out]
    go_wp2_with fail
    refine (allDigits_any _ _ _ ys _ G1.out.1 (by omega) G1.out.2.1).mono ?_
    rintro e w2 ⟨rfl, rfl⟩
    simp only [HY.out]
    go_wp2_with fail
    go_ret
    exact ⟨rfl, Below.refl _ _⟩

theorem order_any (a0 : Option Addr) (n0 c0 : Nat) (xs : List Int) (a1 : Option Addr) (n1 c1 : Nat) (ys : List Int) (w : World) (g0 : Good w a0 n0 c0 xs) (g1 : Good w a1 n1 c1 ys) :
    Calls Try.prog 9 #[.slice a0 n0 c0, .slice a1 n1 c1] w fun e w' => e = .returned (.bool true) ∧ Below w.heap.size w w' := by
  by_cases h : 524288 < n0 ∨ (n0 ≤ 524288 ∧ 524288 < n1) ∨ (n0 ≤ 524288 ∧ n1 ≤ 524288 ∧ n0 ≠ n1)
  · exact order_out a0 n0 c0 a1 n1 c1 w g0.2.2.2 g1.2.2.2 h
  · obtain rfl : n0 = n1 := by omega
    by_cases h2 : n0 = 0 ∨ (15 < n0 ∧ n0 ≤ 524288)
    · exact order_len a0 n0 c0 a1 c1 w h2
    · obtain rfl := g0.1
      cases hx : allD xs with
      | false => exact order_bad a0 c0 xs a1 c1 ys w g0 g1 (by omega) (by omega) (.inl hx)
      | true =>
        cases hy : allD ys with
        | false => exact order_bad a0 c0 xs a1 c1 ys w g0 g1 (by omega) (by omega) (.inr ⟨hx, hy⟩)
        | true => exact order_in a0 c0 xs a1 c1 ys w g0 g1 (by omega) (by omega) hx hy
end Go.Proofs.Qxb6604230a
