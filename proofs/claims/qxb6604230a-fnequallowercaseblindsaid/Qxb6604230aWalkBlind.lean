/-
  THE WALK OF FnEqualLowerCaseBlind.
-/
import Derived.Test.Qxb6604230aWalkCase2
import Derived.Laws.BytesArg
namespace Go.Proofs.Qxb6604230a
open Go.RowKit Pl

theorem bs_str (xs : List Int) (h : ∀ j : Nat, 0 ≤ xs[j]?.getD 0 ∧ xs[j]?.getD 0 ≤ 255) : bs (strOfNums xs) = xs := by
  unfold bs
  rw [strOfNums_data, List.map_map]
  apply List.ext_getElem
  · simp
  · intro j h1 h2
    have hj := h j
    simp [List.getElem?_eq_getElem h2] at hj
    simp
    omega
theorem rd_cell {w : World} {b off : Nat} {zs : List Int} (h : RD w (some ⟨b, off, none⟩) zs) (j : Nat) (hj : j < zs.length) : w.cell? ⟨b, off + j, none⟩ = some (.int .u8 (zs.getD j 0)) := by
  obtain ⟨b2, off2, e, hc⟩ := h.2.resolve_left (by rintro rfl; simp at hj)
  simp only [Option.some.injEq, Addr.mk.injEq, and_true] at e
  obtain ⟨rfl, rfl⟩ := e
  exact hc j hj
theorem mc_up (zs bs : List Int) : elow (zs.map (mc true)) bs = elow zs bs := elow_up zs bs
theorem mc_low (zs bs : List Int) : elow (zs.map (mc false)) bs = elow zs bs := elow_low zs bs
theorem mc_self (zs : List Int) : elow zs (zs.map (mc false)) = true := elow_self zs

set_option maxRecDepth 100000 in
set_option maxHeartbeats 2000000 in
theorem blind_in (a1 : Option Addr) (n1 c1 : Nat) (ts : List Int) (s : ByteArray) (w : World) (g1 : Good w a1 n1 c1 ts) (h1 : n1 ≤ 524288) (h2 : s.size ≤ 524288) :
    Calls Try.prog 6 #[.slice a1 n1 c1, .string s] w fun e w' => e = .returned (.bool true) ∧ Below w.heap.size w w' := by
  obtain rfl := g1.1
  have hneq := fun wx => run_neq_slice_nil_any (P := Try.prog) wx 22 5 a1 ts.length c1 0 0 Try.underlying22
  have G1 : Hid (Good w a1 ts.length c1 ts) := g1
  clear g1
  go_enter Try.func6, Try.ntmps6
  go_upto_if 24 with (go_in)
  go_cut [0] from 13 (fun v wx => ∃ a c, v = .slice a ts.length c ∧ Hid (Good wx a ts.length c ts) ∧ Below w.heap.size w wx)
  case first =>
    cases a1 with
    | some x =>
      go_wp2_with (first
        | (at_make; refine wpList_mk _ rfl _ _ rfl _ _ ts.length rfl rfl rfl rfl (by omega) ?_; intro w3 HG3 hB3)
        | ((with_reducible refine at_copy ?_); refine wpList_cp _ rfl _ _ rfl _ _ _ _ _ ts rfl rfl HG3 G1.out.1 G1.out.1 (show Hid (RD w3 (some x) ts) from G1.out.2.1.later hB3) ?_; intro w4 HR4 hB4))
      go_meet
      case rel => exact ⟨_, _, rfl, Good.own HR4.out G1.out.1 (by omega), hB3.trans hB4⟩
    | none =>
      go_wp2
      go_meet
      case rel => exact ⟨_, _, rfl, G1, Below.refl _ _⟩
  case rest =>
    obtain ⟨a, c, rfl, GT, hbw⟩ := hcut
    clear G1 hneq
    obtain ⟨T, HT⟩ : ∃ T, Hid (elow ts (bs s) = T) := ⟨_, rfl⟩
    go_wp2_with fail
    refine (mapCase_any a ts.length c ts true _ rfl (by omega) GT.out.2.1).mono ?_
    rintro e w1 ⟨rfl, hr1, hb1⟩
    have HR1 : Hid (RD w1 _ (ts.map (mc true))) := hr1
    have HT1 : Hid (RD w1 a ts) := GT.out.2.1.later hb1
    clear hr1
    go_wp2_with fail
    refine (mapCase_any a ts.length c ts false _ rfl (by omega) HT1.out).mono ?_
    rintro e w2 ⟨rfl, hr2, hb2⟩
    have HR2 : Hid (RD w2 _ (ts.map (mc false))) := hr2
    have HR1' : Hid (RD w2 _ (ts.map (mc true))) := HR1.out.later hb2
    have HT2 : Hid (RD w2 a ts) := HT1.out.later hb2
    clear hr2 HR1 HT1
    go_wp2_with fail
    refine (ZZequalLower_any a _ c ts s _ rfl (by omega) HT2.out).mono ?_
    rintro e w3 ⟨rfl, rfl⟩
    simp only [HT.out]
    go_wp2_with fail
    refine (ZZequalLower_any _ _ _ (ts.map (mc true)) s _ (by simp) (by omega) HR1'.out).mono ?_
    rintro e w4 ⟨rfl, rfl⟩
    simp only [mc_up, HT.out]
    go_wp2_with fail
    refine (ZZequalLower_any _ _ _ (ts.map (mc false)) s _ (by simp) (by omega) HR2.out).mono ?_
    rintro e w5 ⟨rfl, rfl⟩
    simp only [mc_low, HT.out]
    obtain ⟨S, hcv, HS⟩ : ∃ S, (convert 22 9 (.slice (some ⟨w1.heap.size, 0, none⟩) ts.length ts.length)).run Try.prog w5 = .ok (.string S) w5 ∧ Hid (bs S = ts.map (mc false)) :=
      ⟨_, run_convert_bytes_arg w5 22 5 Try.underlying22 Try.underlying5 w1.heap.size 0 ts.length ts.length (ts.map (mc false)) (by simp) (fun j hj => rd_cell HR2.out j (by simpa using hj)) 9 Try.underlying9, bs_str _ HR2.out.1⟩
    go_wp2_with fail
    refine (ZZequalLower_any a _ c ts S _ rfl (by omega) HT2.out).mono ?_
    rintro e w6 ⟨rfl, rfl⟩
    simp only [HS.out, mc_self]
    go_wp2_with fail
    refine (ZZequalLower_any _ _ _ (ts.map (mc true)) S _ (by simp) (by omega) HR1'.out).mono ?_
    rintro e w7 ⟨rfl, rfl⟩
    simp only [mc_up, HS.out, mc_self]
    have hTT : (T == T) = true := by simp
    go_wp2_with fail
    go_ret
    exact ⟨rfl, hbw.trans ((hb1.trans (hb2.mono hb1.size)).mono hbw.size)⟩

set_option maxRecDepth 100000 in
set_option maxHeartbeats 2000000 in
theorem blind_out (a1 : Option Addr) (n1 c1 : Nat) (s : ByteArray) (w : World) (b1 : n1 ≤ 9223372036854775807) (b2 : s.size ≤ 9223372036854775807) (h : 524288 < n1 ∨ (n1 ≤ 524288 ∧ 524288 < s.size)) :
    Calls Try.prog 6 #[.slice a1 n1 c1, .string s] w fun e w' => e = .returned (.bool true) ∧ Below w.heap.size w w' := by
  rcases h with h | ⟨h0, h1⟩
  all_goals
    go_enter Try.func6, Try.ntmps6
    go_wp2
    all_goals
      go_ret
      exact ⟨rfl, Below.refl _ _⟩

theorem blind_any (a1 : Option Addr) (n1 c1 : Nat) (ts : List Int) (s : ByteArray) (w : World) (g1 : Good w a1 n1 c1 ts) (hs : s.size ≤ maxLen) :
    Calls Try.prog 6 #[.slice a1 n1 c1, .string s] w fun e w' => e = .returned (.bool true) ∧ Below w.heap.size w w' := by
  by_cases h : 524288 < n1 ∨ (n1 ≤ 524288 ∧ 524288 < s.size)
  · exact blind_out a1 n1 c1 s w g1.2.2.2 (by unfold maxLen at hs; omega) h
  · exact blind_in a1 n1 c1 ts s w g1 (by omega) (by omega)
end Go.Proofs.Qxb6604230a
