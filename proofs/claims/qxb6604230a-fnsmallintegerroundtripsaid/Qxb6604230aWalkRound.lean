/-
  THE WALK OF FnSmallIntegerRoundTrip.
-/
import Derived.Test.Qxb6604230aWalkInt2
namespace Go.Proofs.Qxb6604230a
open Go.RowKit Pl

theorem zeros_bd (k : Nat) (j : Nat) : 0 ≤ (List.replicate k (48 : Int))[j]?.getD 0 ∧ (List.replicate k (48 : Int))[j]?.getD 0 ≤ 255 := by
  by_cases h : j < k
  · simp [h]
  · simp [List.getElem?_eq_none (by simp; omega : (List.replicate k (48 : Int)).length ≤ j)]
theorem rd_one (w : World) : RD (w.alloc (.cells #[.int .u8 48] 5)) (some ⟨w.heap.size, 0, none⟩) [48] := by
  refine RD.block (t := 5) (fun j => ?_) (heap_alloc_new w _)
  exact zeros_bd 1 j

set_option maxHeartbeats 1000000 in
theorem round_in (n : Int) (p : Nat) (w : World) (h0 : -9223372036854775808 ≤ n) (h1 : n ≤ 9223372036854775807) (hp : p ≤ 65536) :
    Calls Try.prog 8 #[.int .i64 n, .int .i64 p] w fun e w' => e = .returned (.bool true) ∧ Below w.heap.size w w' := by
  have hpb : decide ((p : Int) < 0) = false := by simp
  have hpc : decide ((65536 : Int) < p) = false := by simp; omega
  go_enter Try.func8, Try.ntmps8
  go_wp2_with (first
    | (go_at_call 21; refine (zzItoa_any n w h0 h1).mono ?_; rintro e w1 ⟨d, g, rfl, hd, hr, hb1⟩; have HD : Hid (IsDec n d) := hd; have HR : Hid (RD w1 (some ⟨g, 0, none⟩) d) := hr; have hdl := hd.1; have hdn := hd.2.1; clear hd hr)
    | (at_make; refine wpList_mk0 _ rfl _ _ rfl _ (p + d.length) rfl rfl (by omega) (by omega) ?_; intro w2 HO2 hb2))
  go_loopw [6, 7] (fun v k wr => ∃ kk : Nat, kk ≤ p ∧ k = .int .i64 kk ∧ v = .slice (some ⟨w1.heap.size, 0, none⟩) kk (p + d.length) ∧ Own wr w1.heap.size w1.heap.size kk (p + d.length) (List.replicate kk 48) ∧ Below w1.heap.size w1 wr)
    (fun _ k _ => p - (intOf k).toNat)
  case atStart => exact ⟨0, by omega, rfl, rfl, HO2, hb2⟩
  case round =>
    obtain ⟨kk, hk, rfl, rfl, HO, hb⟩ := hrel
    clear HO2 hb2
    by_cases hlt : kk < p
    · have hsz := (World.ownsRow.lt HO w1.heap.size rfl).2
      go_wp2_with (at_builtin; refine wpList_ap _ rfl _ _ rfl w1.heap.size w1.heap.size kk (p + d.length) (List.replicate kk 48) _ _ _ [48] rfl rfl (World.ownsRow.alloc HO _) rfl (rd_one wr) (by simp) (by omega) ?_; intro w3 HO3 hb3)
      go_roundw
      case rel => exact ⟨kk + 1, by omega, by go_num, rfl, by rw [List.replicate_succ']; exact HO3, (hb.alloc (by omega) _).trans hb3⟩
      case measure => simp [intOf]; omega
    · have e : kk = p := by omega
      subst e
      have hRb := HR.out.1
      have HB : Hid (∀ j : Nat, 0 ≤ d[j]?.getD 0 ∧ d[j]?.getD 0 ≤ 255) := hRb
      clear hRb
      have hRT := round_trip n kk d HD.out
      by_cases hn : n < 0
      · rw [if_pos (.inl hn)] at hRT
        have HS : Hid (si (List.replicate kk 48 ++ d) = (0, false)) := hRT
        have hnb : decide (n < 0) = true := by simpa using hn
        clear hRT
        go_wp2_with (first
          | (at_builtin; refine wpList_ap _ rfl _ _ rfl w1.heap.size w1.heap.size kk (kk + d.length) (List.replicate kk 48) _ _ _ d rfl rfl HO rfl (HR.out.later hb) (by simp) (by omega) ?_; intro w3 HO3 hb3)
          | (go_at_call 19; refine (ZZsmallInteger_any _ _ _ (List.replicate kk 48 ++ d) _ HO3.len (by omega) (HO3.rd (bd_app (zeros_bd kk) HB.out))).mono ?_; rintro e w4 ⟨rfl, rfl⟩; simp only [HS.out]))
        go_ret
        exact ⟨rfl, hb1.trans ((hb.trans hb3).mono hb1.size)⟩
      · have hnb : decide (n < 0) = false := by simpa using hn
        by_cases hl : 15 < kk + d.length
        · rw [if_pos (.inr (by simpa using hl))] at hRT
          have HS : Hid (si (List.replicate kk 48 ++ d) = (0, false)) := hRT
          have hlb : decide ((15 : Int) < (kk : Int) + d.length) = true := by simp; omega
          clear hRT
          go_wp2_with (first
            | (at_builtin; refine wpList_ap _ rfl _ _ rfl w1.heap.size w1.heap.size kk (kk + d.length) (List.replicate kk 48) _ _ _ d rfl rfl HO rfl (HR.out.later hb) (by simp) (by omega) ?_; intro w3 HO3 hb3)
            | (go_at_call 19; refine (ZZsmallInteger_any _ _ _ (List.replicate kk 48 ++ d) _ HO3.len (by omega) (HO3.rd (bd_app (zeros_bd kk) HB.out))).mono ?_; rintro e w4 ⟨rfl, rfl⟩; simp only [HS.out]))
          go_ret
          exact ⟨rfl, hb1.trans ((hb.trans hb3).mono hb1.size)⟩
        · rw [if_neg (by simp; omega)] at hRT
          have HS : Hid (si (List.replicate kk 48 ++ d) = (n, true)) := hRT
          have hlb : decide ((15 : Int) < (kk : Int) + d.length) = false := by simp; omega
          clear hRT
          go_wp2_with (first
            | (at_builtin; refine wpList_ap _ rfl _ _ rfl w1.heap.size w1.heap.size kk (kk + d.length) (List.replicate kk 48) _ _ _ d rfl rfl HO rfl (HR.out.later hb) (by simp) (by omega) ?_; intro w3 HO3 hb3)
            | (go_at_call 19; refine (ZZsmallInteger_any _ _ _ (List.replicate kk 48 ++ d) _ HO3.len (by omega) (HO3.rd (bd_app (zeros_bd kk) HB.out))).mono ?_; rintro e w4 ⟨rfl, rfl⟩; simp only [HS.out]))
          go_ret
          exact ⟨rfl, hb1.trans ((hb.trans hb3).mono hb1.size)⟩

set_option maxHeartbeats 400000 in
theorem round_any (n a : Int) (w : World) (h0 : -9223372036854775808 ≤ n) (h1 : n ≤ 9223372036854775807) :
    Calls Try.prog 8 #[.int .i64 n, .int .i64 a] w fun e w' => e = .returned (.bool true) ∧ Below w.heap.size w w' := by
  by_cases ha : a < 0
  · go_enter Try.func8, Try.ntmps8
    go_wp2
    go_ret
    exact ⟨rfl, Below.refl _ _⟩
  · by_cases hb : 65536 < a
    · have ha' : decide (a < 0) = false := by simpa using ha
      go_enter Try.func8, Try.ntmps8
      go_wp2
      go_ret
      exact ⟨rfl, Below.refl _ _⟩
    · obtain ⟨p, rfl⟩ := Int.eq_ofNat_of_zero_le (show 0 ≤ a by omega)
      exact round_in n p w h0 h1 (by omega)
end Go.Proofs.Qxb6604230a
