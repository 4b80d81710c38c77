import Derived.Test.Qxb6604230aBase
import Derived.Test.Qxb6604230aPlainInt
namespace Go.Proofs.Qxb6604230a
open Go.RowKit Pl

theorem pow_bd (n : Int) (k : Nat) (hk : k ≤ 14) (h : n < 10 ^ k) : n ≤ 99999999999999 := by
  have := pow_mono hk; omega
theorem si_step {zs : List Int} {k : Nat} (n : Int) (h : k < zs.length) : siGo n (zs.drop k) = if isd (zs[k]?.getD 0) = true then siGo (n * 10 + (zs[k]?.getD 0 - 48)) (zs.drop (k + 1)) else (0, false) := by
  rw [drop_cons h]; rfl
theorem isd_yes {c : Int} (h1 : 48 ≤ c) (h2 : c ≤ 57) : isd c = true := by simp [isd, h1, h2]
theorem isd_no {c : Int} (h : c < 48 ∨ 57 < c) : isd c = false := by simp [isd]; omega
theorem step_bd {n c : Int} {k : Nat} (h : n < 10 ^ k) (h2 : c ≤ 57) : n * 10 + (c - 48) < 10 ^ (k + 1) := by
  rw [Int.pow_succ]; omega

set_option maxHeartbeats 400000 in
theorem smallInteger_any (a : Option Addr) (n cap : Nat) (zs : List Int) (w : World) (hn : n = zs.length) (hmx : n ≤ 1048576) (hr : RD w a zs) :
    Calls Try.prog 29 #[.slice a n cap] w fun e w' => e = .returned (.tuple #[.int .i64 (si zs).1, .bool (si zs).2]) ∧ w' = w := by
  subst hn
  obtain ⟨hbd, hr⟩ := hr
  by_cases h0 : zs.length = 0
  · have hz : si zs = (0, false) := si_no _ (.inl h0)
    have HZ : Hid (si zs = (0, false)) := hz
    clear hz hr
    have hl : ((zs.length : Int) == 0) = true := beq_iff_eq.2 (by omega)
    go_enter Try.func29, Try.ntmps29
    go_wp2
    go_ret2
    rw [HZ.out]
    exact ⟨rfl, rfl⟩
  · by_cases h1 : 15 < zs.length
    · have HZ : Hid (si zs = (0, false)) := si_no _ (.inr (.inl h1))
      clear hr
      have hl : ((zs.length : Int) == 0) = false := beq_eq_false_iff_ne.2 (by omega)
      go_enter Try.func29, Try.ntmps29
      go_wp2
      go_ret2
      rw [HZ.out]
      exact ⟨rfl, rfl⟩
    · obtain ⟨b, off, rfl, hc⟩ := hr.resolve_left (by rintro rfl; simp at h0)
      clear hr
      have hl : ((zs.length : Int) == 0) = false := beq_eq_false_iff_ne.2 (by omega)
      have HZ : Hid (si zs = siGo 0 (zs.drop 0)) := by show _ = _; unfold si; rw [if_neg (by omega)]; rfl
      go_enter Try.func29, Try.ntmps29
      go_wp2
      go_loop [4, 17] (fun v i => ∃ (n : Int) (k : Nat), k ≤ zs.length ∧ i = .int .i64 k ∧ v = .int .i64 n ∧ 0 ≤ n ∧ n < 10 ^ k ∧ Hid (si zs = siGo n (zs.drop k))) (fun _ i => zs.length - (intOf i).toNat)
      case atStart => exact ⟨0, 0, by omega, rfl, rfl, by omega, by decide, HZ⟩
      case round =>
        obtain ⟨n, k, hk, rfl, rfl, hn0, hn1, H⟩ := hrel
        by_cases hlt : k < zs.length
        · obtain ⟨c, hcx, hb, HS⟩ : ∃ c : Int, w.cell? ⟨b, off + k, none⟩ = some (.int .u8 c) ∧ (0 ≤ c ∧ c ≤ 255) ∧ Hid (si zs = if isd c = true then siGo (n * 10 + (c - 48)) (zs.drop (k + 1)) else (0, false)) :=
            ⟨_, hc k hlt, hbd k, by show _ = _; rw [H.out, si_step n hlt]; rfl⟩
          have hn2 := pow_bd n k (by omega) hn1
          have HN : Hid (n < 10 ^ k) := hn1
          obtain ⟨hb0, hb1⟩ := hb
          clear H hc HZ hbd hn1
          by_cases hd : 48 ≤ c ∧ c ≤ 57
          · obtain ⟨hd0, hd1⟩ := hd
            go_wp2
            go_round
            case rel => exact ⟨_, k + 1, by omega, by go_num, rfl, by omega, step_bd HN.out hd1, by show _ = _; rw [HS.out, if_pos (isd_yes hd0 hd1)]⟩
            case measure => simp [intOf]; omega
          · have e : si zs = (0, false) := by rw [HS.out, isd_no (by omega)]; rfl
            have HE : Hid (si zs = (0, false)) := e
            clear e HS HN
            by_cases hd0 : c < 48
            · go_wp2
              go_ret2
              rw [HE.out]
              exact ⟨rfl, rfl⟩
            · have hd1 : 57 < c := by omega
              clear hd
              go_wp2
              go_ret2
              rw [HE.out]
              exact ⟨rfl, rfl⟩
        · go_wp2
          go_ret2
          have e : si zs = (n, true) := by rw [H.out, drop_none hlt]; rfl
          rw [e]
          exact ⟨rfl, rfl⟩
end Go.Proofs.Qxb6604230a
