/-
  THE WALKS OF zzLowerByte, zzMapCase, equalLower.
-/
import Derived.Test.Qxb6604230aBase
import Derived.Test.Qxb6604230aPlainCase
namespace Go.Proofs.Qxb6604230a
open Go.RowKit Pl

/-- the bytes of a string, as numbers -/
def bs (s : ByteArray) : List Int := s.data.toList.map fun b => (b.toNat : Int)
theorem bs_len (s : ByteArray) : (bs s).length = s.size := by unfold bs; rw [List.length_map]; rfl
theorem bs_drop (s : ByteArray) (k : Nat) (h : k < s.size) : (bs s).drop k = (s[k].toNat : Int) :: (bs s).drop (k + 1) := by
  rw [List.drop_eq_getElem_cons (by rw [bs_len]; exact h)]
  congr 1
  simp [bs]; rfl

theorem el_step {zs : List Int} {s : ByteArray} {k : Nat} {c : Int} (h1 : k < zs.length) (h2 : k < s.size) (hc : zs[k]?.getD 0 = c) :
    elow (zs.drop k) ((bs s).drop k) = (low c == (s[k].toNat : Int) && elow (zs.drop (k + 1)) ((bs s).drop (k + 1))) := by
  rw [drop_cons h1, bs_drop s k h2, hc]; rfl
theorem el_no {zs : List Int} {s : ByteArray} {k : Nat} {c x : Int} (h1 : k < zs.length) (h2 : k < s.size) (hc : zs[k]?.getD 0 = c) (hx : low c = x) (h : (x != (s[k].toNat : Int)) = true) : elow (zs.drop k) ((bs s).drop k) = false := by
  rw [el_step h1 h2 hc, hx]
  have : (x == (s[k].toNat : Int)) = false := by rw [bne_iff_ne] at h; exact beq_eq_false_iff_ne.2 h
  rw [this]; rfl
theorem el_yes {zs : List Int} {s : ByteArray} {k : Nat} {c x : Int} (h1 : k < zs.length) (h2 : k < s.size) (hc : zs[k]?.getD 0 = c) (hx : low c = x) (h : (x != (s[k].toNat : Int)) = false) : elow (zs.drop k) ((bs s).drop k) = elow (zs.drop (k + 1)) ((bs s).drop (k + 1)) := by
  rw [el_step h1 h2 hc, hx]
  have : (x == (s[k].toNat : Int)) = true := by
    rw [beq_iff_eq]
    refine Classical.byContradiction fun hn => ?_
    rw [bne_iff_ne.2 hn] at h
    cases h
  rw [this]; rfl

set_option maxHeartbeats 1000000 in
theorem equalLower_some (b off cap : Nat) (zs : List Int) (s : ByteArray) (w : World) (hl : s.size = zs.length) (hmx : zs.length ≤ 1048576) (hbd : ∀ j : Nat, 0 ≤ zs[j]?.getD 0 ∧ zs[j]?.getD 0 ≤ 255) (hc : ∀ j, j < zs.length → w.cell? ⟨b, off + j, none⟩ = some (.int .u8 (zs.getD j 0))) :
    Calls Try.prog 28 #[.slice (some ⟨b, off, none⟩) zs.length cap, .string s] w fun e w' => e = .returned (.bool (elow zs (bs s))) ∧ w' = w := by
  obtain ⟨T, HT⟩ : ∃ T, Hid (T = elow zs (bs s)) := ⟨_, rfl⟩
  rw [← HT.out]
  have hne : ((zs.length : Int) != s.size) = false := by simp [hl]
  have HL : Hid (s.size = zs.length) := hl
  clear hl
  go_enter Try.func28, Try.ntmps28
  go_wp2
  go_loop [14, 5, 6] (fun i _ _ => ∃ k : Nat, i = .int .i64 k ∧ k ≤ zs.length ∧ Hid (T = elow (zs.drop k) ((bs s).drop k))) (fun i _ _ => zs.length - (intOf i).toNat)
  case atStart => exact ⟨0, rfl, by omega, HT⟩
  case round =>
    obtain ⟨k, rfl, hk, H⟩ := hrel
    clear HT
    by_cases hlt : k < zs.length
    · obtain ⟨c, hcx, hb0, hb1, HC⟩ : ∃ c : Int, w.cell? ⟨b, off + k, none⟩ = some (.int .u8 c) ∧ 0 ≤ c ∧ c ≤ 255 ∧ Hid (zs[k]?.getD 0 = c) := ⟨_, hc k hlt, (hbd k).1, (hbd k).2, rfl⟩
      have hls : k < s.size := by rw [HL.out]; exact hlt
      clear hc hbd
      by_cases h1 : 65 ≤ c
      · by_cases h2 : c ≤ 90
        · have HX : Hid (low c = c + 32) := by show _ = _; simp [low, h1, h2]
          go_wp2
          · have HE : Hid (T = false) := by show _ = _; rw [H.out, el_no hlt hls HC.out HX.out (by assumption)]
            go_ret
            rw [HE.out]
            exact ⟨rfl, rfl⟩
          · have H2 : Hid (T = elow (zs.drop (k + 1)) ((bs s).drop (k + 1))) := by show _ = _; rw [H.out, el_yes hlt hls HC.out HX.out (by assumption)]
            go_round
            case rel => exact ⟨k + 1, by go_num, by omega, H2⟩
            case measure => simp [intOf]; omega
        · have h2b : decide (c ≤ 90) = false := by simpa using h2
          have HX : Hid (low c = c) := by show _ = _; simp [low]; omega
          go_wp2
          · have HE : Hid (T = false) := by show _ = _; rw [H.out, el_no hlt hls HC.out HX.out (by assumption)]
            go_ret
            rw [HE.out]
            exact ⟨rfl, rfl⟩
          · have H2 : Hid (T = elow (zs.drop (k + 1)) ((bs s).drop (k + 1))) := by show _ = _; rw [H.out, el_yes hlt hls HC.out HX.out (by assumption)]
            go_round
            case rel => exact ⟨k + 1, by go_num, by omega, H2⟩
            case measure => simp [intOf]; omega
      · have h1b : decide (65 ≤ c) = false := by simpa using h1
        have HX : Hid (low c = c) := by show _ = _; simp [low]; omega
        go_wp2
        · have HE : Hid (T = false) := by show _ = _; rw [H.out, el_no hlt hls HC.out HX.out (by assumption)]
          go_ret
          rw [HE.out]
          exact ⟨rfl, rfl⟩
        · have H2 : Hid (T = elow (zs.drop (k + 1)) ((bs s).drop (k + 1))) := by show _ = _; rw [H.out, el_yes hlt hls HC.out HX.out (by assumption)]
          go_round
          case rel => exact ⟨k + 1, by go_num, by omega, H2⟩
          case measure => simp [intOf]; omega
    · have HE : Hid (T = true) := by show _ = _; rw [H.out, drop_none hlt, List.drop_eq_nil_of_le (by rw [bs_len]; have := HL.out; omega)]; rfl
      go_wp2
      go_ret
      rw [HE.out]
      exact ⟨rfl, rfl⟩

set_option maxHeartbeats 400000 in
theorem equalLower_len (a : Option Addr) (n cap : Nat) (s : ByteArray) (w : World) (h : n ≠ s.size) :
    Calls Try.prog 28 #[.slice a n cap, .string s] w fun e w' => e = .returned (.bool false) ∧ w' = w := by
  have hne : ((n : Int) != s.size) = true := bne_iff_ne.2 (by omega)
  clear h
  go_enter Try.func28, Try.ntmps28
  go_wp2
  go_ret
  exact ⟨rfl, rfl⟩

set_option maxHeartbeats 400000 in
theorem equalLower_none (a : Option Addr) (cap : Nat) (s : ByteArray) (w : World) (h : s.size = 0) :
    Calls Try.prog 28 #[.slice a 0 cap, .string s] w fun e w' => e = .returned (.bool true) ∧ w' = w := by
  have hne : ((0 : Int) != s.size) = false := by simp [h]
  clear h
  go_enter Try.func28, Try.ntmps28
  go_wp2
  refine wp_loop_rounds 1 ?_
  rw [rounds_succ]
  go_wp2
  go_ret
  exact ⟨rfl, rfl⟩

theorem equalLower_any (a : Option Addr) (n cap : Nat) (zs : List Int) (s : ByteArray) (w : World) (hn : n = zs.length) (hmx : n ≤ 1048576) (hr : RD w a zs) :
    Calls Try.prog 28 #[.slice a n cap, .string s] w fun e w' => e = .returned (.bool (elow zs (bs s))) ∧ w' = w := by
  subst hn
  by_cases hl : s.size = zs.length
  · rcases hr.2 with rfl | ⟨b, off, rfl, hc⟩
    · have e : elow [] (bs s) = true := by
        have : bs s = [] := List.eq_nil_of_length_eq_zero (by rw [bs_len]; exact hl)
        rw [this]; rfl
      rw [e]
      exact equalLower_none a cap s w hl
    · exact equalLower_some b off cap zs s w hl hmx hr.1 hc
  · rw [elow_len zs (bs s) (by rw [bs_len]; omega)]
    exact equalLower_len a _ cap s w (by omega)

set_option maxHeartbeats 400000 in
theorem ZZequalLower_any (a : Option Addr) (n cap : Nat) (zs : List Int) (s : ByteArray) (w : World) (hn : n = zs.length) (hmx : n ≤ 1048576) (hr : RD w a zs) :
    Calls Try.prog 17 #[.slice a n cap, .string s] w fun e w' => e = .returned (.bool (elow zs (bs s))) ∧ w' = w := by
  obtain ⟨T, HT⟩ : ∃ T, Hid (elow zs (bs s) = T) := ⟨_, rfl⟩
  have h28 := equalLower_any a n cap zs s w hn hmx hr
  rw [HT.out] at h28 ⊢
  have H28 : Hid (Calls Try.prog 28 #[.slice a n cap, .string s] w fun e w' => e = .returned (.bool T) ∧ w' = w) := h28
  clear h28 hn hr
  go_enter Try.func17, Try.ntmps17
  go_wp2_with (go_at_call 28; refine H28.out.mono ?_; rintro e w' ⟨rfl, rfl⟩)
  go_ret
  exact ⟨rfl, rfl⟩

theorem ret_u8 {a b : Int} (h : a = b) : Ending.returned (.int .u8 a) = .returned (.int .u8 b) := by rw [h]
set_option maxHeartbeats 400000 in
theorem lowerByte_any (c : Int) (w : World) (h0 : 0 ≤ c) (h1 : c ≤ 255) :
    Calls Try.prog 27 #[.int .u8 c] w fun e w' => e = .returned (.int .u8 (low c)) ∧ w' = w := by
  by_cases ha : 65 ≤ c
  · by_cases hb : c ≤ 90
    · have e : low c = c + 32 := by simp [low, ha, hb]
      rw [e]
      clear e
      go_enter Try.func27, Try.ntmps27
      go_wp2
      go_ret
      exact ⟨rfl, rfl⟩
    · have e : low c = c := by simp [low]; omega
      have hb' : decide (c ≤ 90) = false := by simpa using hb
      rw [e]
      clear e
      go_enter Try.func27, Try.ntmps27
      go_wp2
      go_ret
      exact ⟨rfl, rfl⟩
  · have e : low c = c := by simp [low]; omega
    have ha' : decide (65 ≤ c) = false := by simpa using ha
    rw [e]
    clear e
    go_enter Try.func27, Try.ntmps27
    go_wp2
    go_ret
    exact ⟨rfl, rfl⟩
end Go.Proofs.Qxb6604230a
