import Derived.Test.Qxb6604230aWalkInt
namespace Go.Proofs.Qxb6604230a
open Go.RowKit Pl

set_option maxHeartbeats 400000 in
theorem ZZsmallInteger_any (a : Option Addr) (n cap : Nat) (zs : List Int) (w : World) (hn : n = zs.length) (hmx : n ≤ 1048576) (hr : RD w a zs) :
    Calls Try.prog 19 #[.slice a n cap] w fun e w' => e = .returned (.tuple #[.int .i64 (si zs).1, .bool (si zs).2]) ∧ w' = w := by
  have HR : Hid (RD w a zs) := hr
  have HN : Hid (n = zs.length) := hn
  clear hr hn
  go_enter Try.func19, Try.ntmps19
  go_wp2_with (go_at_call 29; refine (smallInteger_any a n cap zs w HN.out hmx HR.out).mono ?_; rintro e w' ⟨rfl, rfl⟩)
  go_ret2
  exact ⟨rfl, rfl⟩

/-- the 20 cells of zzItoa's buffer: zeros, then the digits written so far -/
def bufAt (kk : Nat) (d : List Int) (j : Nat) : Value := .int .u8 (if j < kk then 0 else d.getD (j - kk) 0)
theorem bufAt_step (kk : Nat) (d : List Int) (x : Int) (h : 1 ≤ kk) (j : Nat) : (if j = kk - 1 then Value.int .u8 x else bufAt kk d j) = bufAt (kk - 1) (x :: d) j := by
  unfold bufAt
  by_cases h1 : j = kk - 1
  · subst h1; simp
  · rw [if_neg h1]
    by_cases h2 : j < kk
    · rw [if_pos h2, if_pos (by omega)]
    · rw [if_neg h2, if_neg (by omega)]
      have e : j - (kk - 1) = (j - kk) + 1 := by omega
      rw [e]; simp
theorem row_step {w : World} {b kk : Nat} {d : List Int} (h : w.rowIs b 39 20 (bufAt kk d)) (hk : 1 ≤ kk) (x : Int) :
    (w.setCell ⟨b, kk - 1, none⟩ (.int .u8 x)).rowIs b 39 20 (bufAt (kk - 1) (x :: d)) := by
  refine (h.set (kk - 1) (.int .u8 x)).congr fun j _ => ?_
  exact bufAt_step kk d x hk j
theorem row_start (w : World) : (w.alloc (.cells #[.int .u8 0, .int .u8 0, .int .u8 0, .int .u8 0, .int .u8 0, .int .u8 0, .int .u8 0, .int .u8 0, .int .u8 0, .int .u8 0, .int .u8 0, .int .u8 0, .int .u8 0, .int .u8 0, .int .u8 0, .int .u8 0, .int .u8 0, .int .u8 0, .int .u8 0, .int .u8 0] 39)).rowIs w.heap.size 39 20 (bufAt 20 []) := by
  refine World.rowIs_alloc w _ 39 _ fun j hj => ?_
  have hj' : j < 20 := hj
  unfold bufAt
  rw [if_pos hj']
  rcases (show j = 0 ∨ j = 1 ∨ j = 2 ∨ j = 3 ∨ j = 4 ∨ j = 5 ∨ j = 6 ∨ j = 7 ∨ j = 8 ∨ j = 9 ∨ j = 10 ∨ j = 11 ∨ j = 12 ∨ j = 13 ∨ j = 14 ∨ j = 15 ∨ j = 16 ∨ j = 17 ∨ j = 18 ∨ j = 19 from by omega) with rfl | rfl | rfl | rfl | rfl | rfl | rfl | rfl | rfl | rfl | rfl | rfl | rfl | rfl | rfl | rfl | rfl | rfl | rfl | rfl <;> rfl
/-- what lies behind 'buf[kk:]' -/
theorem RD.buf {w : World} {b kk : Nat} {d : List Int} (h : w.rowIs b 39 20 (bufAt kk d)) (hk : kk + d.length = 20) (hbd : ∀ j : Nat, 0 ≤ d[j]?.getD 0 ∧ d[j]?.getD 0 ≤ 255) : RD w (some ⟨b, kk, none⟩) d := by
  refine ⟨hbd, .inr ⟨b, kk, rfl, fun j hj => ?_⟩⟩
  rw [h.cell (by omega)]
  unfold bufAt
  rw [if_neg (by omega), Nat.add_sub_cancel_left]
theorem allD_bd {d : List Int} (h : allD d = true) (j : Nat) : 0 ≤ d[j]?.getD 0 ∧ d[j]?.getD 0 ≤ 255 := by
  by_cases hj : j < d.length
  · have := all_getD d j hj h
    simp only [List.getD_eq_getElem?_getD] at this
    omega
  · simp [List.getElem?_eq_none (by omega : d.length ≤ j)]

theorem rd_buf {W w3 : World} {b kk N : Nat} {d : List Int} (h : W.rowIs b 39 20 (bufAt kk d)) (hk : kk + d.length = 20) (hbd : ∀ j : Nat, 0 ≤ d[j]?.getD 0 ∧ d[j]?.getD 0 ≤ 255) (hB : Below N W w3) (hN : W.heap.size = N) : Hid (RD w3 (some ⟨b, kk, none⟩) d) :=
  RD.buf (h.of_block (hB.block b (by have := h.lt; omega))) hk hbd
theorem slice_buf (w : World) (b kk : Nat) (l : Int) (hl : l = kk) (hk : kk < 20) :
    (Instr.sliceAt 39 (.pointer (some ⟨b, 0, none⟩)) (some (.int .i64 l)) none none).run Try.prog w = .ok (.slice (some ⟨b, kk, none⟩) (20 - kk) (20 - kk)) w := by
  subst hl
  have hlen : Try.prog.arrayLen 39 = 20 := by kernel_rfl
  have hel : Try.prog.elem 39 = 5 := by kernel_rfl
  obtain ⟨i, hi, hz0, hz1, hz2⟩ := info_parts Try.info5
  rw [run_sliceAt_array_l (P := Try.prog) w 39 ⟨b, 0, none⟩ (by kernel_rfl) .i64 kk (by omega) (by rw [hlen]; omega), hlen, hel]
  simp [sizeOf, typeInfo, hi, hz1, Result.andThen, slicedAt, Addr.add_lit, show ¬ 20 = kk from by omega]

set_option maxHeartbeats 400000 in
theorem zzItoa_pos (n : Int) (w : World) (h0 : 0 ≤ n) (h1 : n ≤ 9223372036854775807) :
    Calls Try.prog 21 #[.int .i64 n] w fun e w' => ∃ (d : List Int) (g : Nat), e = .returned (.slice (some ⟨g, 0, none⟩) d.length d.length) ∧ IsDec n d ∧ RD w' (some ⟨g, 0, none⟩) d ∧ Below w.heap.size w w' := by
  have hneg : decide (n < 0) = false := by simpa using h0
  have HST := row_start w
  go_enter Try.func21, Try.ntmps21
  go_wp2_with fail
  go_loopw [4, 5] (fun k u wr => ∃ (kk : Nat) (uu : Int) (d : List Int), kk + d.length = 20 ∧ k = .int .i64 kk ∧ u = .int .u64 uu ∧ 0 ≤ uu ∧ uu ≤ 9223372036854775808 ∧ 1 ≤ kk ∧ Hid (uu * 10 ^ d.length + num d = n) ∧ Hid (allD d = true) ∧ Hid (wr.rowIs w.heap.size 39 20 (bufAt kk d)) ∧ Below w.heap.size w wr)
    (fun k _ _ => (intOf k).toNat)
  case atStart => exact ⟨20, n, [], rfl, rfl, rfl, by omega, by omega, by omega, by show _ = _; simp [num, numFrom], rfl, HST, (Below.refl _ _).alloc (Nat.le_refl _) _⟩
  case round =>
    obtain ⟨kk, uu, d, hkd, rfl, rfl, hu0, hu1, hk1, HU, HD, HW, hbel⟩ := hrel
    have hcell : wr.cell? ⟨w.heap.size, kk - 1, none⟩ = some (bufAt kk d (kk - 1)) := HW.out.cell (by omega)
    have hfrz : wr.frozen? ⟨w.heap.size, kk - 1, none⟩ = false := HW.out.frozen _
    obtain ⟨HU2, HD2⟩ : Hid (uu / 10 * 10 ^ ((48 + uu % 10) :: d).length + num ((48 + uu % 10) :: d) = n) ∧ Hid (allD ((48 + uu % 10) :: d) = true) := dec_step n uu d HU.out HD.out
    have HW2 : Hid ((wr.setCell ⟨w.heap.size, kk - 1, none⟩ (.int .u8 (48 + uu % 10))).rowIs w.heap.size 39 20 (bufAt (kk - 1) ((48 + uu % 10) :: d))) := row_step HW.out hk1 _
    have hb2 : Below w.heap.size w (wr.setCell ⟨w.heap.size, kk - 1, none⟩ (.int .u8 (48 + uu % 10))) := hbel.setCell (Nat.le_refl _) _
    clear HST HU HD HW hbel
    by_cases hz : uu / 10 = 0
    · have hzb : (uu / 10 == 0) = true := beq_iff_eq.2 hz
      have HZ : Hid (uu / 10 = 0) := hz
      clear hz
      have hsl := fun wx => slice_buf wx w.heap.size (kk - 1) ((kk : Int) - 1) (by omega) (by omega)
      have hlen : 20 - (kk - 1) = ((48 + uu % 10) :: d).length := by simp; omega
      have HL : Hid (20 - (kk - 1) = ((48 + uu % 10) :: d).length) := hlen
      have hwlt : w.heap.size < wr.heap.size := by have := HW2.out.lt; simpa using this
      clear hlen
      go_wp2_with (first
        | (at_make; refine wpList_mk _ rfl _ _ rfl _ _ (20 - (kk - 1)) rfl rfl (by omega) (by omega) (by omega) ?_; intro w3 HG3 hB3; simp only [World.size_setCell] at HG3 hB3)
        | ((with_reducible refine at_copy ?_); refine wpList_cp _ rfl _ _ rfl _ _ _ _ _ ((48 + uu % 10) :: d) rfl rfl HG3 HL.out HL.out (rd_buf HW2.out (by have := HL.out; omega) (allD_bd HD2.out) hB3 (by simp)) ?_; intro w4 HR4 hB4))
      go_ret
      rw [HL.out]
      exact ⟨_, wr.heap.size, rfl, ⟨by simp; omega, by simp, fun _ => ⟨HD2.out, by have := HU2.out; rw [HZ.out] at this; simpa using this⟩, fun h => by omega⟩, HR4.out, (hb2.trans (hB3.mono (by omega))).trans (hB4.mono (by omega))⟩
    · have hzb : (uu / 10 == 0) = false := beq_eq_false_iff_ne.2 hz
      go_wp2
      go_roundw
      case rel => exact ⟨kk - 1, uu / 10, (48 + uu % 10) :: d, by simp; omega, by go_num, rfl, by omega, by omega, by have := dec_room n _ _ HU2.out HD2.out (by omega) (by omega); simp at this; omega, HU2, HD2, HW2, hb2⟩
      case measure => simp [intOf]; omega

theorem neg_wrap (n : Int) (h0 : n < 0) (h1 : -9223372036854775808 ≤ n) : IntKind.u64.wrap (-IntKind.u64.wrap n) = -n := by
  simp only [IntKind.wrap, IntKind.signed, IntKind.bits]
  simp
  omega
theorem neg_bd {d : List Int} (h : allD d = true) (j : Nat) : 0 ≤ (45 :: d)[j]?.getD 0 ∧ (45 :: d)[j]?.getD 0 ≤ 255 := by
  cases j with
  | zero => simp
  | succ j => simpa using allD_bd h j
set_option maxHeartbeats 800000 in
theorem zzItoa_neg (n : Int) (w : World) (h0 : n < 0) (h1 : -9223372036854775808 ≤ n) :
    Calls Try.prog 21 #[.int .i64 n] w fun e w' => ∃ (d : List Int) (g : Nat), e = .returned (.slice (some ⟨g, 0, none⟩) d.length d.length) ∧ IsDec n d ∧ RD w' (some ⟨g, 0, none⟩) d ∧ Below w.heap.size w w' := by
  have hneg : decide (n < 0) = true := by simpa using h0
  have HST : Hid (World.rowIs _ w.heap.size 39 20 (bufAt 20 [])) := row_start w
  have HNW : Hid (IntKind.u64.wrap (-IntKind.u64.wrap n) = -n) := neg_wrap n h0 h1
  go_enter Try.func21, Try.ntmps21
  go_wp2_with fail
  go_loopw [4, 5] (fun k u wr => ∃ (kk : Nat) (uu : Int) (d : List Int), kk + d.length = 20 ∧ k = .int .i64 kk ∧ u = .int .u64 uu ∧ 0 < uu ∧ uu ≤ 9223372036854775808 ∧ 2 ≤ kk ∧ Hid (uu * 10 ^ d.length + num d = -n) ∧ Hid (allD d = true) ∧ Hid (wr.rowIs w.heap.size 39 20 (bufAt kk d)) ∧ Below w.heap.size w wr)
    (fun k _ _ => (intOf k).toNat)
  case atStart => exact ⟨20, -n, [], rfl, rfl, by rw [HNW.out], by omega, by omega, by omega, by show _ = _; simp [num, numFrom], rfl, HST, (Below.refl _ _).alloc (Nat.le_refl _) _⟩
  case round =>
    obtain ⟨kk, uu, d, hkd, rfl, rfl, hu0, hu1, hk1, HU, HD, HW, hbel⟩ := hrel
    have hcell : wr.cell? ⟨w.heap.size, kk - 1, none⟩ = some (bufAt kk d (kk - 1)) := HW.out.cell (by omega)
    have hfrz : ∀ j, wr.frozen? ⟨w.heap.size, j, none⟩ = false := fun j => HW.out.frozen j
    obtain ⟨HU2, HD2⟩ : Hid (uu / 10 * 10 ^ ((48 + uu % 10) :: d).length + num ((48 + uu % 10) :: d) = -n) ∧ Hid (allD ((48 + uu % 10) :: d) = true) := dec_step (-n) uu d HU.out HD.out
    have HW2 : Hid ((wr.setCell ⟨w.heap.size, kk - 1, none⟩ (.int .u8 (48 + uu % 10))).rowIs w.heap.size 39 20 (bufAt (kk - 1) ((48 + uu % 10) :: d))) := row_step HW.out (by omega) _
    have hb2 : Below w.heap.size w (wr.setCell ⟨w.heap.size, kk - 1, none⟩ (.int .u8 (48 + uu % 10))) := hbel.setCell (Nat.le_refl _) _
    have HC : Hid (wr.cell? ⟨w.heap.size, kk - 1 - 1, none⟩ = some (bufAt kk d (kk - 1 - 1))) := HW.out.cell (by omega)
    clear HST HU HD HW hbel
    by_cases hz : uu / 10 = 0
    · have hzb : (uu / 10 == 0) = true := beq_iff_eq.2 hz
      clear hz
      have hcell2 : wr.cell? ⟨w.heap.size, kk - 1 - 1, none⟩ = some (bufAt kk d (kk - 1 - 1)) := HC.out
      have HW3 : Hid (((wr.setCell ⟨w.heap.size, kk - 1, none⟩ (.int .u8 (48 + uu % 10))).setCell ⟨w.heap.size, kk - 1 - 1, none⟩ (.int .u8 45)).rowIs w.heap.size 39 20 (bufAt (kk - 1 - 1) (45 :: (48 + uu % 10) :: d))) := row_step HW2.out (by omega) _
      have hb3 : Below w.heap.size w ((wr.setCell ⟨w.heap.size, kk - 1, none⟩ (.int .u8 (48 + uu % 10))).setCell ⟨w.heap.size, kk - 1 - 1, none⟩ (.int .u8 45)) := hb2.setCell (Nat.le_refl _) _
      have hsl := fun wx => slice_buf wx w.heap.size (kk - 1 - 1) ((kk : Int) - 1 - 1) (by omega) (by omega)
      have HL : Hid (20 - (kk - 1 - 1) = (45 :: (48 + uu % 10) :: d).length) := by show _ = _; simp; omega
      have hwlt : w.heap.size < wr.heap.size := by have := HW2.out.lt; simpa using this
      clear HW2 hb2 HC
      go_wp2_with (first
        | (at_make; refine wpList_mk _ rfl _ _ rfl _ _ (20 - (kk - 1 - 1)) rfl rfl (by omega) (by omega) (by omega) ?_; intro w3 HG3 hB3; simp only [World.size_setCell] at HG3 hB3)
        | ((with_reducible refine at_copy ?_); refine wpList_cp _ rfl _ _ rfl _ _ _ _ _ (45 :: (48 + uu % 10) :: d) rfl rfl HG3 HL.out HL.out (rd_buf HW3.out (by have := HL.out; omega) (neg_bd HD2.out) hB3 (by simp)) ?_; intro w4 HR4 hB4))
      go_ret
      rw [HL.out]
      exact ⟨_, wr.heap.size, rfl, ⟨by simp; omega, by simp, fun h => by omega, fun _ => rfl⟩, HR4.out, (hb3.trans (hB3.mono (by omega))).trans (hB4.mono (by omega))⟩
    · have hzb : (uu / 10 == 0) = false := beq_eq_false_iff_ne.2 hz
      go_wp2
      go_roundw
      case rel => exact ⟨kk - 1, uu / 10, (48 + uu % 10) :: d, by simp; omega, by go_num, rfl, by omega, by omega, by have := dec_room (-n) _ _ HU2.out HD2.out (by omega) (by omega); simp at this; omega, HU2, HD2, HW2, hb2⟩
      case measure => simp [intOf]; omega

theorem zzItoa_any (n : Int) (w : World) (h0 : -9223372036854775808 ≤ n) (h1 : n ≤ 9223372036854775807) :
    Calls Try.prog 21 #[.int .i64 n] w fun e w' => ∃ (d : List Int) (g : Nat), e = .returned (.slice (some ⟨g, 0, none⟩) d.length d.length) ∧ IsDec n d ∧ RD w' (some ⟨g, 0, none⟩) d ∧ Below w.heap.size w w' := by
  by_cases h : n < 0
  · exact zzItoa_neg n w h h0
  · exact zzItoa_pos n w (by omega) h1
end Go.Proofs.Qxb6604230a
