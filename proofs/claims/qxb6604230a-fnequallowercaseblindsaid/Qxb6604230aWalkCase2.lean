/-
  THE WALKS OF zzMapCase AND FnEqualLowerCaseBlind.
-/
import Derived.Test.Qxb6604230aWalkCase
import Derived.Deep.CutRange
namespace Go.Proofs.Qxb6604230a
open Go.RowKit Pl

/-- zzMapCase's result behind k rounds -/
def outAt (f : Int → Int) (zs : List Int) (k j : Nat) : Value := .int .u8 (if j < k then f (zs[j]?.getD 0) else 0)
theorem out_start {w : World} {g n : Nat} (f : Int → Int) (zs : List Int) (h : w.heap[g]? = some (.cells (List.replicate n (Value.int .u8 0)).toArray 5 (0, 0))) : w.rowIs g 5 n (outAt f zs 0) :=
  ⟨_, h, by simp, fun j hj => by simp [outAt, hj]⟩
theorem out_step {w : World} {g n k : Nat} {f : Int → Int} {zs : List Int} {x : Int} (h : w.rowIs g 5 n (outAt f zs k)) (hx : f (zs[k]?.getD 0) = x) : (w.setCell ⟨g, k, none⟩ (.int .u8 x)).rowIs g 5 n (outAt f zs (k + 1)) := by
  refine (h.set k _).congr fun j _ => ?_
  unfold outAt
  by_cases e : j = k
  · subst e; simp [hx]
  · simp only [if_neg e]
    by_cases h2 : j < k
    · rw [if_pos h2, if_pos (by omega)]
    · rw [if_neg h2, if_neg (by omega)]
theorem out_done {w : World} {g : Nat} {f : Int → Int} {zs : List Int} (h : w.rowIs g 5 zs.length (outAt f zs zs.length)) (hf : ∀ c, 0 ≤ c → c ≤ 255 → 0 ≤ f c ∧ f c ≤ 255) (hbd : ∀ j : Nat, 0 ≤ zs[j]?.getD 0 ∧ zs[j]?.getD 0 ≤ 255) : RD w (some ⟨g, 0, none⟩) (zs.map f) := by
  refine ⟨fun j => ?_, .inr ⟨g, 0, rfl, fun j hj => ?_⟩⟩
  · by_cases hj : j < zs.length
    · have := hf _ (hbd j).1 (hbd j).2
      simpa [hj] using this
    · simp [List.getElem?_eq_none (by omega : zs.length ≤ j)]
  · simp at hj
    rw [Nat.zero_add, h.cell hj]
    simp [outAt, hj]

set_option maxHeartbeats 1000000 in
theorem mapCase_up (b off cap : Nat) (zs : List Int) (w : World) (hmx : zs.length ≤ 1048576) (hbd : ∀ j : Nat, 0 ≤ zs[j]?.getD 0 ∧ zs[j]?.getD 0 ≤ 255) (hc : ∀ j, j < zs.length → w.cell? ⟨b, off + j, none⟩ = some (.int .u8 (zs.getD j 0))) :
    Calls Try.prog 16 #[.slice (some ⟨b, off, none⟩) zs.length cap, .bool true] w fun e w' => e = .returned (.slice (some ⟨w.heap.size, 0, none⟩) zs.length zs.length) ∧ RD w' (some ⟨w.heap.size, 0, none⟩) (zs.map upc) ∧ Below w.heap.size w w' := by
  have HBD : Hid (∀ j : Nat, 0 ≤ zs[j]?.getD 0 ∧ zs[j]?.getD 0 ≤ 255) := hbd
  have HC : Hid (∀ j, j < zs.length → w.cell? ⟨b, off + j, none⟩ = some (.int .u8 (zs.getD j 0))) := hc
  clear hbd hc
  go_enter Try.func16, Try.ntmps16
  go_wp2_with (at_make; refine wpList_mk _ rfl _ _ rfl _ _ zs.length rfl rfl rfl rfl (by omega) ?_; intro w3 HG3 hB3)
  go_loopw [6, 7] (fun i _ wr => ∃ k : Nat, i = .int .i64 k ∧ k ≤ zs.length ∧ Hid (wr.rowIs w.heap.size 5 zs.length (outAt upc zs k)) ∧ Below w.heap.size w wr) (fun i _ _ => zs.length - (intOf i).toNat)
  case atStart => exact ⟨0, rfl, by omega, out_start upc zs HG3.out, hB3⟩
  case round =>
    obtain ⟨k, rfl, hk, HW, hb⟩ := hrel
    clear HG3 hB3
    by_cases hlt : k < zs.length
    · have hcw := HC.out k hlt
      obtain ⟨c, hcx, hb0, hb1, HE⟩ : ∃ c : Int, wr.cell? ⟨b, off + k, none⟩ = some (.int .u8 c) ∧ 0 ≤ c ∧ c ≤ 255 ∧ Hid (zs[k]?.getD 0 = c) := ⟨_, (hb.cell (World.block_lt_of_cell? w _ hcw)).trans hcw, (HBD.out k).1, (HBD.out k).2, rfl⟩
      have hgx : wr.cell? ⟨w.heap.size, k, none⟩ = some (outAt upc zs k k) := HW.out.cell hlt
      have hgf : wr.frozen? ⟨w.heap.size, k, none⟩ = false := HW.out.frozen _
      clear hcw
      by_cases h1 : 97 ≤ c
      · by_cases h2 : c ≤ 122
        · have HX : Hid (upc (zs[k]?.getD 0) = c - 32) := by show _ = _; rw [HE.out]; simp [upc, h1, h2]
          go_wp2
          go_roundw
          case rel => exact ⟨k + 1, by go_num, by omega, out_step HW.out HX.out, hb.setCell (Nat.le_refl _) _⟩
          case measure => simp [intOf]; omega
        · have h2b : decide (c ≤ 122) = false := by simpa using h2
          have HX : Hid (upc (zs[k]?.getD 0) = c) := by show _ = _; rw [HE.out]; simp [upc]; omega
          go_wp2
          go_roundw
          case rel => exact ⟨k + 1, by go_num, by omega, out_step HW.out HX.out, hb.setCell (Nat.le_refl _) _⟩
          case measure => simp [intOf]; omega
      · have h1b : decide (97 ≤ c) = false := by simpa using h1
        have HX : Hid (upc (zs[k]?.getD 0) = c) := by show _ = _; rw [HE.out]; simp [upc]; omega
        go_wp2
        go_roundw
        case rel => exact ⟨k + 1, by go_num, by omega, out_step HW.out HX.out, hb.setCell (Nat.le_refl _) _⟩
        case measure => simp [intOf]; omega
    · have hke : k = zs.length := by omega
      have HW2 : Hid (wr.rowIs w.heap.size 5 zs.length (outAt upc zs zs.length)) := by rw [hke] at HW; exact HW
      clear hke
      go_wp2
      go_ret
      exact ⟨rfl, out_done HW2.out up_bd HBD.out, hb⟩

set_option maxHeartbeats 1000000 in
theorem mapCase_low (b off cap : Nat) (zs : List Int) (w : World) (hmx : zs.length ≤ 1048576) (hbd : ∀ j : Nat, 0 ≤ zs[j]?.getD 0 ∧ zs[j]?.getD 0 ≤ 255) (hc : ∀ j, j < zs.length → w.cell? ⟨b, off + j, none⟩ = some (.int .u8 (zs.getD j 0))) :
    Calls Try.prog 16 #[.slice (some ⟨b, off, none⟩) zs.length cap, .bool false] w fun e w' => e = .returned (.slice (some ⟨w.heap.size, 0, none⟩) zs.length zs.length) ∧ RD w' (some ⟨w.heap.size, 0, none⟩) (zs.map low) ∧ Below w.heap.size w w' := by
  have HBD : Hid (∀ j : Nat, 0 ≤ zs[j]?.getD 0 ∧ zs[j]?.getD 0 ≤ 255) := hbd
  have HC : Hid (∀ j, j < zs.length → w.cell? ⟨b, off + j, none⟩ = some (.int .u8 (zs.getD j 0))) := hc
  clear hbd hc
  go_enter Try.func16, Try.ntmps16
  go_wp2_with (at_make; refine wpList_mk _ rfl _ _ rfl _ _ zs.length rfl rfl rfl rfl (by omega) ?_; intro w3 HG3 hB3)
  go_loopw [6, 7] (fun i _ wr => ∃ k : Nat, i = .int .i64 k ∧ k ≤ zs.length ∧ Hid (wr.rowIs w.heap.size 5 zs.length (outAt low zs k)) ∧ Below w.heap.size w wr) (fun i _ _ => zs.length - (intOf i).toNat)
  case atStart => exact ⟨0, rfl, by omega, out_start low zs HG3.out, hB3⟩
  case round =>
    obtain ⟨k, rfl, hk, HW, hb⟩ := hrel
    clear HG3 hB3
    by_cases hlt : k < zs.length
    · have hcw := HC.out k hlt
      obtain ⟨c, hcx, hb0, hb1, HE⟩ : ∃ c : Int, wr.cell? ⟨b, off + k, none⟩ = some (.int .u8 c) ∧ 0 ≤ c ∧ c ≤ 255 ∧ Hid (zs[k]?.getD 0 = c) := ⟨_, (hb.cell (World.block_lt_of_cell? w _ hcw)).trans hcw, (HBD.out k).1, (HBD.out k).2, rfl⟩
      have hgx : wr.cell? ⟨w.heap.size, k, none⟩ = some (outAt low zs k k) := HW.out.cell hlt
      have hgf : wr.frozen? ⟨w.heap.size, k, none⟩ = false := HW.out.frozen _
      clear hcw
      obtain ⟨x, HX, HX2⟩ : ∃ x, Hid (low (zs[k]?.getD 0) = x) ∧ Hid (low c = x) := ⟨_, rfl, by show _ = _; rw [HE.out]⟩
      go_wp2_with (go_at_call 27; refine (lowerByte_any c _ hb0 hb1).mono ?_; rintro e w4 ⟨rfl, hw4⟩; subst hw4; rw [HX2.out])
      go_roundw
      case rel => exact ⟨k + 1, by go_num, by omega, out_step HW.out HX.out, hb.setCell (Nat.le_refl _) _⟩
      case measure => simp [intOf]; omega
    · have hke : k = zs.length := by omega
      have HW2 : Hid (wr.rowIs w.heap.size 5 zs.length (outAt low zs zs.length)) := by rw [hke] at HW; exact HW
      clear hke
      go_wp2
      go_ret
      exact ⟨rfl, out_done HW2.out low_bd HBD.out, hb⟩

set_option maxHeartbeats 400000 in
theorem mapCase_none (a : Option Addr) (cap : Nat) (u : Bool) (w : World) :
    Calls Try.prog 16 #[.slice a 0 cap, .bool u] w fun e w' => e = .returned (.slice (some ⟨w.heap.size, 0, none⟩) 0 0) ∧ Below w.heap.size w w' := by
  go_enter Try.func16, Try.ntmps16
  go_wp2_with (at_make; refine wpList_mk _ rfl _ _ rfl _ _ 0 rfl rfl rfl rfl (by omega) ?_; intro w3 HG3 hB3)
  refine wp_loop_rounds 1 ?_
  rw [rounds_succ]
  go_wp2
  go_ret
  exact ⟨rfl, hB3⟩

/-- which map 'up' asks for -/
def mc (u : Bool) (c : Int) : Int := if u = true then upc c else low c
theorem mapCase_any (a : Option Addr) (n cap : Nat) (zs : List Int) (u : Bool) (w : World) (hn : n = zs.length) (hmx : n ≤ 1048576) (hr : RD w a zs) :
    Calls Try.prog 16 #[.slice a n cap, .bool u] w fun e w' => e = .returned (.slice (some ⟨w.heap.size, 0, none⟩) n n) ∧ RD w' (some ⟨w.heap.size, 0, none⟩) (zs.map (mc u)) ∧ Below w.heap.size w w' := by
  subst hn
  rcases hr.2 with rfl | ⟨b, off, rfl, hc⟩
  · refine (mapCase_none a cap u w).mono ?_
    rintro e w' ⟨rfl, hb⟩
    exact ⟨rfl, RD.nil _ _, hb⟩
  · cases u with
    | true => exact mapCase_up b off cap zs w hmx hr.1 hc
    | false => exact mapCase_low b off cap zs w hmx hr.1 hc
end Go.Proofs.Qxb6604230a
