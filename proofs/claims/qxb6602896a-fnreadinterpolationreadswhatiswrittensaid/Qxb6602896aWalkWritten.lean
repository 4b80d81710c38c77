/-
  THE WALK OF FnReadInterpolationReadsWhatIsWritten.
-/
import Derived.Test.Qxb6602896aWalkRead
namespace Go.Proofs.Qxb6602896a
open Go.RowKit Pl

theorem size_of (S s : ByteArray) (x y : Int) (e r : List Int) (h : bs S = x :: y :: (bs s ++ (e ++ r))) : S.size = 2 + s.size + e.length + r.length := by
  rw [← bs_len S, h, ← bs_len s]; simp; omega
theorem get_of {S : ByteArray} {k : Nat} (hk : k < S.size) {v : Int} (h : (bs S)[k]? = some v) : (S[k].toNat : Int) = v := by
  rw [bs_get S k hk] at h; exact Option.some.inj h
theorem one_of (S s : ByteArray) (x y : Int) (e r : List Int) (h : bs S = x :: y :: (bs s ++ (e ++ r))) (hk : 1 < S.size) : ((S[1]'hk).toNat : Int) = y :=
  get_of hk (by rw [h]; rfl)
theorem name_of (S s : ByteArray) (x y : Int) (e r : List Int) (h : bs S = x :: y :: (bs s ++ (e ++ r))) (ha : anb (bs s) = true) (j : Nat) (hj : j < S.size) (h2 : 2 ≤ j) (h3 : j < 2 + s.size) : nb ((S[j]'hj).toNat : Int) = true := by
  obtain ⟨i, rfl⟩ : ∃ i, j = i + 2 := ⟨j - 2, by omega⟩
  have hi : i < (bs s).length := by rw [bs_len]; omega
  have e1 : (bs S)[i + 2]? = some (bs s)[i] := by
    rw [h]
    simp only [List.getElem?_cons_succ]
    rw [List.getElem?_append_left hi, List.getElem?_eq_getElem hi]
  rw [get_of hj e1]
  unfold anb at ha
  rw [List.all_eq_true] at ha
  exact ha _ (List.getElem_mem hi)
theorem end_of (S s : ByteArray) (x y z : Int) (e r : List Int) (h : bs S = x :: y :: (bs s ++ (z :: e ++ r))) (hk : 2 + s.size < S.size) : ((S[2 + s.size]'hk).toNat : Int) = z := by
  refine get_of hk ?_
  rw [h, show 2 + s.size = s.size + 2 from by omega]
  simp only [List.getElem?_cons_succ]
  rw [List.getElem?_append_right (by rw [bs_len]; exact Nat.le_refl _), bs_len, Nat.sub_self]
  rfl
theorem cut_of (S s : ByteArray) (x y : Int) (e r : List Int) (h : bs S = x :: y :: (bs s ++ (e ++ r))) : S.extract 2 (2 + s.size) = s := by
  apply bs_inj
  rw [bs_extract, h, show 2 + s.size = s.size + 2 from by omega]
  simp [← bs_len s]
theorem mid_of (S s : ByteArray) (x y : Int) (e r : List Int) (h : bs S = x :: y :: (bs s ++ (e ++ r))) : bs (S.extract (2 + s.size) (2 + s.size + e.length)) = e := by
  rw [bs_extract, h, show 2 + s.size + e.length = s.size + e.length + 2 from by omega, show 2 + s.size = s.size + 2 from by omega]
  simp only [List.take_succ_cons, List.drop_succ_cons, ← bs_len s]
  rw [List.take_append, List.drop_append]
  simp

theorem toList_of {t : ByteArray} {l : List UInt8} (h : bs t = bs ⟨l.toArray⟩) : (t.toList == l) = true := by
  rw [bs_inj h, beq_iff_eq, ByteArray.toList_mk]

set_option maxHeartbeats 400000 in
/-- ZZReadInterpolation hands on what readInterpolation answers -/
theorem zz_of (S nm : ByteArray) (kd sz : Int) (w : World) (h : Calls Try.prog 27 #[.string S] w fun e w' => e = .returned (.tuple #[.int .i64 kd, .string nm, .int .i64 sz]) ∧ ∃ m, w' = w.drewN m) :
    Calls Try.prog 11 #[.string S] w fun e w' => e = .returned (.tuple #[.int .i64 kd, .string nm, .int .i64 sz]) ∧ ∃ m, w' = w.drewN m := by
  have H : Hid (Calls Try.prog 27 #[.string S] w fun e w' => e = .returned (.tuple #[.int .i64 kd, .string nm, .int .i64 sz]) ∧ ∃ m, w' = w.drewN m) := h
  clear h
  go_enter Try.func11, Try.ntmps11
  go_wp2_with (go_at_call 27; refine H.out.mono ?_; rintro e w' ⟨rfl, m, rfl⟩)
  go_ret3
  exact ⟨rfl, _, rfl⟩

theorem zz_braced (s t : ByteArray) (w : World) (h0 : 1 ≤ s.size) (h1 : s.size + t.size ≤ 1048576) (ha : anb (bs s) = true) :
    Calls Try.prog 11 #[.string ((⟨#[37, 123]⟩ : ByteArray) ++ s ++ ⟨#[125]⟩ ++ t)] w fun e w' => e = .returned (.tuple #[.int .i64 2, .string s, .int .i64 ((s.size : Int) + 3)]) ∧ ∃ m, w' = w.drewN m := by
  have hb : bs ((⟨#[37, 123]⟩ : ByteArray) ++ s ++ ⟨#[125]⟩ ++ t) = 37 :: 123 :: (bs s ++ ([125] ++ bs t)) := by
    simp only [bs_append, List.append_assoc]; rfl
  generalize (⟨#[37, 123]⟩ : ByteArray) ++ s ++ ⟨#[125]⟩ ++ t = S at *
  have hsz := size_of S s _ _ _ _ hb
  rw [bs_len] at hsz
  simp at hsz
  have hr := read_braced S (2 + s.size) w (by omega) (by omega) (by omega) (fun h => by have := one_of S s _ _ _ _ hb h; omega) (name_of S s _ _ _ _ hb ha)
    (fun h => by rw [end_of S s 37 123 125 [] (bs t) hb h]; decide) (toList_of (l := [125]) (mid_of S s _ _ [125] _ hb))
  rw [cut_of S s _ _ _ _ hb] at hr
  have e : ((2 + s.size : Nat) : Int) + 1 = (s.size : Int) + 3 := by omega
  rw [e] at hr
  exact zz_of S s 2 _ w hr

theorem zz_old (s t : ByteArray) (w : World) (h0 : 1 ≤ s.size) (h1 : s.size + t.size ≤ 1048576) (ha : anb (bs s) = true) :
    Calls Try.prog 11 #[.string ((⟨#[37, 40]⟩ : ByteArray) ++ s ++ ⟨#[41, 115]⟩ ++ t)] w fun e w' => e = .returned (.tuple #[.int .i64 3, .string s, .int .i64 ((s.size : Int) + 4)]) ∧ ∃ m, w' = w.drewN m := by
  have hb : bs ((⟨#[37, 40]⟩ : ByteArray) ++ s ++ ⟨#[41, 115]⟩ ++ t) = 37 :: 40 :: (bs s ++ ([41, 115] ++ bs t)) := by
    simp only [bs_append, List.append_assoc]; rfl
  generalize (⟨#[37, 40]⟩ : ByteArray) ++ s ++ ⟨#[41, 115]⟩ ++ t = S at *
  have hsz := size_of S s _ _ _ _ hb
  rw [bs_len] at hsz
  simp at hsz
  have hr := read_old S (2 + s.size) w (by omega) (by omega) (by omega) (fun h => by have := one_of S s _ _ _ _ hb h; omega) (name_of S s _ _ _ _ hb ha)
    (fun h => by rw [end_of S s 37 40 41 [115] (bs t) hb h]; decide) (toList_of (l := [41, 115]) (mid_of S s _ _ [41, 115] _ hb))
  rw [cut_of S s _ _ _ _ hb] at hr
  have e : ((2 + s.size : Nat) : Int) + 2 = (s.size : Int) + 4 := by omega
  rw [e] at hr
  exact zz_of S s 3 _ w hr

theorem grown_drewN (w : World) (m : Nat) : Grown w (w.drewN m) := Grown.refl w

set_option maxRecDepth 100000 in
set_option maxHeartbeats 1000000 in
theorem written_in (s t : ByteArray) (u : Bool) (w : World) (h0 : 1 ≤ s.size) (h1 : s.size + t.size ≤ 1048576) (ha : anb (bs s) = true) :
    Calls Try.prog 4 #[.string s, .string t, .bool u] w fun e w' => e = .returned (.bool true) ∧ Grown w w' := by
  have hz : ((s.size : Int) == 0) = false := beq_eq_false_iff_ne.2 (by omega)
  have HA : Hid (anb (bs s) = true) := ha
  clear ha
  cases u with
  | false =>
    go_enter Try.func4, Try.ntmps4
    go_wp2_with (go_at_call 12; go_in)
    refine (allName_any s _ (by omega)).mono ?_
    rintro e w1 ⟨rfl, rfl⟩
    simp only [HA.out]
    go_wp2_with fail
    refine (zz_braced s t _ h0 h1 HA.out).mono ?_
    rintro e w2 ⟨rfl, m, rfl⟩
    go_wp2_with fail
    go_ret
    exact ⟨by simp, grown_drewN _ _⟩
  | true =>
    go_enter Try.func4, Try.ntmps4
    go_wp2_with (go_at_call 12; go_in)
    refine (allName_any s _ (by omega)).mono ?_
    rintro e w1 ⟨rfl, rfl⟩
    simp only [HA.out]
    go_wp2_with fail
    refine (zz_old s t _ h0 h1 HA.out).mono ?_
    rintro e w2 ⟨rfl, m, rfl⟩
    go_wp2_with fail
    go_ret
    exact ⟨by simp, grown_drewN _ _⟩

set_option maxRecDepth 100000 in
set_option maxHeartbeats 1000000 in
theorem written_bad (s t : ByteArray) (u : Bool) (w : World) (h0 : 1 ≤ s.size) (h1 : s.size + t.size ≤ 1048576) (ha : anb (bs s) = false) :
    Calls Try.prog 4 #[.string s, .string t, .bool u] w fun e w' => e = .returned (.bool true) ∧ Grown w w' := by
  have hz : ((s.size : Int) == 0) = false := beq_eq_false_iff_ne.2 (by omega)
  have HA : Hid (anb (bs s) = false) := ha
  clear ha
  go_enter Try.func4, Try.ntmps4
  go_wp2_with (go_at_call 12; go_in)
  refine (allName_any s _ (by omega)).mono ?_
  rintro e w1 ⟨rfl, rfl⟩
  simp only [HA.out]
  go_wp2_with fail
  go_ret
  exact ⟨rfl, Grown.refl _⟩

set_option maxRecDepth 100000 in
set_option maxHeartbeats 1000000 in
theorem written_empty (s t : ByteArray) (u : Bool) (w : World) (h0 : s.size = 0) (h1 : t.size ≤ 1048576) :
    Calls Try.prog 4 #[.string s, .string t, .bool u] w fun e w' => e = .returned (.bool true) ∧ Grown w w' := by
  have hz : ((s.size : Int) == 0) = true := beq_iff_eq.2 (by omega)
  have h0' : s.size ≤ 0 := by omega
  clear h0
  go_enter Try.func4, Try.ntmps4
  go_wp2
  all_goals
    go_ret
    exact ⟨rfl, Grown.refl _⟩

set_option maxRecDepth 100000 in
set_option maxHeartbeats 1000000 in
theorem written_long (s t : ByteArray) (u : Bool) (w : World) (b0 : s.size ≤ 9223372036854775807) (b1 : t.size ≤ 9223372036854775807)
    (h : 1048576 < s.size ∨ (s.size ≤ 1048576 ∧ 1048576 < t.size) ∨ (s.size ≤ 1048576 ∧ t.size ≤ 1048576 ∧ 1048576 < s.size + t.size)) :
    Calls Try.prog 4 #[.string s, .string t, .bool u] w fun e w' => e = .returned (.bool true) ∧ Grown w w' := by
  rcases h with h | ⟨h0, h1⟩ | ⟨h0, h1, h2⟩
  all_goals
    go_enter Try.func4, Try.ntmps4
    go_wp2
    all_goals
      go_ret
      exact ⟨rfl, Grown.refl _⟩

theorem written_any (s t : ByteArray) (u : Bool) (w : World) (b0 : s.size ≤ maxLen) (b1 : t.size ≤ maxLen) :
    Calls Try.prog 4 #[.string s, .string t, .bool u] w fun e w' => e = .returned (.bool true) ∧ Grown w w' := by
  unfold maxLen at b0 b1
  by_cases h : 1048576 < s.size ∨ (s.size ≤ 1048576 ∧ 1048576 < t.size) ∨ (s.size ≤ 1048576 ∧ t.size ≤ 1048576 ∧ 1048576 < s.size + t.size)
  · exact written_long s t u w (by omega) (by omega) h
  · by_cases h0 : s.size = 0
    · exact written_empty s t u w h0 (by omega)
    · cases ha : anb (bs s) with
      | false => exact written_bad s t u w (by omega) (by omega) ha
      | true => exact written_in s t u w (by omega) (by omega) ha
end Go.Proofs.Qxb6602896a
