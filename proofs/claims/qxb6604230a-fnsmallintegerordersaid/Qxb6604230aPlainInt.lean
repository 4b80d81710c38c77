/-
  THE PLAIN LAWS OF smallInteger: no Go in sight. 'si s': what smallInteger answers on the bytes 's'; 'num s': the number whose decimal digits are 's'.
-/
import Derived.Test.Qxb6604230aPlainNum
namespace Go.Proofs.Qxb6604230a.Pl

def allD (s : List Int) : Bool := s.all isd
def numFrom (n : Int) : List Int → Int
  | [] => n
  | c :: r => numFrom (n * 10 + (c - 48)) r
def num (s : List Int) : Int := numFrom 0 s
def siGo (n : Int) : List Int → Int × Bool
  | [] => (n, true)
  | c :: r => if isd c = true then siGo (n * 10 + (c - 48)) r else (0, false)
def si (s : List Int) : Int × Bool := if s.length = 0 ∨ 15 < s.length then (0, false) else siGo 0 s

theorem siGo_all (s : List Int) (n : Int) (h : allD s = true) : siGo n s = (numFrom n s, true) := by
  induction s generalizing n with
  | nil => rfl
  | cons c r ih => simp [allD] at h; simp [siGo, numFrom, h.1]; exact ih _ (by simpa [allD] using h.2)
theorem siGo_not (s : List Int) (n : Int) (h : allD s = false) : siGo n s = (0, false) := by
  induction s generalizing n with
  | nil => simp [allD] at h
  | cons c r ih =>
    by_cases hc : isd c = true
    · simp only [siGo, hc, if_true]; exact ih _ (by simpa [allD, hc] using h)
    · simp [siGo, hc]
theorem numFrom_append (s t : List Int) (n : Int) : numFrom n (s ++ t) = numFrom (numFrom n s) t := by
  induction s generalizing n with
  | nil => rfl
  | cons c r ih => simp [numFrom, ih]
theorem num_snoc (s : List Int) (c : Int) : num (s ++ [c]) = num s * 10 + (c - 48) := by simp [num, numFrom_append, numFrom]
theorem numFrom_eq (s : List Int) (n : Int) : numFrom n s = n * 10 ^ s.length + num s := by
  induction s generalizing n with
  | nil => simp [numFrom, num]
  | cons c r ih =>
    have e : num (c :: r) = numFrom (c - 48) r := by simp [num, numFrom]
    rw [e, ih]
    show numFrom (n * 10 + (c - 48)) r = _
    rw [ih, List.length_cons, Int.pow_succ, Int.add_mul, Int.mul_assoc, Int.mul_comm 10]
    omega
theorem num_cons (c : Int) (r : List Int) : num (c :: r) = (c - 48) * 10 ^ r.length + num r := by
  have e : num (c :: r) = numFrom (c - 48) r := by simp [num, numFrom]
  rw [e, numFrom_eq]
theorem isd_bd {c : Int} (h : isd c = true) : 48 ≤ c ∧ c ≤ 57 := by unfold isd at h; simpa using h
theorem pow_pos (k : Nat) : (0 : Int) < 10 ^ k := Int.pow_pos (by omega)
theorem num_bd (s : List Int) (h : allD s = true) : 0 ≤ num s ∧ num s < 10 ^ s.length := by
  induction s with
  | nil => simp [num, numFrom]
  | cons c r ih =>
    simp [allD] at h
    have hb := isd_bd h.1
    have hi := ih (by simpa [allD] using h.2)
    have hp := pow_pos r.length
    rw [num_cons, List.length_cons, Int.pow_succ]
    have h1 : 0 ≤ (c - 48) * 10 ^ r.length := Int.mul_nonneg (by omega) (by omega)
    have h2 : (c - 48) * 10 ^ r.length ≤ 9 * 10 ^ r.length := Int.mul_le_mul_of_nonneg_right (by omega) (by omega)
    omega
theorem pow_mono {a b : Nat} (h : a ≤ b) : (10 : Int) ^ a ≤ 10 ^ b := by
  have := Nat.pow_le_pow_right (n := 10) (by omega) h
  exact_mod_cast this
theorem num_15 (s : List Int) (h : allD s = true) (hl : s.length ≤ 15) : 0 ≤ num s ∧ num s < 1000000000000000 := by
  have := num_bd s h; have := pow_mono hl; omega
theorem allD_take (s : List Int) (k : Nat) (h : allD s = true) : allD (s.take k) = true := by
  simp only [allD, List.all_eq_true] at *
  exact fun x hx => h x (List.mem_of_mem_take hx)
theorem allD_app (s t : List Int) : allD (s ++ t) = (allD s && allD t) := by simp [allD]

/-- the answer where it is one -/
theorem si_yes (s : List Int) (h0 : s.length ≠ 0) (h1 : s.length ≤ 15) (h : allD s = true) : si s = (num s, true) := by
  unfold si; rw [if_neg (by omega), siGo_all s 0 h]; rfl
theorem si_no (s : List Int) (h : s.length = 0 ∨ 15 < s.length ∨ allD s = false) : si s = (0, false) := by
  unfold si
  by_cases h' : s.length = 0 ∨ 15 < s.length
  · rw [if_pos h']
  · rw [if_neg h', siGo_not s 0 (by rcases h with h | h | h <;> first | exact h | omega)]

/-! ### Order -/
def cmp : List Int → List Int → Int
  | [], [] => 0
  | [], _ :: _ => -1
  | _ :: _, [] => 1
  | a :: s, b :: t => if a < b then -1 else if b < a then 1 else cmp s t

theorem num_lt_of (a b : Int) (s t : List Int) (hl : s.length = t.length) (hs : allD s = true) (ht : allD t = true) (h : a < b) : num (a :: s) < num (b :: t) := by
  rw [num_cons, num_cons, hl]
  have h1 := num_bd s hs
  have h2 := num_bd t ht
  rw [hl] at h1
  have h3 : (a - 48 + 1) * 10 ^ t.length ≤ (b - 48) * 10 ^ t.length := Int.mul_le_mul_of_nonneg_right (by omega) (by have := pow_pos t.length; omega)
  rw [Int.add_mul] at h3
  omega
theorem cmp_num (s t : List Int) (hl : s.length = t.length) (hs : allD s = true) (ht : allD t = true) :
    (cmp s t < 0 → num s < num t) ∧ (0 < cmp s t → num t < num s) ∧ (cmp s t = 0 → num s = num t) := by
  induction s generalizing t with
  | nil =>
    cases t with
    | nil => simp [cmp]
    | cons b t => simp at hl
  | cons a s ih =>
    cases t with
    | nil => simp at hl
    | cons b t =>
      simp at hl
      simp [allD] at hs ht
      have hs2 : allD s = true := by simpa [allD] using hs.2
      have ht2 : allD t = true := by simpa [allD] using ht.2
      by_cases h1 : a < b
      · have := num_lt_of a b s t hl hs2 ht2 h1
        simp [cmp, h1, this]
      · by_cases h2 : b < a
        · have := num_lt_of b a t s hl.symm ht2 hs2 h2
          simp [cmp, h1, h2, this]
        · have e : a = b := by omega
          subst e
          have := ih t hl hs2 ht2
          simp only [cmp, Int.lt_irrefl, if_false, num_cons, hl]
          omega
theorem cmp_tri (s t : List Int) : cmp s t = -1 ∨ cmp s t = 0 ∨ cmp s t = 1 := by
  induction s generalizing t with
  | nil => cases t <;> simp [cmp]
  | cons a s ih => cases t with
    | nil => simp [cmp]
    | cons b t => unfold cmp; split; · simp
                  · split
                    · simp
                    · exact ih t

/-! ### Reading the digits off from the end -/
theorem take_succ_num (s : List Int) (k : Nat) (h : k < s.length) : num (s.take (k + 1)) = num (s.take k) * 10 + (s.getD k 0 - 48) := by
  rw [List.take_succ_eq_append_getElem h, num_snoc]; simp [List.getElem?_eq_getElem h]
theorem all_getD (s : List Int) (k : Nat) (h : k < s.length) (hs : allD s = true) : 48 ≤ s.getD k 0 ∧ s.getD k 0 ≤ 57 := by
  simp only [allD, List.all_eq_true] at hs
  have := isd_bd (hs s[k] (List.getElem_mem h))
  simpa [List.getElem?_eq_getElem h] using this
theorem last_digit (s : List Int) (k : Nat) (h : k < s.length) (hs : allD s = true) :
    48 + num (s.take (k + 1)) % 10 = s.getD k 0 ∧ num (s.take (k + 1)) / 10 = num (s.take k) := by
  have h1 := take_succ_num s k h
  have h2 := all_getD s k h hs
  have h3 := (num_bd _ (allD_take s k hs)).1
  omega

/-! ### The decimal text of a number, with zeros ahead -/
theorem numFrom_zeros (p : Nat) (s : List Int) (n : Int) (h : n = 0) : numFrom n (List.replicate p 48 ++ s) = num s := by
  subst h
  induction p with
  | zero => rfl
  | succ p ih => rw [List.replicate_succ, List.cons_append]; simpa [numFrom] using ih
theorem num_zeros (p : Nat) (s : List Int) : num (List.replicate p 48 ++ s) = num s := numFrom_zeros p s 0 rfl
theorem allD_zeros (p : Nat) : allD (List.replicate p 48) = true := by
  simp only [allD, List.all_eq_true]
  intro x hx
  rw [List.mem_replicate] at hx
  rw [hx.2]; decide
/-- what 'zzItoa n' hands back: 'd' -/
def IsDec (n : Int) (d : List Int) : Prop := d.length ≤ 20 ∧ d.length ≠ 0 ∧ (0 ≤ n → allD d = true ∧ num d = n) ∧ (n < 0 → allD d = false)
theorem round_trip (n : Int) (p : Nat) (d : List Int) (h : IsDec n d) :
    si (List.replicate p 48 ++ d) = if n < 0 ∨ 15 < (List.replicate p (48 : Int) ++ d).length then (0, false) else (n, true) := by
  obtain ⟨_, h2, h3, h4⟩ := h
  by_cases hn : n < 0
  · rw [if_pos (.inl hn), si_no]
    right; right
    rw [allD_app, h4 hn]; simp
  · by_cases hl : 15 < (List.replicate p (48 : Int) ++ d).length
    · rw [if_pos (.inr hl), si_no]; exact .inr (.inl hl)
    · rw [if_neg (by omega), si_yes]
      · rw [num_zeros, (h3 (by omega)).2]
      · rw [List.length_append]; omega
      · omega
      · rw [allD_app, allD_zeros, (h3 (by omega)).1]; rfl

/-- one more digit ahead: the loop of zzItoa: 'u' is what is left, 'd' what has been written, 'U' the whole -/
theorem dec_step (U u : Int) (d : List Int) (h : u * 10 ^ d.length + num d = U) (hd : allD d = true) :
    (u / 10) * 10 ^ ((48 + u % 10) :: d).length + num ((48 + u % 10) :: d) = U ∧ allD ((48 + u % 10) :: d) = true := by
  refine ⟨?_, ?_⟩
  · rw [num_cons, List.length_cons, Int.pow_succ, ← h]
    have e : u / 10 * (10 ^ d.length * 10) = (u / 10 * 10) * 10 ^ d.length := by rw [Int.mul_comm (10 ^ d.length), Int.mul_assoc]
    rw [e]
    have e2 : (48 + u % 10 - 48) = u % 10 := by omega
    rw [e2]
    have e3 : u / 10 * 10 * 10 ^ d.length + u % 10 * 10 ^ d.length = u * 10 ^ d.length := by
      rw [← Int.add_mul]; congr 1; omega
    omega
  · simp only [allD, List.all_cons, Bool.and_eq_true]
    refine ⟨?_, hd⟩
    unfold isd; simp; omega
/-- while something is left to write, there is room -/
theorem dec_room (U u : Int) (d : List Int) (h : u * 10 ^ d.length + num d = U) (hd : allD d = true) (hu : 0 < u) (hU : U ≤ 9223372036854775808) : d.length ≤ 18 := by
  refine Classical.byContradiction fun hc => ?_
  have h1 := (num_bd d hd).1
  have h2 : (10 : Int) ^ 19 ≤ 10 ^ d.length := pow_mono (by omega)
  have h3 : 1 * 10 ^ d.length ≤ u * 10 ^ d.length := Int.mul_le_mul_of_nonneg_right (by omega) (by have := pow_pos d.length; omega)
  omega
end Go.Proofs.Qxb6604230a.Pl
