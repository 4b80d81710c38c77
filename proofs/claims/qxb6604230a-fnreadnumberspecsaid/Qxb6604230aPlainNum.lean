/-
  THE PLAIN LAW OF readNumber: no Go in sight. 'rn s': what readNumber answers on the bytes 's' from its start on: how many it takes, and whether it is a number. 'am st s': the same of the automaton.
-/
namespace Go.Proofs.Qxb6604230a.Pl

def isd (c : Int) : Bool := decide (48 ≤ c) && decide (c ≤ 57)

/-- how many decimal digits 's' opens with -/
def dgs : List Int → Nat
  | [] => 0
  | c :: r => if isd c = true then dgs r + 1 else 0

/-- an answer, moved on by 'k' -/
def sh (k : Nat) (p : Nat × Bool) : Nat × Bool := (k + p.1, p.2)

def rnE2 (s : List Int) : Nat × Bool := (dgs s, dgs s != 0)
def rnE1 : List Int → Nat × Bool
  | [] => (0, false)
  | c :: r => if c = 43 ∨ c = 45 then sh 1 (rnE2 r) else rnE2 (c :: r)
def rnE : List Int → Nat × Bool
  | [] => (0, true)
  | c :: r => if c = 101 ∨ c = 69 then sh 1 (rnE1 r) else (0, true)
def rnF : List Int → Nat × Bool
  | [] => (0, true)
  | c :: r => if c = 46 then (if dgs r = 0 then (1, false) else sh (1 + dgs r) (rnE (r.drop (dgs r)))) else rnE (c :: r)
def rnI : List Int → Nat × Bool
  | [] => (0, false)
  | c :: r => if c = 48 then sh 1 (rnF r) else if 49 ≤ c ∧ c ≤ 57 then sh (dgs (c :: r)) (rnF ((c :: r).drop (dgs (c :: r)))) else (0, false)
def rn : List Int → Nat × Bool
  | [] => (0, false)
  | c :: r => if c = 45 then sh 1 (rnI r) else rnI (c :: r)

theorem sh_sh (a b : Nat) (p : Nat × Bool) : sh a (sh b p) = sh (a + b) p := by simp [sh, Nat.add_assoc]
theorem sh_zero (p : Nat × Bool) : sh 0 p = p := by simp [sh]

/-! ### The automaton -/
def stp (st c : Int) : Int :=
  if st = 0 then (if c = 45 then 1 else if c = 48 then 2 else if isd c then 3 else -1)
  else if st = 1 then (if c = 48 then 2 else if isd c then 3 else -1)
  else if st = 2 then (if c = 46 then 4 else if c = 101 ∨ c = 69 then 6 else -1)
  else if st = 3 then (if isd c then 3 else if c = 46 then 4 else if c = 101 ∨ c = 69 then 6 else -1)
  else if st = 4 then (if isd c then 5 else -1)
  else if st = 5 then (if isd c then 5 else if c = 101 ∨ c = 69 then 6 else -1)
  else if st = 6 then (if c = 43 ∨ c = 45 then 7 else if isd c then 8 else -1)
  else if st = 7 then (if isd c then 8 else -1)
  else if st = 8 then (if isd c then 8 else -1)
  else -1

def acc (st : Int) : Bool := decide (st = 2) || decide (st = 3) || decide (st = 5) || decide (st = 8)

def am (st : Int) : List Int → Nat × Bool
  | [] => (0, acc st)
  | c :: r => if stp st c < 0 then (0, acc st) else sh 1 (am (stp st c) r)

theorem stp_hi (st c : Int) : stp st c ≤ 8 := by unfold stp; repeat' split <;> omega
theorem stp_lo (st c : Int) : -1 ≤ stp st c := by unfold stp; repeat' split <;> omega

theorem am8 (s : List Int) : am 8 s = (dgs s, true) := by
  induction s with
  | nil => rfl
  | cons c r ih =>
    unfold am dgs
    by_cases h : isd c = true <;> simp [stp, h, ih, sh, acc]; omega
theorem am7 (s : List Int) : am 7 s = rnE2 s := by
  cases s with
  | nil => rfl
  | cons c r =>
    unfold am rnE2 dgs
    by_cases h : isd c = true <;> simp [stp, h, am8, sh, acc]; omega
theorem isd_not {c : Int} (h : isd c = true) : c ≠ 43 ∧ c ≠ 45 ∧ c ≠ 46 ∧ c ≠ 101 ∧ c ≠ 69 ∧ 48 ≤ c ∧ c ≤ 57 := by
  unfold isd at h; simp at h; omega
theorem am6 (s : List Int) : am 6 s = rnE1 s := by
  cases s with
  | nil => rfl
  | cons c r =>
    unfold am rnE1
    by_cases h1 : c = 43 ∨ c = 45
    · simp [stp, h1, am7]
    · by_cases h : isd c = true <;> simp [stp, h1, h, am8, sh, acc, rnE2, dgs]; omega
theorem am5 (s : List Int) : am 5 s = sh (dgs s) (rnE (s.drop (dgs s))) := by
  induction s with
  | nil => rfl
  | cons c r ih =>
    by_cases h : isd c = true
    · simp [am, stp, h, ih, dgs, sh_sh, Nat.add_comm 1 (dgs r)]
    · by_cases h2 : c = 101 ∨ c = 69 <;> simp [am, stp, h, h2, dgs, rnE, sh_zero, am6, acc]
theorem am4 (s : List Int) : am 4 s = if dgs s = 0 then (0, false) else sh (dgs s) (rnE (s.drop (dgs s))) := by
  cases s with
  | nil => rfl
  | cons c r =>
    by_cases h : isd c = true
    · simp [am, stp, h, am5, dgs, sh_sh, Nat.add_comm 1 (dgs r)]
    · simp [am, stp, h, dgs, acc]
theorem sh_am4 (r : List Int) : sh 1 (am 4 r) = if dgs r = 0 then (1, false) else sh (1 + dgs r) (rnE (r.drop (dgs r))) := by
  rw [am4]; split <;> simp [sh, Nat.add_assoc]
theorem am2 (s : List Int) : am 2 s = rnF s := by
  cases s with
  | nil => rfl
  | cons c r =>
    by_cases h : c = 46
    · simp [am, stp, h, sh_am4, rnF]
    · by_cases h2 : c = 101 ∨ c = 69 <;> simp [am, stp, h, h2, rnF, rnE, am6, acc]
theorem am3 (s : List Int) : am 3 s = sh (dgs s) (rnF (s.drop (dgs s))) := by
  induction s with
  | nil => rfl
  | cons c r ih =>
    by_cases h : isd c = true
    · simp [am, stp, h, ih, dgs, sh_sh, Nat.add_comm 1 (dgs r)]
    · by_cases h1 : c = 46
      · have h' : isd 46 = false := by decide
        subst h1; simp [am, stp, h', dgs, sh_am4, rnF, sh_zero]
      · by_cases h2 : c = 101 ∨ c = 69 <;> simp [am, stp, h, h1, h2, dgs, rnF, rnE, sh_zero, am6, acc]
theorem isd_pos {c : Int} (_h0 : c ≠ 48) (h : isd c = true) : 49 ≤ c ∧ c ≤ 57 := by have := isd_not h; omega
theorem isd_neg {c : Int} (_h0 : c ≠ 48) (h : ¬ isd c = true) : ¬ (49 ≤ c ∧ c ≤ 57) := by
  unfold isd at h; simp at h; omega
theorem am1 (s : List Int) : am 1 s = rnI s := by
  cases s with
  | nil => rfl
  | cons c r =>
    by_cases h0 : c = 48
    · simp [am, stp, h0, am2, rnI]
    · by_cases h : isd c = true
      · simp [am, stp, h0, h, am3, rnI, isd_pos h0 h, dgs, sh_sh, Nat.add_comm 1 (dgs r)]
      · have hn := isd_neg h0 h
        simp [am, stp, h0, h, rnI, hn, acc]
theorem am0 (s : List Int) : am 0 s = rn s := by
  cases s with
  | nil => rfl
  | cons c r =>
    by_cases hm : c = 45
    · simp [am, stp, hm, am1, rn]
    · by_cases h0 : c = 48
      · simp [am, stp, h0, am2, rnI, rn]
      · by_cases h : isd c = true
        · simp [am, stp, hm, h0, h, am3, rnI, rn, isd_pos h0 h, dgs, sh_sh, Nat.add_comm 1 (dgs r)]
        · have hn := isd_neg h0 h
          simp [am, stp, hm, h0, h, rnI, rn, hn, acc]

/-! ### Bounds -/
theorem dgs_le (s : List Int) : dgs s ≤ s.length := by
  induction s with
  | nil => simp [dgs]
  | cons c r ih => unfold dgs; split <;> simp; omega
theorem am_le (st : Int) (s : List Int) : (am st s).1 ≤ s.length := by
  induction s generalizing st with
  | nil => simp [am]
  | cons c r ih => unfold am; split <;> simp [sh]; have := ih (stp st c); omega
theorem rn_le (s : List Int) : (rn s).1 ≤ s.length := by rw [← am0]; exact am_le 0 s
theorem rn_ok (s : List Int) (h : (rn s).2 = true) : 0 < (rn s).1 := by
  rw [← am0] at *
  cases s with
  | nil => simp [am, acc] at h
  | cons c r =>
    by_cases hs : stp 0 c < 0
    · simp [am, hs, acc] at h
    · simp [am, hs, sh]; omega

/-- cut off at the reported end, the answer is the same -/
theorem am_take (st : Int) (s : List Int) : am st (s.take (am st s).1) = am st s := by
  induction s generalizing st with
  | nil => simp [am]
  | cons c r ih =>
    by_cases h : stp st c < 0
    · simp [am, h]
    · have e : am st (c :: r) = sh 1 (am (stp st c) r) := by simp [am, h]
      rw [e]
      have e2 : (sh 1 (am (stp st c) r)).1 = (am (stp st c) r).1 + 1 := by simp [sh]; omega
      rw [e2, List.take_succ_cons]
      simp only [am, h, if_false, ih]
theorem rn_take (s : List Int) : rn (s.take (rn s).1) = rn s := by
  have := am_take 0 s; rw [am0, am0] at this; exact this
end Go.Proofs.Qxb6604230a.Pl
