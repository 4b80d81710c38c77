/-
  THE PLAIN LAW OF equalLower: no Go in sight.
-/
namespace Go.Proofs.Qxb6604230a.Pl

def low (c : Int) : Int := if 65 ≤ c ∧ c ≤ 90 then c + 32 else c
def upc (c : Int) : Int := if 97 ≤ c ∧ c ≤ 122 then c - 32 else c
/-- 'zs', its capitals made small, is 'bs' -/
def elow (zs bs : List Int) : Bool := zs.map low == bs

theorem low_low (c : Int) : low (low c) = low c := by unfold low; repeat' split <;> omega
theorem low_up (c : Int) : low (upc c) = low c := by unfold low upc; repeat' split <;> omega
theorem elow_low (zs bs : List Int) : elow (zs.map low) bs = elow zs bs := by
  unfold elow; rw [List.map_map]; congr 2; funext c; exact low_low c
theorem elow_up (zs bs : List Int) : elow (zs.map upc) bs = elow zs bs := by
  unfold elow; rw [List.map_map]; congr 2; funext c; exact low_up c
theorem elow_self (zs : List Int) : elow zs (zs.map low) = true := by simp [elow]
theorem low_bd (c : Int) (h0 : 0 ≤ c) (h1 : c ≤ 255) : 0 ≤ low c ∧ low c ≤ 255 := by unfold low; split <;> omega
theorem up_bd (c : Int) (h0 : 0 ≤ c) (h1 : c ≤ 255) : 0 ≤ upc c ∧ upc c ≤ 255 := by unfold upc; split <;> omega
theorem elow_len (zs bs : List Int) (h : zs.length ≠ bs.length) : elow zs bs = false := by
  unfold elow
  rw [beq_eq_false_iff_ne]
  intro e
  apply h
  rw [← e]; simp
theorem elow_cons (c d : Int) (zs bs : List Int) : elow (c :: zs) (d :: bs) = (low c == d && elow zs bs) := rfl
end Go.Proofs.Qxb6604230a.Pl
