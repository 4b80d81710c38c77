/-
  PLAIN FACTS ON BYTES AND STRINGS: no Go in sight.
-/
namespace Go.Proofs.Qxb6602896a.Pl

/-- an ASCII letter, digit or underscore -/
def nb (c : Int) : Bool := (decide (97 ≤ c) && decide (c ≤ 122)) || (decide (65 ≤ c) && decide (c ≤ 90)) || (decide (48 ≤ c) && decide (c ≤ 57)) || decide (c = 95)

/-- the bytes of a string, as numbers -/
def bs (s : ByteArray) : List Int := s.data.toList.map fun b => (b.toNat : Int)
theorem bs_len (s : ByteArray) : (bs s).length = s.size := by unfold bs; rw [List.length_map]; rfl
theorem bs_get (s : ByteArray) (k : Nat) (h : k < s.size) : (bs s)[k]? = some (s[k].toNat : Int) := by
  unfold bs
  rw [List.getElem?_map]
  have : s.data.toList[k]? = some s[k] := by rw [Array.getElem?_toList]; exact Array.getElem?_eq_getElem h
  rw [this]; rfl
theorem bs_drop (s : ByteArray) (k : Nat) (h : k < s.size) : (bs s).drop k = (s[k].toNat : Int) :: (bs s).drop (k + 1) := by
  have h' : k < (bs s).length := by rw [bs_len]; exact h
  rw [List.drop_eq_getElem_cons h']
  congr 1
  have := bs_get s k h
  rw [List.getElem?_eq_getElem h'] at this
  exact Option.some.inj this
theorem bs_inj {s t : ByteArray} (h : bs s = bs t) : s = t := by
  unfold bs at h
  have h2 : s.data.toList = t.data.toList := by
    refine (List.map_inj_right ?_).1 h
    intro a b hab
    exact UInt8.toNat_inj.1 (by omega)
  have h3 : s.data = t.data := Array.toList_inj.1 h2
  cases s; cases t
  simp at h3
  rw [h3]
theorem bs_append (s t : ByteArray) : bs (s ++ t) = bs s ++ bs t := by
  unfold bs
  simp
theorem bs_extract (s : ByteArray) (i j : Nat) : bs (s.extract i j) = ((bs s).take j).drop i := by
  unfold bs
  rw [ByteArray.data_extract, Array.toList_extract]
  simp [List.extract_eq_drop_take']
end Go.Proofs.Qxb6602896a.Pl
