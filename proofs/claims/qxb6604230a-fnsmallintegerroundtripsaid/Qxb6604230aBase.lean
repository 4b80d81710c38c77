/-
  WHAT ALL THE WALKS OF THIS SEAT SHARE: 'RD w a zs': the address 'a' leads, in the world 'w', to the bytes 'zs'; the laws on 'make([]byte, n)' and 'copy' in the form in which the walks use them.
-/
import Derived.Test.Qxb6604230aRows
import Derived.WalkKit
import Derived.OpenShut
import Derived.Laws.CopyOwn
import Derived.Deep.OwnRows
import Derived.WalkSpells
namespace Go.Proofs.Qxb6604230a
open Go.RowKit

/-- 'a' leads to the bytes 'zs' (or there are none). -/
def RD (w : World) (a : Option Addr) (zs : List Int) : Prop :=
  (∀ j : Nat, 0 ≤ zs[j]?.getD 0 ∧ zs[j]?.getD 0 ≤ 255) ∧
  (zs = [] ∨ ∃ b off, a = some ⟨b, off, none⟩ ∧ ∀ j, j < zs.length → w.cell? ⟨b, off + j, none⟩ = some (.int .u8 (zs.getD j 0)))

theorem drop_cons {zs : List Int} {k : Nat} (h : k < zs.length) : zs.drop k = (zs[k]?.getD 0) :: zs.drop (k + 1) := by
  rw [List.drop_eq_getElem_cons h]; simp [List.getElem?_eq_getElem h]
theorem drop_none {zs : List Int} {k : Nat} (h : ¬ k < zs.length) : zs.drop k = [] := List.drop_eq_nil_of_le (by omega)

/-- the world has at most new blocks -/
theorem RD.later {w w' : World} {a : Option Addr} {zs : List Int} (h : RD w a zs) (hb : Below w.heap.size w w') : RD w' a zs := by
  refine ⟨h.1, ?_⟩
  rcases h.2 with h | ⟨b, off, rfl, hc⟩
  · exact .inl h
  · refine .inr ⟨b, off, rfl, fun j hj => ?_⟩
    have := hc j hj
    rw [hb.cell (World.block_lt_of_cell? w _ this)]
    exact this
theorem RD.take {w : World} {a : Option Addr} {zs : List Int} (h : RD w a zs) (k : Nat) : RD w a (zs.take k) := by
  refine ⟨fun j => ?_, ?_⟩
  · rw [List.getElem?_take]
    split
    · exact h.1 j
    · simp
  · rcases h.2 with h | ⟨b, off, rfl, hc⟩
    · exact .inl (by simp [h])
    · refine .inr ⟨b, off, rfl, fun j hj => ?_⟩
      simp at hj
      have hjk : j < k := by omega
      rw [hc j (by omega)]
      simp [hjk]
theorem RD.nil (w : World) (a : Option Addr) : RD w a [] := ⟨fun j => by simp, .inl rfl⟩
/-- a block that holds the bytes -/
theorem RD.block {w : World} {g : Nat} {zs : List Int} {t : TypeId} (hbd : ∀ j : Nat, 0 ≤ zs[j]?.getD 0 ∧ zs[j]?.getD 0 ≤ 255) (hg : w.heap[g]? = some (.cells (zs.map (Value.int .u8)).toArray t (0, 0))) : RD w (some ⟨g, 0, none⟩) zs := by
  refine ⟨hbd, .inr ⟨g, 0, rfl, fun j hj => ?_⟩⟩
  rw [Nat.zero_add, cell_of_row w g j _ t (0, 0) hg]
  simp [hj]
/-- the cells, as 'copy' and 'append' ask for them -/
theorem RD.cells {w : World} {a : Option Addr} {zs : List Int} (h : RD w a zs) (hp : 0 < zs.length) : ∃ ad, a = some ad ∧ ∀ j v, (zs.map (Value.int .u8))[j]? = some v → w.cell? (ad.add j) = some v := by
  obtain ⟨b, off, rfl, hc⟩ := h.2.resolve_left (by rintro rfl; simp at hp)
  refine ⟨_, rfl, fun j v hv => ?_⟩
  rw [List.getElem?_map] at hv
  cases hz : zs[j]? with
  | none => simp [hz] at hv
  | some x =>
    simp [hz] at hv
    have hj : j < zs.length := (List.getElem?_eq_some_iff.1 hz).1
    rw [Addr.add_lit, hc j hj]
    simp [hz, ← hv]

theorem Try.info5 : (Try.prog.info? 5).map (fun i => (i.zero, i.size, i.bytes)) = some (some (.int .u8 0), 1, 1) := by kernel_rfl
theorem Try.size5 : (Try.prog.info? 5).map (·.size) = some 1 := by kernel_rfl

theorem made_zeros (n : Nat) : madeCells (Value.int .u8 0).cells (n * 1) = (List.replicate n (Value.int .u8 0)).toArray := by
  apply Array.ext
  · simp [madeCells]
  · intro i h1 h2
    simp [madeCells, Value.cells, Nat.mod_one]

/-- 'make([]byte, n)': a new block of zeros -/
theorem wpList_mk (w : World) {ops : Array Oper} {rest : List Oper} {o : Oper} {a : Act} {Q : Exit → Act → World → Prop}
    (hg : o.guard = none) (l c : Operand) (hop : o.op = Op.makeSlice 22 l c) (L C : Int) (n : Nat) (hl : a.eval l = .int .i64 L) (hc : a.eval c = .int .i64 C) (hL : L = (n : Int)) (hC : C = (n : Int)) (hn : n ≤ 16777216)
    (hK : ∀ w', Hid (w'.heap[w.heap.size]? = some (.cells (List.replicate n (Value.int .u8 0)).toArray 5 (0, 0))) → Below w.heap.size w w' → wpList Try.prog ops Q rest (a.put o.dst (.slice (some ⟨w.heap.size, 0, none⟩) n n)) w') :
    wpList Try.prog ops Q (o :: rest) a w := by
  obtain ⟨i, hi, hz0, hz1, hz2⟩ := info_parts Try.info5
  refine wpList_plain hg fun K hK' => ?_
  subst hL; subst hC
  have hrun := run_make (P := Try.prog) w 22 5 i _ Try.underlying22 hi hz0 .i64 .i64 n n (by omega) (by omega) (by rw [hz2]; omega) (by omega)
  rw [hz1, Int.toNat_natCast, made_zeros] at hrun
  unfold Oper.wp
  simp [execOp, hop, hl, hc, hrun, Result.andThen]
  exact hK' _ _ (hK _ (heap_alloc_new w _) ((Below.refl _ _).alloc (Nat.le_refl _) _))

/-- A GUARD for a law on 'copy': 'with_reducible refine at_copy ?_' goes through only where the next operation is a copy. -/
theorem at_copy {P : Program} {ops : Array Oper} {Q : Exit → Act → World → Prop} {dst : Option Tmp} {args : Array Operand} {ats : Array TypeId} {ty : TypeId} {pos : String} {af : Array Edge} {g : Option (Nat × Bool)} {rest : List Oper} {a : Act} {w : World}
    (h : wpList P ops Q ({ dst := dst, op := .call { callee := .builtin .copy, args := args, argTypes := ats }, type := ty, pos := pos, after := af, guard := g } :: rest) a w) :
    wpList P ops Q ({ dst := dst, op := .call { callee := .builtin .copy, args := args, argTypes := ats }, type := ty, pos := pos, after := af, guard := g } :: rest) a w := h

/-- 'copy(dst, src)', dst the new block of just as many zeros -/
theorem wpList_cp (w : World) {ops : Array Oper} {rest : List Oper} {o : Oper} {a : Act} {Q : Exit → Act → World → Prop}
    (hgd : o.guard = none) (d s : Operand) (ho : o.op = .call { callee := .builtin .copy, args := #[d, s], argTypes := #[22, 22] })
    (g : Nat) (sp : Option Addr) (n m sCap : Nat) (zs : List Int) (hd : a.eval d = .slice (some ⟨g, 0, none⟩) n n) (hs : a.eval s = .slice sp m sCap)
    (hg : Hid (w.heap[g]? = some (.cells (List.replicate n (Value.int .u8 0)).toArray 5 (0, 0)))) (hn : n = zs.length) (hm : m = zs.length) (hr : Hid (RD w sp zs))
    (h : ∀ w', Hid (RD w' (some ⟨g, 0, none⟩) zs) → Below g w w' → wpList Try.prog ops Q rest (a.put o.dst (goInt zs.length)) w') :
    wpList Try.prog ops Q (o :: rest) a w := by
  subst hm; subst hn
  have hr' := hr.out
  refine wpList_copy_splice hgd d s 22 22 ho 5 Try.underlying22 Try.size5 _ sp _ _ _ _ hd hs g 0 (List.replicate zs.length (Value.int .u8 0)) 5 hg.out (zs.map (Value.int .u8)) (by simp) ?_ (by simp) (ints_oneCell _ _) g w (Below.refl _ _) (Nat.le_refl _) ?_
  · intro hp
    obtain ⟨ad, rfl, hc⟩ := hr'.cells (by simpa using hp)
    exact ⟨rfl, ad, rfl, hc⟩
  · intro w' HG hB
    have e : splice (List.replicate zs.length (Value.int .u8 0)) 0 (zs.map (Value.int .u8)) = zs.map (Value.int .u8) := by simp [splice]
    have hg2 := HG.out
    rw [e] at hg2
    have := h w' (RD.block hr'.1 hg2) hB
    simpa using this

/-- the slice at the head of block 'g', 'k' bytes long, room for 'cap', is the call's own and holds 'zs' -/
def Own (w : World) (base g k cap : Nat) (zs : List Int) : Prop := w.ownsRow base 5 1 (.slice (some ⟨g, 0, none⟩) k cap) k (zs.map (Value.int .u8))

/-- 'make([]byte, 0, n)' -/
theorem wpList_mk0 (w : World) {ops : Array Oper} {rest : List Oper} {o : Oper} {a : Act} {Q : Exit → Act → World → Prop}
    (hg : o.guard = none) (l c : Operand) (hop : o.op = Op.makeSlice 22 l c) (C : Int) (n : Nat) (hl : a.eval l = .int .i64 0) (hc : a.eval c = .int .i64 C) (hC : C = (n : Int)) (hn : n ≤ 16777216)
    (hK : ∀ w', Own w' w.heap.size w.heap.size 0 n [] → Below w.heap.size w w' → wpList Try.prog ops Q rest (a.put o.dst (.slice (some ⟨w.heap.size, 0, none⟩) 0 n)) w') :
    wpList Try.prog ops Q (o :: rest) a w := by
  obtain ⟨i, hi, hz0, hz1, hz2⟩ := info_parts Try.info5
  refine wpList_make_own w hg l c 22 hop w.heap.size 5 i _ 1 Try.underlying22 hi hz0 hz1 .i64 .i64 C n hl hc hC (by rw [hz2]; omega) (by unfold maxLen; omega) (Nat.le_refl _) ?_
  intro w' hown hgrow
  exact hK w' hown ((Below.refl _ _).grown hgrow (Nat.le_refl _) (fun k hk => by cases hk))

/-- 'append(dst, src...)', within the capacity -/
theorem wpList_ap (w : World) {ops : Array Oper} {rest : List Oper} {o : Oper} {a : Act} {Q : Exit → Act → World → Prop}
    (hgd : o.guard = none) (d s : Operand) (ho : o.op = Op.call { callee := Callee.builtin Builtin.append, args := #[d, s], argTypes := #[22, 22] })
    (base g k cap : Nat) (zs : List Int) (sp : Option Addr) (m sCap : Nat) (ys : List Int) (hd : a.eval d = .slice (some ⟨g, 0, none⟩) k cap) (hs : a.eval s = .slice sp m sCap)
    (hown : Own w base g k cap zs) (hm : m = ys.length) (hr : RD w sp ys) (hnil : sp = none → m = 0 ∧ sCap = 0) (hroom : k + m ≤ cap)
    (h : ∀ w', Own w' base g (k + m) cap (zs ++ ys) → Below g w w' → wpList Try.prog ops Q rest (a.put o.dst (.slice (some ⟨g, 0, none⟩) (k + m) cap)) w') :
    wpList Try.prog ops Q (o :: rest) a w := by
  obtain ⟨i, hi, hz0, hz1, hz2⟩ := info_parts Try.info5
  refine wpList_append_fits_any w hgd d s 22 ho base 5 i 1 Try.underlying22 hi hz1 g k cap _ hd hown sp m sCap (ys.map (Value.int .u8)) hs (by simp [hm]) hnil ?_ (ints_oneCell _ _) hroom ?_
  · intro ad had j u hu
    by_cases hp : 0 < ys.length
    · obtain ⟨ad', h1, h2⟩ := hr.cells hp
      rw [had] at h1
      obtain rfl := Option.some.inj h1
      exact h2 j u hu
    · have : ys = [] := List.eq_nil_of_length_eq_zero (by omega)
      subst this
      simp at hu
  · intro w' hown' hgrow
    refine h w' ?_ ((Below.refl _ _).grown hgrow ?_ (fun k hk => by simp at hk; omega))
    · unfold Own; rw [List.map_append]; exact hown'
    · exact Nat.le_of_lt (hown.lt g rfl).2

theorem Own.rd {w : World} {base g k cap : Nat} {zs : List Int} (h : Own w base g k cap zs) (hbd : ∀ j : Nat, 0 ≤ zs[j]?.getD 0 ∧ zs[j]?.getD 0 ≤ 255) : RD w (some ⟨g, 0, none⟩) zs := by
  have hl : zs.length = k * 1 := by simpa using h.1
  refine ⟨hbd, .inr ⟨g, 0, rfl, fun j hj => ?_⟩⟩
  rw [Nat.zero_add, World.ownsRow.cellAt h j (by omega)]
  simp [hj]
theorem Own.len {w : World} {base g k cap : Nat} {zs : List Int} (h : Own w base g k cap zs) : k = zs.length := by
  have hl : zs.length = k * 1 := by simpa using h.1
  omega
theorem bd_app {a b : List Int} (ha : ∀ j : Nat, 0 ≤ a[j]?.getD 0 ∧ a[j]?.getD 0 ≤ 255) (hb : ∀ j : Nat, 0 ≤ b[j]?.getD 0 ∧ b[j]?.getD 0 ≤ 255) (j : Nat) : 0 ≤ (a ++ b)[j]?.getD 0 ∧ (a ++ b)[j]?.getD 0 ≤ 255 := by
  rw [List.getElem?_append]
  split
  · exact ha j
  · exact hb _

/-- A SLICE OF BYTES THAT CAN BE READ: 'zs' are its elements. -/
def Good (w : World) (a : Option Addr) (n cap : Nat) (zs : List Int) : Prop := n = zs.length ∧ RD w a zs ∧ (a = none → n = 0 ∧ cap = 0) ∧ n ≤ 9223372036854775807

theorem Good.later {w w' : World} {a : Option Addr} {n cap : Nat} {zs : List Int} (h : Good w a n cap zs) (hb : Below w.heap.size w w') : Good w' a n cap zs := ⟨h.1, h.2.1.later hb, h.2.2⟩
/-- a slice of the call's own -/
theorem Good.own {w : World} {g n : Nat} {zs : List Int} (h : RD w (some ⟨g, 0, none⟩) zs) (hn : n = zs.length) (hm : n ≤ 9223372036854775807) : Good w (some ⟨g, 0, none⟩) n n zs := ⟨hn, h, fun h => (by cases h), hm⟩

/-- what a proof's frame says of a slice of bytes that came in, in these words -/
theorem good_of {w : World} {a : Option Addr} {len cap : Nat} {zs : List Int}
    (h : (a = none ∧ len = 0 ∧ cap = 0 ∧ zs = []) ∨ ∃ x, a = some x ∧ len ≤ cap ∧ cap ≤ maxLen ∧ zs.length = cap ∧ (∀ i, i < zs.length → w.cell? (x.add i) = some (.int .u8 (zs.getD i 0))) ∧ ∀ n ∈ zs, (Lit.int .u8 n).wf = true) :
    Good w a len cap (zs.take len) := by
  rcases h with ⟨rfl, rfl, rfl, rfl⟩ | ⟨x, rfl, hlc, hm, hz, hc, hw⟩
  · exact ⟨rfl, RD.nil _ _, fun _ => ⟨rfl, rfl⟩, by omega⟩
  · refine ⟨by simp; omega, ?_, fun h => (by cases h), by unfold maxLen at hm; omega⟩
    refine RD.take ⟨fun j => range_u8 hw j, ?_⟩ len
    by_cases hp : 0 < zs.length
    · obtain ⟨b, off, rfl, hc'⟩ := ints_at hc hp
      exact .inr ⟨b, off, rfl, hc'⟩
    · exact .inl (List.eq_nil_of_length_eq_zero (by omega))
end Go.Proofs.Qxb6604230a
