/-
  THE PLAIN PART: what 'appendCodePoint' appends, said without Go; and one law on worlds: 'append(b, s...)' of a string onto a slice without spare room.
-/
import Derived.WalkKit
import Derived.Deep.AppendSrc
namespace Go.Proofs.Qxb6604476a
open Go.RowKit

/-- The byte of the upper-case hex digit d. -/
def hexd (d : Int) : Int := if d < 10 then 48 + d else 55 + d
/-- How many digits: four at least. -/
def ndig (r : Int) : Nat := if r < 65536 then 4 else if r < 1048576 then 5 else if r < 16777216 then 6 else if r < 268435456 then 7 else 8
/-- The digit number q of n, the greatest first. -/
def dig (r : Int) (n q : Nat) : Int := hexd (r / 16 ^ (n - 1 - q) % 16)
/-- The first j of n digits, as cells. -/
def digs (r : Int) (n j : Nat) : List Value := (List.range j).map fun q => Value.int .u8 (dig r n q)

theorem hexd_bd (d : Int) (h0 : 0 ≤ d) (h1 : d < 16) : 48 ≤ hexd d ∧ hexd d ≤ 70 := by
  unfold hexd; split <;> omega
theorem dig_bd (r : Int) (n q : Nat) : 48 ≤ dig r n q ∧ dig r n q ≤ 70 := hexd_bd _ (Int.emod_nonneg _ (by decide)) (Int.emod_lt_of_pos _ (by decide))
theorem ndig_bd (r : Int) : 4 ≤ ndig r ∧ ndig r ≤ 8 := by
  unfold ndig
  constructor <;> (repeat' split) <;> omega
theorem digs_length (r : Int) (n j : Nat) : (digs r n j).length = j := by simp [digs]
theorem digs_zero (r : Int) (n : Nat) : digs r n 0 = [] := rfl
theorem digs_succ (r : Int) (n j : Nat) : digs r n (j + 1) = digs r n j ++ [Value.int .u8 (dig r n j)] := by simp [digs, List.range_succ]
theorem digs_get (r : Int) (n j q : Nat) (h : q < j) : (digs r n j)[q]? = some (Value.int .u8 (dig r n q)) := by simp [digs, List.getElem?_range h]

section
variable {P : Program}
/-- 'append(b, s...)', b WITHOUT SPARE ROOM (nil; or 'n' cells, the capacity n), s a string that is not empty: a new row. -/
theorem wpList_append_string_full (w : World) {ops : Array Oper} {rest : List Oper} {o : Oper} {a : Act} {Q : Exit → Act → World → Prop}
    (hg : o.guard = none) (s x : Operand) (t u : TypeId) (hop : o.op = Op.call { callee := Callee.builtin Builtin.append, args := #[s, x], argTypes := #[t, u] })
    (e : TypeId) (i : TypeInfo) (z : Value) (h1 : P.underlying t = some (.slice e)) (hu : P.underlying u = some .string) (h2 : P.info? e = some i) (h3 : i.zero = some z) (h4 : i.size = 1) (h5 : i.bytes = 1) (h6 : z.cells.size = 1)
    (ao : Option Addr) (n : Nat) (olds : List Value) (hs : a.eval s = .slice ao n n) (hnone : ao = none → n = 0) (hlo : olds.length = n) (holds : ∀ b, ao = some b → ∀ j u, olds[j]? = some u → w.cell? (b.add j) = some u)
    (str : ByteArray) (hx : a.eval x = .string str) (hpos : 0 < str.size) (b2 : n + str.size ≤ 140737488355328)
    (hK : ∀ v' w', w'.ownsRow w.heap.size e 1 v' (n + str.size) (olds ++ byteCells str) → w.grownBy w' none → wpList P ops Q rest (a.put o.dst v') w') :
    wpList P ops Q (o :: rest) a w := by
  refine wpList_plain hg fun K hK' => ?_
  have hsrc : Src P i.size u (.string str) str.size (byteCells str) w := by rw [h4]; exact Src.ofString w hu str
  have hold : (Builtin.firstCells i.size n (.slice ao n n)).run P w.drew = .ok olds.toArray w.drew := by
    rw [h4]
    cases ao with
    | none =>
      obtain rfl := hnone rfl
      obtain rfl : olds = [] := List.eq_nil_of_length_eq_zero (by simpa using hlo)
      exact run_firstCells_none w.drew 1 0 0 0
    | some b => exact run_firstCells_some w.drew 1 n b n n olds (by omega) (by simpa using holds b rfl)
  have h63 : n + str.size ≤ maxLen := by simp only [maxLen]; omega
  have hr := run_append_grow_src (P := P) w t u o.type e i z h1 h2 h3 ao n n olds hold (.string str) str.size (byteCells str) hsrc (by omega) (by omega) (by rw [h5]; exact growslice_fits (by omega) (by omega))
  have hge := grownCap_ge w (n + str.size) n e
  have hcm : grownCap w (n + str.size) n e ≤ maxLen := grownCap_le_maxLen w (n + str.size) n e h63
  have hlen : (olds ++ byteCells str).length = (n + str.size) * 1 := by rw [List.length_append, hlo, byteCells_length]; omega
  unfold Oper.wp
  simp [execOp, hop, resolve, invoke, builtin, hs, hx, hr, Result.andThen]
  refine hK' _ _ (hK _ _ ⟨hlen, .inr ⟨w.heap.size, _, _, rfl, Nat.le_refl _, heap_alloc_new w.drew _, hge, hcm, ?_, ?_⟩⟩ ⟨rfl, rfl, rfl, by simp, fun k hk _ => Below.heap_alloc w.drew _ k hk⟩)
  · simp only [Array.size_append, List.size_toArray, size_zeroCells, h6]
    rw [hlen]; omega
  · simp only [Array.toList_append]
    rw [← hlen]
    exact List.take_left
end
end Go.Proofs.Qxb6604476a
