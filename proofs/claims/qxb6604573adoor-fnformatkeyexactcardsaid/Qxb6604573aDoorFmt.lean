import Derived.Test.Qxb6604573aDoorRows
import Derived.Test.Qxb6604573aDoorAfter
import Derived.Shelf.Strconv.Itoa4
import Derived.Ground.NamesProg
namespace Go.Proofs
open Go.Shelf
shelf_lay LaysM.n173 Nm 173 at Tryd as Tryd.lays173
end Go.Proofs
namespace Go.Proofs.Qxb6604573aDoor
open Go.RowKit

/-- The name of FormatInt's table of powers, as the given rows write it. -/
def powName : String := Rows.fnFormatKeyExactRow.named.getD 1 ""

theorem fmt_any (n : Int) (h0 : -9223372036854775808 ≤ n) (h1 : n ≤ 9223372036854775807) (w : World) (htab : Lib.TabIs Tryd.prog w powName .u64 Lib.pow10Tab) :
    Calls Tryd.prog 15 #[.int .i64 n, .int .i64 10] w fun e w' => e = .returned (.string ⟨(Lib.itoa n).toArray⟩) ∧ Below w.heap.size w w' := by
  have H : Calls Tryd.prog 15 #[.int .i64 n, .int .i64 10] w fun e w' => e = .returned (.string ⟨(Lib.itoa n).toArray⟩) ∧ ∃ k os, w' = Sort.grow (w.drewN k) os := Any.strconv_FormatInt_10 Tryd.lays173 n h0 h1 w htab
  refine H.mono ?_
  rintro e w' ⟨rfl, k, os, rfl⟩
  refine ⟨rfl, rfl, rfl, rfl, by simp [Sort.grow], fun k hk => ?_⟩
  show (w.heap ++ os)[k]? = w.heap[k]?
  rw [Array.getElem?_append_left hk]

/-- The digit number j of N. -/
def dgt (u N j : Nat) : Nat := u / 10 ^ (N - 1 - j) % 10
theorem dgt_lt (u N j : Nat) : dgt u N j < 10 := Nat.mod_lt _ (by decide)
theorem dec_get (u j : Nat) (hj : j < Lib.nDigits u) : ∃ h : j < (Lib.decDigits u).length, ((Lib.decDigits u)[j]'h).toNat = 48 + dgt u (Lib.nDigits u) j := by
  have hl : j < (Lib.decDigits u).length := by rw [Lib.decDigits_length]; exact hj
  refine ⟨hl, ?_⟩
  have hlt := dgt_lt u (Lib.nDigits u) j
  simp only [Lib.decDigits_eq, List.getElem_map, List.getElem_range, Lib.dg]
  show (UInt8.ofNat (48 + dgt u (Lib.nDigits u) j)).toNat = _
  rw [UInt8.toNat_ofNat']
  omega
theorem dgt_lead (u : Nat) (h : 0 < u) : dgt u (Lib.nDigits u) 0 ≠ 0 := by
  have h1 := Lib.lt_pow_nDigits u
  have h2 := Lib.nDigits_pos u
  have h3 : 10 ^ (Lib.nDigits u - 1) ≤ u := by
    by_cases hk : u < 10
    · rw [Lib.nDigits_small hk]; show 1 ≤ u; omega
    · apply Classical.byContradiction
      intro hc
      have : ∀ k u : Nat, 0 < u → u < 10 ^ k → Lib.nDigits u ≤ k := by
        intro k
        induction k with
        | zero => intro u h h'; simp at h'; omega
        | succ k ih =>
          intro u h h'
          by_cases hu : u < 10
          · rw [Lib.nDigits_small hu]; omega
          · rw [Lib.nDigits_big hu]
            have := ih (u / 10) (by omega) (by rw [Nat.pow_succ] at h'; omega)
            omega
      have := this (Lib.nDigits u - 1) u h (by omega)
      omega
  unfold dgt
  obtain ⟨k, hk⟩ : ∃ k, Lib.nDigits u = k + 1 := ⟨Lib.nDigits u - 1, by omega⟩
  rw [hk] at h1 h3 ⊢
  simp only [Nat.add_sub_cancel, Nat.sub_zero] at h3 ⊢
  have h4 : 1 ≤ u / 10 ^ k := (Nat.le_div_iff_mul_le (Nat.pow_pos (by decide))).2 (by simpa using h3)
  have h5 : u / 10 ^ k < 10 := (Nat.div_lt_iff_lt_mul (Nat.pow_pos (by decide))).2 (by rw [Nat.pow_succ] at h1; rw [Nat.mul_comm]; exact h1)
  omega
/-- What the first j digits spell. -/
def preV (u N j : Nat) : Nat := u / 10 ^ (N - j)
theorem preV_zero (u : Nat) : preV u (Lib.nDigits u) 0 = 0 := by
  unfold preV; rw [Nat.sub_zero]; exact Nat.div_eq_of_lt (Lib.lt_pow_nDigits u)
theorem preV_full (u N : Nat) : preV u N N = u := by unfold preV; simp
theorem preV_le (u N j : Nat) : preV u N j ≤ u := Nat.div_le_self _ _
theorem preV_step (u N j : Nat) (hj : j < N) : preV u N j * 10 + dgt u N j = preV u N (j + 1) := by
  unfold preV dgt
  obtain ⟨q, hq⟩ : ∃ q, N - (j + 1) = q := ⟨_, rfl⟩
  have e1 : N - j = q + 1 := by omega
  have e2 : N - 1 - j = q := by omega
  rw [e1, e2, hq, Nat.pow_succ, ← Nat.div_div_eq_div_mul]
  omega
end Go.Proofs.Qxb6604573aDoor
