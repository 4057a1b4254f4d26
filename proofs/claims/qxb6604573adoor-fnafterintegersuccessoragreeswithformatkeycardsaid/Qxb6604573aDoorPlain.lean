/-
  THE PLAIN PART: eight bytes read and written big-endian; the key behind a key of many bytes; no Go in sight. And two laws on worlds: 'copy' of a string's first bytes; '[]byte(s)'.
-/
import Derived.WalkKit
import Derived.Lib.Endian
import Derived.Lib.EndianMore
import Derived.Lib.LazyBuf
import Derived.Laws.IdiomCopy
import Derived.Laws.IdiomStrings
import Derived.Laws.BytesArg
namespace Go.Proofs.Qxb6604573aDoor
open Go.RowKit

/-- The first 8 bytes, zero bytes standing in for those that are lacking. -/
def pad8 (l : List UInt8) : List UInt8 := (l ++ List.replicate 8 0).take 8
theorem pad8_length (l : List UInt8) : (pad8 l).length = 8 := by simp [pad8]
/-- The number that they spell. -/
def ord8 (l : List UInt8) : Nat := Lib.beNat (pad8 l)
/-- A number's 8 bytes, the greatest first, as a string. -/
def enc8 (u : Nat) : ByteArray := ⟨(Lib.beBytes 8 u).toArray⟩

theorem beFrom_lt : ∀ (l : List UInt8) (a : Nat), Lib.beFrom a l < (a + 1) * 256 ^ l.length
  | [], a => by simp [Lib.beFrom]
  | b :: r, a => by
    have h := beFrom_lt r (a * 256 + b.toNat)
    have hb := b.toNat_lt
    have h2 : (a * 256 + b.toNat + 1) * 256 ^ r.length ≤ (a + 1) * 256 * 256 ^ r.length := Nat.mul_le_mul_right _ (by omega)
    simp only [Lib.beFrom, List.length_cons, Nat.pow_succ]
    rw [Nat.mul_comm (256 ^ r.length) 256, ← Nat.mul_assoc]
    omega
theorem beNat_lt (l : List UInt8) : Lib.beNat l < 256 ^ l.length := by have := beFrom_lt l 0; simpa [Lib.beNat] using this
theorem ord8_lt (l : List UInt8) : ord8 l < 18446744073709551616 := by have := beNat_lt (pad8 l); rw [pad8_length] at this; exact this
theorem beFrom_snoc : ∀ (l : List UInt8) (b : UInt8) (a : Nat), Lib.beFrom a (l ++ [b]) = Lib.beFrom a l * 256 + b.toNat
  | [], b, a => rfl
  | x :: r, b, a => by simp only [List.cons_append, Lib.beFrom]; exact beFrom_snoc r b _
theorem beNat_snoc (l : List UInt8) (b : UInt8) : Lib.beNat (l ++ [b]) = Lib.beNat l * 256 + b.toNat := beFrom_snoc l b 0

/-- What is read is what is written. -/
theorem leBytes_leNat : ∀ (l : List UInt8), Lib.leBytes l.length (Lib.leNat l) = l
  | [] => rfl
  | b :: r => by
    have hb := b.toNat_lt
    have e1 : (b.toNat + 256 * Lib.leNat r) % 256 = b.toNat := by omega
    have e2 : (b.toNat + 256 * Lib.leNat r) / 256 = Lib.leNat r := by omega
    simp only [List.length_cons, Lib.leBytes, Lib.leNat, e1, e2, leBytes_leNat r]
    congr 1
    simp [Nat.toUInt8]
theorem beBytes_beNat (l : List UInt8) : Lib.beBytes l.length (Lib.beNat l) = l := by
  have h := leBytes_leNat l.reverse
  rw [List.length_reverse] at h
  rw [Lib.beNat_eq, Lib.beBytes, h, List.reverse_reverse]
theorem enc8_ord8 (l : List UInt8) : enc8 (ord8 l) = ⟨(pad8 l).toArray⟩ := by
  have h := beBytes_beNat (pad8 l)
  rw [pad8_length] at h
  rw [enc8, ord8, h]

theorem xor_top (a : Nat) (h : a < 18446744073709551616) : a ^^^ 9223372036854775808 = if a < 9223372036854775808 then a + 9223372036854775808 else a - 9223372036854775808 := by
  have h1 : (a ^^^ 9223372036854775808) % 2 ^ 63 = a % 2 ^ 63 := by
    rw [Nat.xor_mod_two_pow]
    have : (9223372036854775808 : Nat) % 2 ^ 63 = 0 := by decide
    rw [this, Nat.xor_zero]
  have h2 : (a ^^^ 9223372036854775808) / 2 ^ 63 = (a / 2 ^ 63) ^^^ 1 := by
    rw [Nat.xor_div_two_pow]
  have h3 : a / 2 ^ 63 = 0 ∨ a / 2 ^ 63 = 1 := by omega
  rcases h3 with h3 | h3
  · rw [h3] at h2
    have : (0 ^^^ 1 : Nat) = 1 := rfl
    rw [this] at h2
    rw [if_pos (by omega)]; omega
  · rw [h3] at h2
    have : (1 ^^^ 1 : Nat) = 0 := rfl
    rw [this] at h2
    rw [if_neg (by omega)]; omega
/-- The sign bit turned, read as a signed number. -/
theorem flip_i64 (U : Nat) (h : U < 18446744073709551616) : IntKind.i64.wrap (bits .xor .u64 (U : Int) 9223372036854775808) = (U : Int) - 9223372036854775808 := by
  have hx : bits .xor .u64 (U : Int) 9223372036854775808 = ((U ^^^ 9223372036854775808 : Nat) : Int) := bits_xor_u64_nat U 9223372036854775808 h (by decide)
  rw [hx, xor_top U h, IntKind.wrap_i64]
  split <;> omega
/-- A signed number with the sign bit turned, read as an unsigned one. -/
theorem flip_u64 (n : Int) (h0 : -9223372036854775808 ≤ n) (h1 : n ≤ 9223372036854775807) : bits .xor .u64 (IntKind.u64.wrap n) 9223372036854775808 = (((n + 9223372036854775808).toNat : Nat) : Int) := by
  obtain ⟨m, hm, hlt⟩ : ∃ m : Nat, IntKind.u64.wrap n = (m : Int) ∧ m < 18446744073709551616 := by
    rw [IntKind.wrap_u64]
    exact ⟨(n % 18446744073709551616).toNat, by omega, by omega⟩
  have hx : bits .xor .u64 (m : Int) 9223372036854775808 = ((m ^^^ 9223372036854775808 : Nat) : Int) := bits_xor_u64_nat m 9223372036854775808 hlt (by decide)
  rw [hm, hx, xor_top m hlt]
  rw [IntKind.wrap_u64] at hm
  split <;> omega

theorem shl_step (U : Nat) (h : U < 72057594037927936) : IntKind.u64.wrap ((U : Int) * 256) = ((U * 256 + 0 : Nat) : Int) := by
  rw [IntKind.wrap_u64]; omega
theorem or_step (U b : Nat) (h : U < 72057594037927936) (hb : b < 256) : bits .or .u64 (IntKind.u64.wrap ((U : Int) * 256)) (b : Int) = ((U * 256 + b : Nat) : Int) := by
  rw [shl_step U h, u64_or_nat _ _ (by omega) (by omega), nat_join 8 (U * 256 + 0) b (by omega) (by omega)]
  omega

/-! ### The key behind a key of many bytes -/
/-- How many bytes are left when the last ones of 255 are dropped. -/
def keep (l : List UInt8) : Nat := (l.reverse.dropWhile (· == 255)).length
theorem keep_le (l : List UInt8) : keep l ≤ l.length := by
  unfold keep
  have := (List.dropWhile_suffix (l := l.reverse) (· == 255)).length_le
  simpa using this
theorem keep_spec (l : List UInt8) (m : Nat) (hm : m ≤ l.length) (ha : ∀ j, m ≤ j → j < l.length → l[j]? = some 255) (hz : m = 0 ∨ ∃ c, l[m - 1]? = some c ∧ c ≠ 255) : m = keep l := by
  have hsplit : l = l.take m ++ List.replicate (l.length - m) 255 := by
    apply List.ext_getElem?
    intro j
    by_cases hj : j < m
    · rw [List.getElem?_append_left (by simp; omega)]; simp [hj]
    · by_cases hl : j < l.length
      · rw [ha j (by omega) hl, List.getElem?_append_right (by simp; omega)]
        simp [List.getElem?_replicate]; omega
      · rw [List.getElem?_eq_none (by omega), List.getElem?_eq_none (by simp; omega)]
  have hlen : (l.take m).length = m := by simp; omega
  have hdr : ∀ (n : Nat) (r : List UInt8), (List.replicate n (255 : UInt8) ++ r).dropWhile (· == 255) = r.dropWhile (· == 255) := by
    intro n r
    induction n with
    | zero => rfl
    | succ n ih => rw [List.replicate_succ, List.cons_append, List.dropWhile_cons]; simp
  unfold keep
  rw [hsplit, List.reverse_append, List.reverse_replicate, hdr]
  rcases hz with rfl | ⟨c, hc, hne⟩
  · simp
  · obtain ⟨p, rfl⟩ : ∃ p, m = p + 1 := by
      refine ⟨m - 1, ?_⟩
      have : m ≠ 0 := by
        intro h0; subst h0
        simp at hc
        have := ha 0 (Nat.le_refl _) (List.getElem?_eq_some_iff.1 hc).1
        rw [hc] at this; simp at this; exact hne this
      omega
    have hp : l.take (p + 1) = l.take p ++ [c] := by
      have hpl : p < l.length := by omega
      rw [List.take_succ_eq_append_getElem hpl]
      simp only [Nat.add_sub_cancel] at hc
      rw [List.getElem?_eq_getElem hpl] at hc
      simp at hc; rw [hc]
    rw [hp, List.reverse_append]
    have hcb : (c == 255) = false := by simpa using hne
    simp [hcb]
    omega

/-- The next key: nothing left: the key itself; else the last byte left one higher. -/
def aft (l : List UInt8) : List UInt8 := if keep l = 0 then l else l.take (keep l - 1) ++ [l.getD (keep l - 1) 0 + 1]

section
variable {P : Program}
/-- 'copy(b, s)', s a string: as many of its bytes as b has room for. -/
theorem run_copy_str (w : World) (dT sT ty elem : TypeId) (b o dLen dCap : Nat) (t : ByteArray)
    (hu : P.underlying dT = some (.slice elem)) (hz : ∀ w, (Go.sizeOf elem).run P w = .ok 1 w)
    (hc : ∀ j, j < dLen → (w.cell? ⟨b, o + j, none⟩).isSome = true) (hf : ∀ j, j < dLen → w.frozen? ⟨b, o + j, none⟩ = false) :
    (Builtin.copy_ #[dT, sT] ty #[.slice (some ⟨b, o, none⟩) dLen dCap, .string t]).run P w =
      .ok (goInt (Nat.min t.size dLen)) (w.setCells b o ((t.data.toList.take dLen).map fun x => Value.int .u8 (x.toNat : Int))) := by
  have hl : ((t.data.toList.take dLen).map fun x => Value.int .u8 (x.toNat : Int)).length ≤ dLen := by simp; omega
  have hst := run_storeCells_cells (P := P) b o ((t.data.toList.take dLen).map fun x => Value.int .u8 (x.toNat : Int)) 0 w (fun j hj => by simpa using hc j (by omega)) (fun j hj => by simpa using hf j (by omega)) (by
    intro v hv
    obtain ⟨x, _, rfl⟩ := List.mem_map.1 hv
    rfl)
  have htk : List.take (Nat.min t.size dLen) (List.map (fun b : UInt8 => Value.int IntKind.u8 (b.toNat : Int)) t.data.toList) = (t.data.toList.take dLen).map fun x => Value.int .u8 (x.toNat : Int) := by
    rw [← List.map_take]
    congr 1
    have e : t.size = t.data.toList.length := by rw [Array.length_toList]; rfl
    rw [e]
    by_cases h : t.data.toList.length ≤ dLen
    · rw [show Nat.min t.data.toList.length dLen = t.data.toList.length from Nat.min_eq_left h, List.take_of_length_le (Nat.le_refl _), List.take_of_length_le h]
    · rw [show Nat.min t.data.toList.length dLen = dLen from Nat.min_eq_right (by omega)]
  simp [Builtin.copy_, run_underlying hu, Builtin.lenOf, Builtin.firstCells, hz]
  rw [htk, hst, List.map_take]
  rfl
end
end Go.Proofs.Qxb6604573aDoor
