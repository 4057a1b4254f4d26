import Derived.Test.Qxb6604573aOrd
namespace Go.Proofs.Qxb6604573a
open Go.RowKit

/-- In block g lie the bytes l, none of them frozen. -/
def Row (W : World) (g : Nat) (l : List UInt8) : Prop :=
  (∀ j, j < l.length → W.cell? ⟨g, j, none⟩ = some (.int .u8 (l.getD j 0).toNat)) ∧ (∀ j, j < l.length → W.frozen? ⟨g, j, none⟩ = false)

theorem Row.set {W : World} {g : Nat} {l : List UInt8} (h : Row W g l) (q : Nat) (hq : q < l.length) (c : UInt8) : Row (W.setCell ⟨g, q, none⟩ (.int .u8 c.toNat)) g (l.set q c) := by
  refine ⟨fun j hj => ?_, fun j hj => ?_⟩
  · rw [List.length_set] at hj
    by_cases e : j = q
    · subst e
      rw [World.cell?_setCell_same _ _ _ (h.1 j hj)]
      simp [List.getD, hj]
    · rw [World.cell?_setCell_other _ _ _ _ (by intro x; cases x; exact e rfl), h.1 j hj]
      have e' : q ≠ j := fun x => e x.symm
      simp [List.getD, e']
  · rw [List.length_set] at hj
    rw [World.frozen?_setCell]; exact h.2 j hj

/-- '[]byte(s)'. -/
theorem bytes_made (w : World) (src : TypeId) (s : ByteArray) (hs : Try.prog.underlying src = some .string) :
    ∃ cap W, (convert src 32 (.string s)).run Try.prog w = .ok (.slice (some ⟨w.heap.size, 0, none⟩) s.size cap) W ∧ s.size ≤ cap ∧ Row W w.heap.size s.data.toList ∧ Below w.heap.size w W ∧ w.heap.size < W.heap.size := by
  have hr := run_bytes_of_string (P := Try.prog) w src 32 5 s hs Try.underlying32 Try.underlying5
  refine ⟨_, _, hr, grownCap_ge w s.size 0 5, ⟨fun j hj => ?_, fun j hj => ?_⟩, (Below.refl _ w).drew.alloc (Nat.le_refl _) _, by simp⟩
  · have hj' : j < s.data.size := by simpa using hj
    have h1 : ∀ o : Obj, (w.drew.alloc o).heap[w.heap.size]? = some o := fun o => heap_alloc_new w.drew o
    unfold World.cell?
    simp only [h1]
    rw [bytesRow_at s _ j hj']
    simp [List.getD, Array.getElem?_eq_getElem hj']
  · have hj' : j < s.data.size := by simpa using hj
    have h1 : ∀ o : Obj, (w.drew.alloc o).heap[w.heap.size]? = some o := fun o => heap_alloc_new w.drew o
    have h2 : s.data.size ≤ (bytesRow s (grownCap w s.size 0 5)).size := by simp [bytesRow]
    unfold World.frozen?
    simp only [h1]
    simp
    omega

/-- What 'zzInc' leaves. -/
def incL (l : List UInt8) : List UInt8 := (if keep l = 0 then [] else l.take (keep l - 1) ++ [l.getD (keep l - 1) 0 + 1]) ++ List.replicate (l.length - keep l) 0
theorem incL_take (l : List UInt8) (h : keep l ≠ 0) : (incL l).take (keep l) = aft l := by
  have hk := keep_le l
  unfold incL aft
  rw [if_neg h, if_neg h, List.take_append_of_le_length (by simp; omega), List.take_of_length_le (by simp; omega)]
theorem incL_length (l : List UInt8) : (incL l).length = l.length := by
  have hk := keep_le l
  unfold incL
  split
  · simp; omega
  · simp; omega
theorem incL_last (l : List UInt8) (h : keep l ≠ 0) : (incL l).getD (keep l - 1) 0 = l.getD (keep l - 1) 0 + 1 := by
  have hk := keep_le l
  have hl : (l.take (keep l - 1)).length = keep l - 1 := by simp; omega
  unfold incL
  rw [if_neg h, List.getD, List.append_assoc, List.getElem?_append_right (by omega), hl, Nat.sub_self]
  rfl
theorem incL_zero (l : List UInt8) (j : Nat) (h : keep l ≤ j) : (incL l).getD j 0 = 0 := by
  have hk := keep_le l
  unfold incL
  rw [List.getD, List.getElem?_append_right (by split <;> simp <;> omega), List.getElem?_replicate]
  split <;> split <;> rfl
theorem keep_ne (l : List UInt8) (h : keep l ≠ 0) : l.getD (keep l - 1) 0 ≠ 255 := by
  intro hc
  have h2 : l.reverse.dropWhile (· == 255) ≠ [] := by
    intro h0; unfold keep at h; rw [h0] at h; exact h rfl
  have h3 := List.dropWhile_suffix (l := l.reverse) (· == 255)
  obtain ⟨p, hp⟩ := h3
  have hlen : keep l = (l.reverse.dropWhile (· == 255)).length := rfl
  match hd : l.reverse.dropWhile (· == 255), h2 with
  | x :: xs, _ =>
    have hx : (x == 255) = false := by
      have := List.head_dropWhile_not (p := (· == 255)) (l := l.reverse) (by rw [hd]; simp)
      simp only [hd, List.head_cons] at this
      exact this
    rw [hd] at hp hlen
    have hl : l = xs.reverse ++ [x] ++ p.reverse := by
      have := congrArg List.reverse hp
      rw [List.reverse_reverse] at this
      rw [← this]; simp
    rw [hlen] at hc
    simp only [List.length_cons, Nat.add_sub_cancel] at hc
    rw [hl, List.getD, List.append_assoc, List.getElem?_append_right (by simp)] at hc
    simp at hc
    rw [hc] at hx
    simp at hx

/-- The bytes behind the rounds n - 1 .. k of 'zzInc': those were all 255. -/
def incTo (l : List UInt8) (k : Nat) : List UInt8 := l.take k ++ List.replicate (l.length - k) 0
theorem incTo_length (l : List UInt8) (k : Nat) (hk : k ≤ l.length) : (incTo l k).length = l.length := by simp [incTo]; omega
theorem incTo_full (l : List UInt8) : incTo l l.length = l := by simp [incTo]
theorem incTo_get (l : List UInt8) (q : Nat) (hq : q < l.length) : (incTo l (q + 1)).getD q 0 = l.getD q 0 := by
  unfold incTo
  rw [List.getD, List.getElem?_append_left (by simp; omega)]
  simp [List.getD]
theorem incTo_set (l : List UInt8) (q : Nat) (hq : q < l.length) (c : UInt8) : (incTo l (q + 1)).set q c = l.take q ++ [c] ++ List.replicate (l.length - (q + 1)) 0 := by
  unfold incTo
  have h1 : (l.take (q + 1)).length = q + 1 := by simp; omega
  have h2 : (l.take q).length = q := by simp; omega
  rw [List.set_append_left _ _ (by omega), List.take_succ_eq_append_getElem hq, List.set_append_right _ _ (by omega), h2, Nat.sub_self]
  rfl
theorem incTo_zero (l : List UInt8) (q : Nat) (hq : q < l.length) : (incTo l (q + 1)).set q 0 = incTo l q := by
  rw [incTo_set l q hq, incTo]
  obtain ⟨m, hm⟩ : ∃ m, l.length - q = m + 1 := ⟨l.length - q - 1, by omega⟩
  have hm' : l.length - (q + 1) = m := by omega
  rw [hm, hm', List.replicate_succ, List.append_assoc]; rfl

set_option maxRecDepth 100000 in
set_option maxHeartbeats 400000 in
theorem inc_any (g cap : Nat) (l : List UInt8) (w : World) (hl : l.length ≤ 1048576) (hrow : Row w g l) :
    Calls Try.prog 10 #[.slice (some ⟨g, 0, none⟩) l.length cap] w fun e w' => e = .returned (.bool (keep l != 0)) ∧ Row w' g (incL l) ∧ Below g w w' ∧ w'.heap.size = w.heap.size := by
  obtain ⟨n, hn⟩ : ∃ n, n = l.length := ⟨_, rfl⟩
  rw [← hn]
  have HN : Hid (n = l.length) := hn
  have hl' : n ≤ 1048576 := by omega
  have HR : Hid (Row w g l) := hrow
  clear hn hl hrow
  go_enter Try.func10, Try.ntmps10
  go_wp2
  go_loopw [3] (fun i wr => ∃ k : Nat, k ≤ n ∧ i = .int .i64 ((k : Int) - 1) ∧ Hid (∀ j, k ≤ j → j < l.length → l[j]? = some 255) ∧ Hid (Row wr g (incTo l k)) ∧ Below g w wr ∧ Hid (wr.heap.size = w.heap.size)) (fun i _ => (intOf i + 1).toNat)
  case atStart => exact ⟨n, Nat.le_refl _, rfl, (fun j h1 h2 => by have := HN.out; omega), (by rw [HN.out, incTo_full]; exact HR), Below.refl _ _, rfl⟩
  case round =>
    obtain ⟨k, hk, rfl, hall, hr, hb, hs⟩ := hrel
    rcases k with _ | q
    · have HK : Hid (0 = keep l) := keep_spec l 0 (Nat.zero_le _) hall.out (.inl rfl)
      go_wp2
      go_ret
      refine ⟨?_, ?_, hb, hs⟩
      · rw [← HK.out]; rfl
      · have := hr.out
        rw [incTo] at this
        unfold incL
        rw [← HK.out, if_pos rfl]
        simpa using this
    · have e : (((q + 1 : Nat) : Int) - 1) = q := by omega
      simp only [e]
      have hql : q < l.length := by have := HN.out; omega
      have hqi : q < (incTo l (q + 1)).length := by rw [incTo_length l _ (by omega)]; exact hql
      have c1 : wr.cell? ⟨g, q, none⟩ = some (.int .u8 (l.getD q 0).toNat) := by rw [hr.out.1 q hqi, incTo_get l q hql]
      have f1 : wr.frozen? ⟨g, q, none⟩ = false := hr.out.2 q hqi
      have hqn : (q : Int) < (n : Int) := by omega
      have HQ : Hid (q < l.length) := hql
      have hb' := (l.getD q 0).toNat_lt
      by_cases hc : l.getD q 0 = 255
      · have ht : (((l.getD q 0).toNat : Int) != 255) = false := by rw [hc]; rfl
        have HR0 : Hid (Row (wr.setCell ⟨g, q, none⟩ (.int .u8 (0 : UInt8).toNat)) g (incTo l q)) := by have := hr.out.set q hqi 0; rw [incTo_zero l q hql] at this; exact this
        have HA : Hid (∀ j, q ≤ j → j < l.length → l[j]? = some 255) := by
          intro j h1 h2
          by_cases hj : j = q
          · subst hj
            rw [List.getElem?_eq_getElem h2]
            rw [List.getD, List.getElem?_eq_getElem h2] at hc
            simp at hc; rw [hc]
          · exact hall.out j (by omega) h2
        have HB : Hid (Below g w (wr.setCell ⟨g, q, none⟩ (.int .u8 (0 : UInt8).toNat))) := hb.setCell (Nat.le_refl _) _
        have HZ : Hid ((wr.setCell ⟨g, q, none⟩ (.int .u8 (0 : UInt8).toNat)).heap.size = w.heap.size) := (show _ = _ by have := hs.out; simpa [World.setCell] using this)
        clear hql hqi hc hb
        generalize (l.getD q 0).toNat = c at *
        go_wp2
        go_roundw
        case rel => exact ⟨q, by omega, by go_num, HA, HR0, HB.out, HZ⟩
        case measure => simp [intOf]
      · have ht : (((l.getD q 0).toNat : Int) != 255) = true := by
          rw [bne_iff_ne]; intro h; apply hc
          apply UInt8.toNat_inj.1
          show (l.getD q 0).toNat = 255
          omega
        have HK : Hid (q + 1 = keep l) := keep_spec l (q + 1) (by omega) hall.out (.inr ⟨l.getD q 0, by rw [Nat.add_sub_cancel, List.getD, List.getElem?_eq_getElem hql]; rfl, hc⟩)
        have HT : Hid ((l.getD q 0 + 1).toNat = (l.getD q 0).toNat + 1) := (show (l.getD q 0 + 1).toNat = (l.getD q 0).toNat + 1 by
          have h1 : (l.getD q 0).toNat ≠ 255 := fun h => hc (UInt8.toNat_inj.1 h)
          rw [UInt8.toNat_add]; show ((l.getD q 0).toNat + 1) % 256 = _; omega)
        have HR0 : Hid (Row (wr.setCell ⟨g, q, none⟩ (.int .u8 (l.getD q 0 + 1).toNat)) g (incL l)) := by
          have := hr.out.set q hqi (l.getD q 0 + 1)
          rw [incTo_set l q hql] at this
          have e2 : incL l = l.take q ++ [l.getD q 0 + 1] ++ List.replicate (l.length - (q + 1)) 0 := by
            unfold incL
            rw [← HK.out, if_neg (by omega), Nat.add_sub_cancel]
          rw [e2]; exact this
        have HB : Hid (Below g w (wr.setCell ⟨g, q, none⟩ (.int .u8 (l.getD q 0 + 1).toNat))) := hb.setCell (Nat.le_refl _) _
        have HZ : Hid ((wr.setCell ⟨g, q, none⟩ (.int .u8 (l.getD q 0 + 1).toNat)).heap.size = w.heap.size) := (show _ = _ by have := hs.out; simpa [World.setCell] using this)
        have hc254 : (l.getD q 0).toNat ≤ 254 := by rw [bne_iff_ne] at ht; omega
        rw [HT.out] at HR0 HB HZ
        clear hql hqi hc hb
        generalize (l.getD q 0).toNat = c at *
        go_wp2
        go_ret
        refine ⟨?_, HR0.out, HB.out, HZ.out⟩
        rw [← HK.out]; rfl
end Go.Proofs.Qxb6604573a
