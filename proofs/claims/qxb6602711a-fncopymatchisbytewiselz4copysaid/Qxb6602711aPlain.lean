/-
  LZ4's match, byte by byte, as a list: no Go in sight.
-/
import Derived.Laws.CopyOwn
namespace Go.Proofs.Qxb6602711a

/-- The buffer L once d bytes of the match at e, offset o, are written. -/
def fin (L : List Int) (e o d p : Nat) : Int := if p < e ∨ e + d ≤ p then L.getD p 0 else L.getD (e - o + (p - e) % o) 0
def F (L : List Int) (e o d : Nat) : List Int := (List.range L.length).map (fin L e o d)

theorem F_length (L : List Int) (e o d : Nat) : (F L e o d).length = L.length := by simp [F]
theorem F_getD (L : List Int) (e o d p : Nat) (h : p < L.length) : (F L e o d).getD p 0 = fin L e o d p := by simp [F, List.getD, h]
theorem F_getD_out (L : List Int) (e o d p : Nat) (h : ¬ p < L.length) : (F L e o d).getD p 0 = 0 := by
  simp [List.getD, List.getElem?_eq_none (show (F L e o d).length ≤ p by rw [F_length]; omega)]

theorem ext_getD {l l' : List Int} (h : l.length = l'.length) (he : ∀ p, p < l.length → l.getD p 0 = l'.getD p 0) : l = l' := by
  apply List.ext_getElem h
  intro i h1 h2
  have := he i h1
  simpa [List.getD, h1, h2] using this

theorem F_zero (L : List Int) (e o : Nat) : F L e o 0 = L := by
  refine ext_getD (F_length _ _ _ _) fun p hp => ?_
  rw [F_length] at hp
  rw [F_getD _ _ _ _ _ hp, fin, if_pos (by omega)]

/-- One byte more. -/
theorem F_step (L : List Int) (e o d : Nat) (ho : 0 < o) (hoe : o ≤ e) (hd : e + d < L.length) : F L e o (d + 1) = (F L e o d).set (e + d) ((F L e o d).getD (e + d - o) 0) := by
  refine ext_getD (by simp [F_length]) fun p hp => ?_
  rw [F_length] at hp
  rw [F_getD _ _ _ _ _ hp]
  have hs : ((F L e o d).set (e + d) ((F L e o d).getD (e + d - o) 0)).getD p 0 = if e + d = p then (F L e o d).getD (e + d - o) 0 else (F L e o d).getD p 0 := by
    by_cases h : e + d = p
    · subst h; simp [List.getD, F_length, hp]
    · simp [List.getD, h]
  rw [hs]
  by_cases h : e + d = p
  · subst h
    rw [if_pos rfl, F_getD _ _ _ _ _ (by omega), fin, fin, if_neg (by omega)]
    by_cases h2 : d < o
    · rw [if_pos (by omega)]
      congr 1
      rw [show e + d - e = d by omega, Nat.mod_eq_of_lt h2]
      omega
    · rw [if_neg (by omega)]
      congr 2
      rw [show e + d - e = d by omega, show e + d - o - e = d - o by omega, Nat.mod_eq_sub_mod (by omega)]
  · rw [if_neg h, F_getD _ _ _ _ _ hp, fin, fin]
    by_cases h2 : p < e ∨ e + d ≤ p
    · rw [if_pos h2, if_pos (by omega)]
    · rw [if_neg h2, if_neg (by omega)]

theorem splice_getD (L cs : List Int) (off p : Nat) (h : off + cs.length ≤ L.length) (hp : p < L.length) : (splice L off cs).getD p 0 = if p < off ∨ off + cs.length ≤ p then L.getD p 0 else cs.getD (p - off) 0 := by
  unfold splice
  by_cases h1 : p < off
  · rw [if_pos (.inl h1)]
    simp [List.getD, List.getElem?_append_left (show p < (L.take off).length by simp; omega), h1]
  · have e1 : (L.take off).length = off := by simp; omega
    by_cases h2 : off + cs.length ≤ p
    · rw [if_pos (.inr h2)]
      simp only [List.getD]
      rw [List.getElem?_append_right (by omega), List.getElem?_append_right (by rw [e1]; omega), List.getElem?_drop, e1]
      congr 2
      omega
    · rw [if_neg (by omega)]
      simp only [List.getD]
      rw [List.getElem?_append_right (by omega), e1, List.getElem?_append_left (by omega)]

theorem splice_length (L cs : List Int) (off : Nat) (h : off + cs.length ≤ L.length) : (splice L off cs).length = L.length := length_splice L off cs h

theorem sub_getD (L : List Int) (a m p : Nat) (h : p < m) : ((L.drop a).take m).getD p 0 = L.getD (a + p) 0 := by
  simp [List.getD, h]

/-- The first copy. -/
theorem F_first (L : List Int) (e o m : Nat) (ho : 0 < o) (hoe : o ≤ e) (hm : m ≤ o) (he : e + m ≤ L.length) : splice L e ((L.drop (e - o)).take m) = F L e o m := by
  have hl : ((L.drop (e - o)).take m).length = m := by simp; omega
  refine ext_getD (by rw [splice_length _ _ _ (by omega), F_length]) fun p hp => ?_
  rw [splice_length _ _ _ (by omega)] at hp
  rw [splice_getD _ _ _ _ (by omega) hp, F_getD _ _ _ _ _ hp, hl, fin]
  by_cases h : p < e ∨ e + m ≤ p
  · rw [if_pos h, if_pos h]
  · rw [if_neg h, if_neg h, sub_getD _ _ _ _ (by omega), Nat.mod_eq_of_lt (by omega)]

/-- Each copy that follows doubles what is written. -/
theorem F_more (L : List Int) (e o d m : Nat) (hd : o ∣ d) (hm : m ≤ d) (he : e + d + m ≤ L.length) : splice (F L e o d) (e + d) (((F L e o d).drop e).take m) = F L e o (d + m) := by
  have hl : (((F L e o d).drop e).take m).length = m := by simp [F_length]; omega
  refine ext_getD (by rw [splice_length _ _ _ (by rw [F_length]; omega), F_length, F_length]) fun p hp => ?_
  rw [splice_length _ _ _ (by rw [F_length]; omega), F_length] at hp
  rw [splice_getD _ _ _ _ (by rw [F_length]; omega) (by rw [F_length]; exact hp), F_getD _ _ _ _ _ hp, hl, F_getD _ _ _ _ _ hp]
  by_cases h : p < e + d ∨ e + d + m ≤ p
  · rw [if_pos h, fin, fin]
    by_cases h2 : p < e ∨ e + d ≤ p
    · rw [if_pos h2, if_pos (by omega)]
    · rw [if_neg h2, if_neg (by omega)]
  · rw [if_neg h, sub_getD _ _ _ _ (by omega), F_getD _ _ _ _ _ (by omega), fin, fin, if_neg (by omega), if_neg (by omega)]
    congr 2
    obtain ⟨q, rfl⟩ := hd
    rw [show p - e = (e + (p - (e + o * q)) - e) + o * q by omega, Nat.add_mul_mod_self_left]

theorem F_byt (L : List Int) (e o d : Nat) (h : ∀ i, 0 ≤ L.getD i 0 ∧ L.getD i 0 ≤ 255) (i : Nat) : 0 ≤ (F L e o d).getD i 0 ∧ (F L e o d).getD i 0 ≤ 255 := by
  by_cases hi : i < L.length
  · rw [F_getD _ _ _ _ _ hi, fin]
    split
    · exact h _
    · exact h _
  · rw [F_getD_out _ _ _ _ _ hi]; omega

end Go.Proofs.Qxb6602711a
