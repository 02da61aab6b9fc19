/-
  What a []byte and a [][]byte read as in a world: 'BS', 'BSS'. No Go text here. Own work for this seat.
-/
import Derived.WalkKit
import Derived.Deep.Draws
namespace Go.Proofs.Qxb6600602a
open Go.RowKit

/-- The slice value '.slice a l.length c' reads in w as the bytes l. -/
structure BS (w : World) (a : Option Addr) (c : Nat) (l : List Int) : Prop where
  le : l.length ≤ c
  max : c ≤ maxLen
  nil : a = none → c = 0
  byte : ∀ i, 0 ≤ l.getD i 0 ∧ l.getD i 0 ≤ 255
  cells : ∀ i, i < l.length → ∃ b o, a = some ⟨b, o, none⟩ ∧ w.cell? ⟨b, o + i, none⟩ = some (.int .u8 (l.getD i 0))

/-- The slice value '.slice a ll.length c' of slices reads in w as the list ll of byte lists. -/
structure BSS (w : World) (a : Option Addr) (c : Nat) (ll : List (List Int)) : Prop where
  le : ll.length ≤ c
  max : c ≤ maxLen
  nil : a = none → c = 0
  cells : ∀ i, i < ll.length → ∃ b o a' c', a = some ⟨b, o, none⟩ ∧ w.cell? ⟨b, o + i, none⟩ = some (.slice a' (ll.getD i []).length c') ∧ BS w a' c' (ll.getD i [])

/-- The number of octets. -/
def tot : List (List Int) → Nat
  | [] => 0
  | l :: r => l.length + tot r

theorem tot_append (x y : List (List Int)) : tot (x ++ y) = tot x + tot y := by
  induction x with
  | nil => simp [tot]
  | cons l r ih => simp [tot, ih]; omega

theorem tot_flatten (x : List (List Int)) : x.flatten.length = tot x := by
  induction x with
  | nil => rfl
  | cons l r ih => rw [List.flatten_cons, List.length_append, ih]; rfl

theorem tot_snoc (x : List (List Int)) (k : Nat) (h : k < x.length) : tot (x.take (k + 1)) = tot (x.take k) + (x.getD k []).length := by
  rw [List.take_succ_eq_append_getElem h, tot_append]
  simp [tot, List.getD, List.getElem?_eq_getElem h]

theorem tot_take_le (x : List (List Int)) (k : Nat) : tot (x.take k) ≤ tot x := by
  have := tot_append (x.take k) (x.drop k)
  rw [List.take_append_drop] at this
  omega

theorem tot_drop (x : List (List Int)) (k : Nat) : tot (x.take k) + tot (x.drop k) = tot x := by
  have := tot_append (x.take k) (x.drop k)
  rw [List.take_append_drop] at this
  omega

theorem len_le_tot (x : List (List Int)) (k : Nat) : (x.getD k []).length ≤ tot x := by
  by_cases h : k < x.length
  · have := tot_snoc x k h
    have := tot_take_le x (k + 1)
    omega
  · simp [List.getD, List.getElem?_eq_none (Nat.le_of_not_lt h)]

/-! ### BS -/
theorem BS.at {w : World} {a : Option Addr} {c : Nat} {l : List Int} (h : BS w a c l) (hl : 0 < l.length) :
    ∃ b o, a = some ⟨b, o, none⟩ ∧ ∀ i, i < l.length → w.cell? ⟨b, o + i, none⟩ = some (.int .u8 (l.getD i 0)) := by
  obtain ⟨b, o, rfl, _⟩ := h.cells 0 hl
  refine ⟨b, o, rfl, fun i hi => ?_⟩
  obtain ⟨b', o', e, hc⟩ := h.cells i hi
  simp only [Option.some.injEq, Addr.mk.injEq, and_true] at e
  obtain ⟨rfl, rfl⟩ := e
  exact hc

theorem BS.empty {w : World} {a : Option Addr} {c : Nat} (h1 : c ≤ maxLen) (h2 : a = none → c = 0) : BS w a c [] :=
  ⟨Nat.zero_le _, h1, h2, fun i => by simp, fun i hi => by simp at hi⟩

/-- What is read in an elder world is read in a later one where the elder's blocks are as they were. -/
theorem BS.later {w w' : World} {a : Option Addr} {c : Nat} {l : List Int} (h : BS w a c l) (hb : ∀ p v, w.cell? p = some v → w'.cell? p = some v) : BS w' a c l :=
  ⟨h.le, h.max, h.nil, h.byte, fun i hi => by
    obtain ⟨b, o, e, hc⟩ := h.cells i hi
    exact ⟨b, o, e, hb _ _ hc⟩⟩

theorem Below.keeps {w w' : World} (hb : Below w.heap.size w w') : ∀ p v, w.cell? p = some v → w'.cell? p = some v :=
  fun _ _ h => (hb.cell (World.block_lt_of_cell? _ _ h)).trans h

theorem BS.below {w w' : World} {a : Option Addr} {c : Nat} {l : List Int} (h : BS w a c l) (hb : Below w.heap.size w w') : BS w' a c l := h.later (Below.keeps hb)
theorem BS.drewN {w : World} {a : Option Addr} {c : Nat} {l : List Int} (h : BS w a c l) (n : Nat) : BS (w.drewN n) a c l := h.later fun _ _ h => h

theorem getD_take (l : List Int) (n i : Nat) (h : i < n) : (l.take n).getD i 0 = l.getD i 0 := by
  simp [List.getD, h]
theorem getD_drop (l : List Int) (n i : Nat) : (l.drop n).getD i 0 = l.getD (n + i) 0 := by
  simp [List.getD]

theorem BS.take {w : World} {a : Option Addr} {c : Nat} {l : List Int} (h : BS w a c l) (n : Nat) (hn : n ≤ l.length) : BS w a c (l.take n) := by
  refine ⟨by have := h.le; simp; omega, h.max, h.nil, fun i => ?_, fun i hi => ?_⟩
  · by_cases hi : i < n
    · rw [getD_take _ _ _ hi]; exact h.byte i
    · simp [List.getD, List.getElem?_take, hi]
  · have hi' : i < n := by simp at hi; omega
    rw [getD_take _ _ _ hi']
    exact h.cells i (by omega)

theorem BS.drop {w : World} {a a' : Option Addr} {c : Nat} {l : List Int} (h : BS w a c l) (n : Nat) (hn : n ≤ l.length) (e1 : ¬ c = n → a' = a.map (·.add n)) (e2 : c = n → a' = a) : BS w a' (c - n) (l.drop n) := by
  have hle := h.le
  refine ⟨by simp; omega, by have := h.max; omega, fun h0 => ?_, fun i => ?_, fun i hi => ?_⟩
  · by_cases hc : c = n
    · omega
    · rw [e1 hc] at h0
      have := h.nil (by simpa using h0)
      omega
  · rw [getD_drop]; exact h.byte _
  · simp at hi
    obtain ⟨b, o, rfl, hc⟩ := h.cells (n + i) (by omega)
    refine ⟨b, o + n, ?_, ?_⟩
    · rw [e1 (by omega)]
      simp [Addr.add_lit]
    · rw [getD_drop, Nat.add_assoc]; exact hc

/-! ### BSS -/
theorem BSS.at {w : World} {a : Option Addr} {c : Nat} {ll : List (List Int)} (h : BSS w a c ll) (hl : 0 < ll.length) :
    ∃ b o, a = some ⟨b, o, none⟩ ∧ ∀ i, i < ll.length → ∃ a' c', w.cell? ⟨b, o + i, none⟩ = some (.slice a' (ll.getD i []).length c') ∧ BS w a' c' (ll.getD i []) := by
  obtain ⟨b, o, _, _, rfl, _⟩ := h.cells 0 hl
  refine ⟨b, o, rfl, fun i hi => ?_⟩
  obtain ⟨b', o', a', c', e, hc⟩ := h.cells i hi
  simp only [Option.some.injEq, Addr.mk.injEq, and_true] at e
  obtain ⟨rfl, rfl⟩ := e
  exact ⟨a', c', hc⟩

theorem BSS.empty {w : World} {a : Option Addr} {c : Nat} (h1 : c ≤ maxLen) (h2 : a = none → c = 0) : BSS w a c [] :=
  ⟨Nat.zero_le _, h1, h2, fun i hi => by simp at hi⟩

theorem BSS.later {w w' : World} {a : Option Addr} {c : Nat} {ll : List (List Int)} (h : BSS w a c ll) (hb : ∀ p v, w.cell? p = some v → w'.cell? p = some v) : BSS w' a c ll :=
  ⟨h.le, h.max, h.nil, fun i hi => by
    obtain ⟨b, o, a', c', e, hc, h'⟩ := h.cells i hi
    exact ⟨b, o, a', c', e, hb _ _ hc, h'.later hb⟩⟩

theorem BSS.below {w w' : World} {a : Option Addr} {c : Nat} {ll : List (List Int)} (h : BSS w a c ll) (hb : Below w.heap.size w w') : BSS w' a c ll := h.later (Below.keeps hb)
theorem BSS.drewN {w : World} {a : Option Addr} {c : Nat} {ll : List (List Int)} (h : BSS w a c ll) (n : Nat) : BSS (w.drewN n) a c ll := h.later fun _ _ h => h

theorem getDD_take (l : List (List Int)) (n i : Nat) (h : i < n) : (l.take n).getD i [] = l.getD i [] := by
  simp [List.getD, h]
theorem getDD_drop (l : List (List Int)) (n i : Nat) : (l.drop n).getD i [] = l.getD (n + i) [] := by
  simp [List.getD]

theorem BSS.take {w : World} {a : Option Addr} {c : Nat} {ll : List (List Int)} (h : BSS w a c ll) (n : Nat) (hn : n ≤ ll.length) : BSS w a c (ll.take n) := by
  refine ⟨by have := h.le; simp; omega, h.max, h.nil, fun i hi => ?_⟩
  have hi' : i < n := by simp at hi; omega
  rw [getDD_take _ _ _ hi']
  exact h.cells i (by omega)

theorem BSS.drop {w : World} {a a' : Option Addr} {c : Nat} {ll : List (List Int)} (h : BSS w a c ll) (n : Nat) (hn : n ≤ ll.length) (e1 : ¬ c = n → a' = a.map (·.add n)) (e2 : c = n → a' = a) : BSS w a' (c - n) (ll.drop n) := by
  have hle := h.le
  refine ⟨by simp; omega, by have := h.max; omega, fun h0 => ?_, fun i hi => ?_⟩
  · by_cases hc : c = n
    · omega
    · rw [e1 hc] at h0
      have := h.nil (by simpa using h0)
      omega
  · simp at hi
    obtain ⟨b, o, a1, c1, rfl, hc, h1⟩ := h.cells (n + i) (by omega)
    refine ⟨b, o + n, a1, c1, ?_, ?_, ?_⟩
    · rw [e1 (by omega)]
      simp [Addr.add_lit]
    · rw [getDD_drop, Nat.add_assoc]; exact hc
    · rw [getDD_drop]; exact h1

theorem hide {p : Prop} (h : p) : Hid p := h

theorem nil_of_len {α : Type} {l : List α} (h : ¬ 0 < l.length) : l = [] := List.eq_nil_of_length_eq_zero (by omega)

end Go.Proofs.Qxb6600602a
