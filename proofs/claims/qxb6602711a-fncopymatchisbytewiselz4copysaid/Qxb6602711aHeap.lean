/-
  What a []byte reads as in a world: 'BS'; a row that is known whole: 'Row'. No Go text here. Own work for this seat.
-/
import Derived.WalkKit
import Derived.Deep.Draws
namespace Go.Proofs.Qxb6602711a
open Go.RowKit

/-- The slice value '.slice a l.length c' reads in w as the bytes l. -/
structure BS (w : World) (a : Option Addr) (c : Nat) (l : List Int) : Prop where
  le : l.length ≤ c
  max : c ≤ maxLen
  nil : a = none → c = 0
  byte : ∀ i, 0 ≤ l.getD i 0 ∧ l.getD i 0 ≤ 255
  cells : ∀ i, i < l.length → ∃ b o, a = some ⟨b, o, none⟩ ∧ w.cell? ⟨b, o + i, none⟩ = some (.int .u8 (l.getD i 0))

/-! ### BS -/
theorem BS.at {w : World} {a : Option Addr} {c : Nat} {l : List Int} (h : BS w a c l) (hl : 0 < l.length) :
    ∃ b o, a = some ⟨b, o, none⟩ ∧ ∀ i, i < l.length → w.cell? ⟨b, o + i, none⟩ = some (.int .u8 (l.getD i 0)) := by
  obtain ⟨b, o, rfl, _⟩ := h.cells 0 hl
  refine ⟨b, o, rfl, fun i hi => ?_⟩
  obtain ⟨b', o', e, hc⟩ := h.cells i hi
  simp only [Option.some.injEq, Addr.mk.injEq, and_true] at e
  obtain ⟨rfl, rfl⟩ := e
  exact hc

theorem BS.empty {w : World} {a : Option Addr} {c : Nat} (h1 : c ≤ maxLen) (h2 : a = none → c = 0) : BS w a c [] :=
  ⟨Nat.zero_le _, h1, h2, fun i => by simp, fun i hi => by simp at hi⟩

/-- What is read in an elder world is read in a later one where the elder's blocks are as they were. -/
theorem BS.later {w w' : World} {a : Option Addr} {c : Nat} {l : List Int} (h : BS w a c l) (hb : ∀ p v, w.cell? p = some v → w'.cell? p = some v) : BS w' a c l :=
  ⟨h.le, h.max, h.nil, h.byte, fun i hi => by
    obtain ⟨b, o, e, hc⟩ := h.cells i hi
    exact ⟨b, o, e, hb _ _ hc⟩⟩

theorem Below.keeps {w w' : World} (hb : Below w.heap.size w w') : ∀ p v, w.cell? p = some v → w'.cell? p = some v :=
  fun _ _ h => (hb.cell (World.block_lt_of_cell? _ _ h)).trans h

theorem BS.below {w w' : World} {a : Option Addr} {c : Nat} {l : List Int} (h : BS w a c l) (hb : Below w.heap.size w w') : BS w' a c l := h.later (Below.keeps hb)
theorem BS.drewN {w : World} {a : Option Addr} {c : Nat} {l : List Int} (h : BS w a c l) (n : Nat) : BS (w.drewN n) a c l := h.later fun _ _ h => h

theorem getD_take (l : List Int) (n i : Nat) (h : i < n) : (l.take n).getD i 0 = l.getD i 0 := by
  simp [List.getD, h]
theorem getD_drop (l : List Int) (n i : Nat) : (l.drop n).getD i 0 = l.getD (n + i) 0 := by
  simp [List.getD]

theorem BS.take {w : World} {a : Option Addr} {c : Nat} {l : List Int} (h : BS w a c l) (n : Nat) (hn : n ≤ l.length) : BS w a c (l.take n) := by
  refine ⟨by have := h.le; simp; omega, h.max, h.nil, fun i => ?_, fun i hi => ?_⟩
  · by_cases hi : i < n
    · rw [getD_take _ _ _ hi]; exact h.byte i
    · simp [List.getD, List.getElem?_take, hi]
  · have hi' : i < n := by simp at hi; omega
    rw [getD_take _ _ _ hi']
    exact h.cells i (by omega)

theorem BS.drop {w : World} {a a' : Option Addr} {c : Nat} {l : List Int} (h : BS w a c l) (n : Nat) (hn : n ≤ l.length) (e1 : ¬ c = n → a' = a.map (·.add n)) (e2 : c = n → a' = a) : BS w a' (c - n) (l.drop n) := by
  have hle := h.le
  refine ⟨by simp; omega, by have := h.max; omega, fun h0 => ?_, fun i => ?_, fun i hi => ?_⟩
  · by_cases hc : c = n
    · omega
    · rw [e1 hc] at h0
      have := h.nil (by simpa using h0)
      omega
  · rw [getD_drop]; exact h.byte _
  · simp at hi
    obtain ⟨b, o, rfl, hc⟩ := h.cells (n + i) (by omega)
    refine ⟨b, o + n, ?_, ?_⟩
    · rw [e1 (by omega)]
      simp [Addr.add_lit]
    · rw [getD_drop, Nat.add_assoc]; exact hc

theorem hide {p : Prop} (h : p) : Hid p := h

theorem nil_of_len {α : Type} {l : List α} (h : ¬ 0 < l.length) : l = [] := List.eq_nil_of_length_eq_zero (by omega)

/-- The cells of a list of bytes. -/
def cellsB (l : List Int) : List Value := l.map (Value.int .u8)
theorem length_cellsB (l : List Int) : (cellsB l).length = l.length := by simp [cellsB]
theorem cellsB_get (l : List Int) (j : Nat) (v : Value) (h : (cellsB l)[j]? = some v) : j < l.length ∧ v = .int .u8 (l.getD j 0) := by
  simp only [cellsB, List.getElem?_map, Option.map_eq_some_iff] at h
  obtain ⟨x, hx, rfl⟩ := h
  obtain ⟨hj, hxx⟩ := List.getElem?_eq_some_iff.1 hx
  exact ⟨hj, by simp [List.getD, hx]⟩
theorem cellsB_at (l : List Int) (j : Nat) (h : j < l.length) : (cellsB l)[j]? = some (.int .u8 (l.getD j 0)) := by
  simp [cellsB, List.getD, h]
theorem cellsB_one (l : List Int) : ∀ v ∈ cellsB l, v.oneCell' = true := ints_oneCell .u8 l


theorem BS.src {w : World} {a : Option Addr} {c : Nat} {l : List Int} (h : BS w a c l) (h0 : 0 < l.length) : ∃ ad, a = some ad ∧ ∀ j v, (cellsB l)[j]? = some v → w.cell? (ad.add j) = some v := by
  obtain ⟨b, o, rfl, hc⟩ := h.at h0
  refine ⟨_, rfl, fun j v hv => ?_⟩
  obtain ⟨hj, rfl⟩ := cellsB_get l j v hv
  rw [Addr.add_lit]
  exact hc j hj

def rowA (l : List Int) : Array Value := (cellsB l).toArray
theorem rowA_size (l : List Int) : (rowA l).size = l.length := by simp [rowA, cellsB]
theorem rowA_set (l : List Int) (i : Nat) (v : Int) : (rowA l).setIfInBounds i (.int .u8 v) = rowA (l.set i v) := by simp [rowA, cellsB, List.map_set]
theorem rowA_at (l : List Int) (i : Nat) (h : i < l.length) : (rowA l)[i]? = some (.int .u8 (l.getD i 0)) := by
  have := cellsB_at l i h
  simpa [rowA] using this
theorem rowA_made (n : Nat) : madeCells #[.int .u8 0] n = rowA (List.replicate n 0) := by
  apply Array.ext
  · simp [rowA, cellsB, size_madeCells]
  · intro i h1 h2
    have e : i % 1 = 0 := Nat.mod_one i
    simp [rowA, cellsB, madeCells, e]

/-- Block g is a row of bytes, known whole. -/
def Row (w : World) (g : Nat) (l : List Int) : Prop := w.heap[g]? = some (.cells (rowA l) 5 (0, 0))
def Byt (l : List Int) : Prop := ∀ i, 0 ≤ l.getD i 0 ∧ l.getD i 0 ≤ 255

theorem Row.cell {w : World} {g : Nat} {l : List Int} (h : Row w g l) (i : Nat) (hi : i < l.length) : w.cell? ⟨g, i, none⟩ = some (.int .u8 (l.getD i 0)) := by
  simp [World.cell?, show w.heap[g]? = _ from h, rowA_at l i hi]
theorem Row.frozen {w : World} {g : Nat} {l : List Int} (h : Row w g l) (i : Nat) : w.frozen? ⟨g, i, none⟩ = false := by
  simp [World.frozen?, show w.heap[g]? = _ from h]
theorem Row.lt {w : World} {g : Nat} {l : List Int} (h : Row w g l) : g < w.heap.size := (Array.getElem?_eq_some_iff.1 h).1
theorem Row.bs {w : World} {g : Nat} {l : List Int} (h : Row w g l) (hb : Byt l) (n c : Nat) (hn : n ≤ l.length) (hc : n ≤ c) (hcm : c ≤ maxLen) : BS w (some ⟨g, 0, none⟩) c (l.take n) := by
  refine ⟨by simp; omega, hcm, (fun e => by cases e), fun i => ?_, fun i hi => ⟨g, 0, rfl, ?_⟩⟩
  · by_cases hi : i < n
    · rw [getD_take _ _ _ hi]; exact hb i
    · simp [List.getD, List.getElem?_take, hi]
  · have hi' : i < n := by simp at hi; omega
    rw [getD_take _ _ _ hi', Nat.zero_add]
    exact h.cell i (by omega)
theorem Row.set {w : World} {g : Nat} {l : List Int} (h : Row w g l) (i : Nat) (v : Int) : Row (w.setCell ⟨g, i, none⟩ (.int .u8 v)) g (l.set i v) := by
  unfold Row
  rw [← rowA_set]
  simp [World.setCell, Array.getElem?_modify, show w.heap[g]? = _ from h]

/-- Only blocks g have turned (as g says), and new ones have come. -/
structure Only (g : Nat → Prop) (w w' : World) : Prop where
  os : w'.os = w.os
  tape : w'.tape = w.tape
  output : w'.output = w.output
  size : w.heap.size ≤ w'.heap.size
  block : ∀ k, k < w.heap.size → ¬ g k → w'.heap[k]? = w.heap[k]?
theorem Only.refl (g : Nat → Prop) (w : World) : Only g w w := ⟨rfl, rfl, rfl, Nat.le_refl _, fun _ _ _ => rfl⟩
theorem Only.drewN {g : Nat → Prop} {w w' : World} (h : Only g w w') (n : Nat) : Only g w (w'.drewN n) := ⟨h.os, h.tape, h.output, h.size, h.block⟩
theorem Only.setCell {g : Nat → Prop} {w w' : World} (h : Only g w w') {p : Addr} (hp : g p.block) (u : Value) : Only g w (w'.setCell p u) :=
  ⟨h.os, h.tape, h.output, by have := h.size; simpa [World.setCell] using this, fun k hk hg => by rw [Below.heap_setCell _ _ _ _ (fun e => hg (by rw [e]; exact hp))]; exact h.block k hk hg⟩
theorem Only.row {g : Nat → Prop} {w w' : World} (h : Only g w w') {b : Nat} {l : List Int} (hr : Row w b l) (hb : ¬ g b) : Row w' b l := by
  unfold Row; rw [h.block b hr.lt hb]; exact hr
theorem Only.bs {g : Nat → Prop} {w w' : World} (h : Only g w w') {a : Option Addr} {c : Nat} {l : List Int} (hs : BS w a c l) (hb : ∀ p, a = some p → ¬ g p.block) : BS w' a c l :=
  ⟨hs.le, hs.max, hs.nil, hs.byte, fun i hi => by
    obtain ⟨b, o, e, hc⟩ := hs.cells i hi
    refine ⟨b, o, e, ?_⟩
    rw [World.cell?_of_block (w := w) (h.block b (World.block_lt_of_cell? _ _ hc) (hb _ e))]
    exact hc⟩
theorem Only.trans {g : Nat → Prop} {a b c : World} (h : Only g a b) (k : Only g b c) : Only g a c :=
  ⟨k.os.trans h.os, k.tape.trans h.tape, k.output.trans h.output, Nat.le_trans h.size k.size, fun i hi hg => (k.block i (Nat.lt_of_lt_of_le hi h.size) hg).trans (h.block i hi hg)⟩
theorem Only.mono {g g' : Nat → Prop} {a b : World} (h : Only g a b) (hg : ∀ k, g k → g' k) : Only g' a b := ⟨h.os, h.tape, h.output, h.size, fun i hi hn => h.block i hi fun e => hn (hg i e)⟩
theorem Only.of_below {g : Nat → Prop} {a b : World} (h : Below a.heap.size a b) : Only g a b := ⟨h.os, h.tape, h.output, h.size, fun i hi _ => h.block i hi⟩
theorem Only.below {g : Nat → Prop} {a b : World} {B : Nat} (h : Only g a b) (hB : B ≤ a.heap.size) (hg : ∀ k, k < B → ¬ g k) : Below B a b := ⟨h.os, h.tape, h.output, h.size, fun k hk => h.block k (by omega) (hg k hk)⟩

end Go.Proofs.Qxb6602711a
