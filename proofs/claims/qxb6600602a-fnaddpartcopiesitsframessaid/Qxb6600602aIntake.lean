/-
  The intake: NewIntake (23), bytes.Clone (40), addPart (38), its door (24), Parts (27).
-/
import Derived.Test.Qxb6600602aCut
import Derived.Deep.QuietTactic
import Derived.BigQuiet
namespace Go.Proofs.Qxb6600602a
open Go.RowKit

set_option maxHeartbeats 400000 in
theorem newIntake_any (w : World) :
    Calls Try.prog 23 #[.int .i64 0] w fun e w' => e = .returned (.pointer (some ⟨w.heap.size, 0, none⟩)) ∧ w' = w.alloc (.cells #[.int .i64 0, .slice none 0 0, .slice none 0 0, .int .i64 0, .int .i64 0] 43) := by
  go_enter Try.func23, Try.ntmps23
  go_wp2
  go_ret
  exact ⟨rfl, rfl⟩

set_option maxHeartbeats 400000 in
theorem clone_any (w : World) (a : Option Addr) (c : Nat) (x : List Int) (h : BS w a c x) (hl : x.length ≤ 2097152) :
    Calls Try.prog 40 #[.slice a x.length c] w (CloneB w x) := by
  have q29 : ∀ (w : World) (a : Option Addr) (n c n' c' : Nat), (binOp .eql 29 (.slice a n c) (.slice none n' c')).run Try.prog w = .ok (.bool a.isNone) w := fun w a n c n' c' => Lib.run_eql_slice_nil w _ _ a n c n' c' Try.underlying29
  obtain ⟨i0, hi, hz0, hz1, hz2⟩ := info_parts info5
  cases a with
  | none =>
    have h0 := h.nil rfl
    have hl0 : x = [] := List.eq_nil_of_length_eq_zero (by have := h.le; omega)
    subst hl0
    go_enter Try.func40, Try.ntmps40
    go_wp2
    go_ret
    exact ⟨_, rfl, World.ownsRow_nil _ _ _ _, Below.refl _ _⟩
  | some ad =>
    have hs : ∀ j u, (cellsB x)[j]? = some u → w.cell? (ad.add j) = some u := by
      intro j u hu
      obtain ⟨hj, _⟩ := cellsB_get x j u hu
      obtain ⟨ad', e', hs⟩ := h.src (by omega)
      cases e'
      exact hs j u hu
    have HS := hide hs
    clear hs
    have HM := hide (World.ownsRow_made (base := w.heap.size) (e := 5) (size := 1) w #[] 0 (Nat.le_refl _) (Nat.zero_le _) rfl)
    go_enter Try.func40, Try.ntmps40
    go_wp2_with (at_builtin; refine wpList_append_own _ rfl (.tmp 5) (.tmp 6) 29 rfl w.heap.size 5 i0 (.int .u8 0) 1 1 Try.underlying29 hi hz0 hz1 hz2 rfl (by decide) (.slice (some ⟨w.heap.size, 0, none⟩) 0 0) 0 [] rfl (by exact HM.out) ad x.length c (cellsB x) rfl (by rw [length_cellsB]; omega) (by exact fun j u e => Below.keeps ((Below.refl _ _).alloc (Nat.le_refl _) _) _ _ (HS.out j u e)) (cellsB_one x) (by unfold maxLen; omega) (by omega) (by simp) ?_; intro v' w1 hown' hgrow _)
    go_ret
    refine ⟨_, rfl, ?_, ((Below.refl _ _).alloc (Nat.le_refl _) _).grown hgrow (by simp) (fun k e => by cases e; exact Nat.le_refl _)⟩
    have e1 : 0 + x.length = x.length := Nat.zero_add _
    rw [e1] at hown'
    exact hown'

/-! ### The intake's memory -/
/-- Every row of elements of type t that was there is there, unchanged. -/
def Keeps (t : TypeId) (w w' : World) : Prop := ∀ (g : Nat) (cur : Array Value), w.heap[g]? = some (.cells cur t (0, 0)) → w'.heap[g]? = some (.cells cur t (0, 0))

theorem Keeps.own {t : TypeId} {w w' : World} {B sz : Nat} {v : Value} {n : Nat} {xs : List Value} (hk : Keeps t w w') (h : w.ownsRow B t sz v n xs) : w'.ownsRow B t sz v n xs := by
  refine ⟨h.1, ?_⟩
  rcases h.2 with h0 | ⟨g, cap, cur, hv, hg, hh, r⟩
  · exact .inl h0
  · exact .inr ⟨g, cap, cur, hv, hg, hk g cur hh, r⟩
theorem Keeps.ownB {w w' : World} {B : Nat} {v : Value} {l : List Int} (hk : Keeps 5 w w') (h : OwnB w B v l) : OwnB w' B v l := Keeps.own hk h
theorem Keeps.trans {t : TypeId} {a b c : World} (h : Keeps t a b) (k : Keeps t b c) : Keeps t a c := fun g cur e => k g cur (h g cur e)
theorem Keeps.below {t : TypeId} {w w' : World} (hb : Below w.heap.size w w') : Keeps t w w' := fun g _ h => by
  rw [hb.block g (Array.getElem?_eq_some_iff.1 h).1]; exact h
theorem Keeps.setCell {t : TypeId} {w : World} {p : Addr} {cur : Array Value} {t' : TypeId} {fr : Nat × Nat} (h : w.heap[p.block]? = some (.cells cur t' fr)) (ht : t' ≠ t) (u : Value) : Keeps t w (w.setCell p u) := fun g cu e => by
  rw [Below.heap_setCell _ _ _ _ (fun e' => by subst e'; rw [h] at e; simp at e; exact ht e.2.1)]
  exact e
/-- An append or a make writes to one row alone: rows of another type stay. -/
theorem Keeps.grown {t : TypeId} {w w' : World} {row : Option Nat} (hg : w.grownBy w' row) (hr : ∀ k, row = some k → ∃ cur t', w.heap[k]? = some (.cells cur t' (0, 0)) ∧ t' ≠ t) : Keeps t w w' := fun g cur h => by
  rw [hg.block g (Array.getElem?_eq_some_iff.1 h).1 (fun e => by
    obtain ⟨cur', t', h1, h2⟩ := hr g e.symm
    rw [h] at h1
    simp at h1
    exact h2 h1.2.symm)]
  exact h

theorem ownsRow_block {w : World} {B sz : Nat} {t : TypeId} {v : Value} {n : Nat} {xs : List Value} (h : w.ownsRow B t sz v n xs) : ∀ k, v.ownBlock = some k → ∃ cur, w.heap[k]? = some (.cells cur t (0, 0)) := by
  intro k hk
  rcases h.2 with ⟨rfl, _⟩ | ⟨g, cap, cur, rfl, hg, hh, r⟩
  · simp [Value.ownBlock] at hk
  · simp [Value.ownBlock] at hk
    subst hk
    exact ⟨cur, hh⟩

/-- An intake with no announced size, at block q, holding the parts ps; all its memory from block B on. -/
structure Intake (w : World) (B q : Nat) (ps : List (List Int)) (pv : Value) (xs : List Value) (held : Int) : Prop where
  hq : B ≤ q
  blk : w.heap[q]? = some (.cells #[.int .i64 0, .slice none 0 0, pv, .int .i64 (tot ps : Nat), .int .i64 held] 43 (0, 0))
  own : w.ownsRow B 29 1 pv ps.length xs
  each : ∀ i, i < ps.length → OwnB w B (xs.getD i undef) (ps.getD i [])
  apart : ∀ i j k, i < j → j < ps.length → (xs.getD i undef).ownBlock = some k → (xs.getD j undef).ownBlock ≠ some k
  byte : ∀ i j, 0 ≤ (ps.getD i []).getD j 0 ∧ (ps.getD i []).getD j 0 ≤ 255

theorem Intake.cell {w : World} {B q : Nat} {ps : List (List Int)} {pv : Value} {xs : List Value} {held : Int} (h : Intake w B q ps pv xs held) :
    w.cell? ⟨q, 2, none⟩ = some pv ∧ w.cell? ⟨q, 3, none⟩ = some (.int .i64 (tot ps : Nat)) ∧ w.cell? ⟨q, 4, none⟩ = some (.int .i64 held) ∧ ∀ o, w.frozen? ⟨q, o, none⟩ = false := by
  simp [World.cell?, World.frozen?, h.blk]

theorem Intake.keep {w w' : World} {B q : Nat} {ps : List (List Int)} {pv : Value} {xs : List Value} {held : Int} (h : Intake w B q ps pv xs held) (k43 : Keeps 43 w w') (k29 : Keeps 29 w w') (k5 : Keeps 5 w w') : Intake w' B q ps pv xs held :=
  ⟨h.hq, k43 _ _ h.blk, k29.own h.own, fun i hi => k5.ownB (h.each i hi), h.apart, h.byte⟩
theorem Intake.below {w w' : World} {B q : Nat} {ps : List (List Int)} {pv : Value} {xs : List Value} {held : Int} (h : Intake w B q ps pv xs held) (hb : Below w.heap.size w w') : Intake w' B q ps pv xs held :=
  h.keep (Keeps.below hb) (Keeps.below hb) (Keeps.below hb)

theorem Intake.start (w : World) : Intake (w.alloc (.cells #[.int .i64 0, .slice none 0 0, .slice none 0 0, .int .i64 0, .int .i64 0] 43)) w.heap.size w.heap.size [] (.slice none 0 0) [] 0 :=
  ⟨Nat.le_refl _, heap_alloc_new w _, World.ownsRow_nil _ _ _ _, fun i hi => by simp at hi, fun i j k h1 h2 => by simp at h2, fun i j => by simp⟩

/-- What one frame does to the parts. -/
def Step (ps : List (List Int)) (x : List Int) (ps' : List (List Int)) : Prop :=
  (∃ pre l, ps = pre ++ [l] ∧ ps' = pre ++ [l ++ x]) ∨ ((ps = [] ∨ 0 < x.length) ∧ ps' = ps ++ [x])

def AddOut (w : World) (B q : Nat) (ps : List (List Int)) (x : List Int) (e : Ending) (w' : World) : Prop :=
  e = .returned (.tuple #[]) ∧ Below B w w' ∧ ∃ ps' pv' xs' held', Intake w' B q ps' pv' xs' held' ∧ Step ps x ps'

theorem heap_setCell_self {w : World} {q o : Nat} {cs : Array Value} {t : TypeId} {fr : Nat × Nat} (h : w.heap[q]? = some (.cells cs t fr)) (u : Value) : (w.setCell ⟨q, o, none⟩ u).heap[q]? = some (.cells (cs.setIfInBounds o u) t fr) := by
  simp [World.setCell, Array.getElem?_modify, h]

theorem ownBlock_fresh {w1 w2 : World} {B H sz : Nat} {t : TypeId} {v : Value} {n : Nat} {xs : List Value} {u : Value} {l : List Int} (h : w2.ownsRow H t sz v n xs) (hu : OwnB w1 B u l) (hz : w1.heap.size ≤ H) : ∀ k, u.ownBlock = some k → v.ownBlock ≠ some k := by
  intro k hk hv
  have h1 := (h.lt k hv).1
  have h2 := (World.ownsRow.lt hu k hk).2
  omega

/-- A new part is put behind the others. -/
theorem Intake.push {w w1 w2 : World} {B q : Nat} {ps : List (List Int)} {pv v' part : Value} {xs : List Value} {held held' : Int} {x : List Int} {o : Obj}
    (h : Intake w B q ps pv xs held) (hB : B ≤ w.heap.size) (hb1 : Below w.heap.size w w1) (hpart : OwnB w1 w.heap.size part x) (hby : ∀ j, 0 ≤ x.getD j 0 ∧ x.getD j 0 ≤ 255)
    (hown : w2.ownsRow B 29 1 v' (ps.length + 1) (xs ++ [part])) (hg : (w1.alloc o).grownBy w2 pv.ownBlock) :
    Intake (((w2.setCell ⟨q, 2, none⟩ v').setCell ⟨q, 3, none⟩ (.int .i64 ((tot ps : Nat) + (x.length : Nat) : Int))).setCell ⟨q, 4, none⟩ (.int .i64 held')) B q (ps ++ [x]) v' (xs ++ [part]) held' ∧
    Below B w (((w2.setCell ⟨q, 2, none⟩ v').setCell ⟨q, 3, none⟩ (.int .i64 ((tot ps : Nat) + (x.length : Nat) : Int))).setCell ⟨q, 4, none⟩ (.int .i64 held')) := by
  have h1 := h.below hb1
  have h1' := h1.below ((Below.refl _ _).alloc (Nat.le_refl _) o)
  have hrow : ∀ k, pv.ownBlock = some k → ∃ cur, (w1.alloc o).heap[k]? = some (.cells cur 29 (0, 0)) := ownsRow_block h1'.own
  have k43 : Keeps 43 (w1.alloc o) w2 := Keeps.grown hg fun k e => by obtain ⟨c, hc⟩ := hrow k e; exact ⟨c, 29, hc, by decide⟩
  have k5 : Keeps 5 (w1.alloc o) w2 := Keeps.grown hg fun k e => by obtain ⟨c, hc⟩ := hrow k e; exact ⟨c, 29, hc, by decide⟩
  have hblk := k43 _ _ h1'.blk
  have s1 := heap_setCell_self (o := 2) hblk v'
  have s2 := heap_setCell_self (o := 3) s1 (.int .i64 ((tot ps : Nat) + (x.length : Nat) : Int))
  have s3 := heap_setCell_self (o := 4) s2 (.int .i64 held')
  have ke : ∀ t, t ≠ 43 → Keeps t w2 (((w2.setCell ⟨q, 2, none⟩ v').setCell ⟨q, 3, none⟩ (.int .i64 ((tot ps : Nat) + (x.length : Nat) : Int))).setCell ⟨q, 4, none⟩ (.int .i64 held')) := fun t ht =>
    ((Keeps.setCell (p := ⟨q, 2, none⟩) hblk ht.symm v').trans (Keeps.setCell (p := ⟨q, 3, none⟩) s1 ht.symm _)).trans (Keeps.setCell (p := ⟨q, 4, none⟩) s2 ht.symm _)
  have hxl : xs.length = ps.length := by have := h.own.1; omega
  have hp2 : OwnB w2 w.heap.size part x := (k5.ownB ((Keeps.below ((Below.refl _ _).alloc (Nat.le_refl _) o)).ownB hpart))
  have g1 : ∀ i, i < ps.length → (xs ++ [part]).getD i undef = xs.getD i undef := fun i hi => by simp [List.getD, List.getElem?_append_left (show i < xs.length by omega)]
  have g2 : (xs ++ [part]).getD ps.length undef = part := by rw [← hxl]; simp [List.getD]
  have g3 : ∀ i, i < ps.length → (ps ++ [x]).getD i [] = ps.getD i [] := fun i hi => by simp [List.getD, List.getElem?_append_left hi]
  have g4 : (ps ++ [x]).getD ps.length [] = x := by simp [List.getD]
  refine ⟨⟨h.hq, ?_, ?_, ?_, ?_, ?_⟩, ?_⟩
  · rw [s3]
    simp [tot_append, tot]
  · rw [List.length_append]
    exact (ke 29 (by decide)).own hown
  · intro i hi
    by_cases e : i < ps.length
    · rw [g1 i e, g3 i e]
      exact (ke 5 (by decide)).ownB (k5.ownB (h1'.each i e))
    · obtain rfl : i = ps.length := by simp at hi; omega
      rw [g2, g4]
      exact (ke 5 (by decide)).ownB (hp2.mono hB)
  · intro i j k hij hj h3
    by_cases e : j < ps.length
    · rw [g1 i (by omega)] at h3
      rw [g1 j e]
      exact h.apart i j k hij e h3
    · obtain rfl : j = ps.length := by simp at hj; omega
      rw [g1 i (by omega)] at h3
      rw [g2]
      exact ownBlock_fresh hpart (h.each i (by omega)) (Nat.le_refl _) k h3
  · intro i j
    by_cases e : i < ps.length
    · rw [g3 i e]; exact h.byte i j
    · by_cases e2 : i = ps.length
      · rw [e2, g4]; exact hby j
      · simp [List.getD, List.getElem?_eq_none (show (ps ++ [x]).length ≤ i by simp; omega)]
  · have hs1 := hb1.size
    have hb2 : Below B w w2 := ((hb1.mono hB).alloc (by omega) o).grown hg (by simp; omega) (fun k e => (h.own.lt k e).1)
    exact (((hb2.setCell (p := ⟨q, 2, none⟩) h.hq _).setCell (p := ⟨q, 3, none⟩) h.hq _).setCell (p := ⟨q, 4, none⟩) h.hq _)

end Go.Proofs.Qxb6600602a
