/-
  scribbleB1 (30): it writes into the rows that it is handed, and nowhere else.
-/
import Derived.Test.Qxb6600602aAdd2
namespace Go.Proofs.Qxb6600602a
open Go.RowKit

/-- Outside the blocks H1 .. H2 - 1 nothing has turned. -/
structure Apart (H1 H2 : Nat) (w w' : World) : Prop where
  os : w'.os = w.os
  tape : w'.tape = w.tape
  output : w'.output = w.output
  size : w.heap.size ≤ w'.heap.size
  block : ∀ k, k < H1 ∨ H2 ≤ k → w'.heap[k]? = w.heap[k]?

theorem Apart.refl (H1 H2 : Nat) (w : World) : Apart H1 H2 w w := ⟨rfl, rfl, rfl, Nat.le_refl _, fun _ _ => rfl⟩
theorem Apart.drew {H1 H2 : Nat} {a w : World} (h : Apart H1 H2 a w) : Apart H1 H2 a w.drew := ⟨h.os, h.tape, h.output, h.size, h.block⟩
theorem Apart.setCell {H1 H2 : Nat} {a w : World} (h : Apart H1 H2 a w) {g j : Nat} (h1 : H1 ≤ g) (h2 : g < H2) (u : Value) : Apart H1 H2 a (w.setCell ⟨g, j, none⟩ u) :=
  ⟨h.os, h.tape, h.output, by have := h.size; simpa [World.setCell] using this, fun k hk => by rw [Below.heap_setCell _ _ _ _ (show k ≠ g by omega)]; exact h.block k hk⟩

/-- A slice of n bytes in a row between H1 and H2. -/
def ByteRow (w : World) (H1 H2 : Nat) (u : Value) (n : Nat) : Prop :=
  (u = .slice none 0 0 ∧ n = 0) ∨ ∃ g cap cur, u = .slice (some ⟨g, 0, none⟩) n cap ∧ H1 ≤ g ∧ g < H2 ∧ w.heap[g]? = some (.cells cur 5 (0, 0)) ∧ ∀ j, j < n → ∃ z, cur[j]? = some (.int .u8 z)

/-- A row of such slices. -/
def Scr (w : World) (H1 H2 pg : Nat) (Ls : List Nat) : Prop :=
  ∃ pc : Array Value, w.heap[pg]? = some (.cells pc 29 (0, 0)) ∧ ∀ i, i < Ls.length → ∃ u, pc[i]? = some u ∧ ByteRow w H1 H2 u (Ls.getD i 0)

theorem Scr.drew {w : World} {H1 H2 pg : Nat} {Ls : List Nat} (h : Scr w H1 H2 pg Ls) : Scr w.drew H1 H2 pg Ls := h

theorem Scr.setCell {w : World} {H1 H2 pg : Nat} {Ls : List Nat} (h : Scr w H1 H2 pg Ls) {g j : Nat} {cur : Array Value} (hg : w.heap[g]? = some (.cells cur 5 (0, 0))) (z : Int) : Scr (w.setCell ⟨g, j, none⟩ (.int .u8 z)) H1 H2 pg Ls := by
  obtain ⟨pc, hpc, hx⟩ := h
  refine ⟨pc, ?_, fun i hi => ?_⟩
  · rw [Below.heap_setCell _ _ _ _ (show pg ≠ g from fun e => by rw [e, hg] at hpc; simp at hpc)]
    exact hpc
  · obtain ⟨u, hu, hr⟩ := hx i hi
    refine ⟨u, hu, ?_⟩
    rcases hr with h0 | ⟨g', cap, cur', hv, h1, h2, hh, hc⟩
    · exact .inl h0
    · by_cases e : g' = g
      · subst e
        rw [hg] at hh
        simp at hh
        subst hh
        refine .inr ⟨g', cap, cur.setIfInBounds j (.int .u8 z), hv, h1, h2, heap_setCell_self hg _, fun i' hi' => ?_⟩
        obtain ⟨z', hz'⟩ := hc i' hi'
        by_cases e2 : j = i'
        · subst e2
          refine ⟨z, ?_⟩
          have := (Array.getElem?_eq_some_iff.1 hz').1
          simp [this]
        · exact ⟨z', by rw [Array.getElem?_setIfInBounds_ne e2]; exact hz'⟩
      · exact .inr ⟨g', cap, cur', hv, h1, h2, by rw [Below.heap_setCell _ _ _ _ e]; exact hh, hc⟩

theorem Scr.cell {w : World} {H1 H2 pg : Nat} {Ls : List Nat} (h : Scr w H1 H2 pg Ls) (i : Nat) (hi : i < Ls.length) : ∃ u, w.cell? ⟨pg, i, none⟩ = some u ∧ ByteRow w H1 H2 u (Ls.getD i 0) := by
  obtain ⟨pc, hpc, hx⟩ := h
  obtain ⟨u, hu, hr⟩ := hx i hi
  exact ⟨u, by simp [World.cell?, hpc, hu], hr⟩

theorem ByteRow.form {w : World} {H1 H2 : Nat} {u : Value} {n : Nat} (h : ByteRow w H1 H2 u n) : ∃ ao cap, u = .slice ao n cap := by
  rcases h with ⟨rfl, rfl⟩ | ⟨g, cap, cur, rfl, _⟩
  · exact ⟨none, 0, rfl⟩
  · exact ⟨_, _, rfl⟩

theorem ByteRow.at {w : World} {H1 H2 : Nat} {ao : Option Addr} {cap n : Nat} (h : ByteRow w H1 H2 (.slice ao n cap) n) (j : Nat) (hj : j < n) :
    ∃ g cur z, ao = some ⟨g, 0, none⟩ ∧ H1 ≤ g ∧ g < H2 ∧ w.heap[g]? = some (.cells cur 5 (0, 0)) ∧ w.cell? ⟨g, j, none⟩ = some (.int .u8 z) ∧ w.frozen? ⟨g, j, none⟩ = false := by
  rcases h with ⟨_, h0⟩ | ⟨g, cap', cur, e, h1, h2, hh, hc⟩
  · omega
  · simp at e
    obtain ⟨z, hz⟩ := hc j hj
    exact ⟨g, cur, z, e.1, h1, h2, hh, by simp [World.cell?, hh, hz], by simp [World.frozen?, hh]⟩

/-- In the loops of scribble. -/
def InScr (w : World) (H1 H2 pg : Nat) (Ls : List Nat) (wr : World) : Prop := Scr wr H1 H2 pg Ls ∧ Apart H1 H2 w wr

def ScrI (w : World) (H1 H2 pg : Nat) (Ls : List Nat) (i : Value) (wr : World) : Prop := ∃ k : Nat, k ≤ Ls.length ∧ i = .int .i64 k ∧ InScr w H1 H2 pg Ls wr
def ScrJ (w : World) (H1 H2 pg : Nat) (Ls : List Nat) (n : Nat) (j : Value) (wr : World) : Prop := ∃ m : Nat, m ≤ n ∧ j = .int .i64 m ∧ InScr w H1 H2 pg Ls wr

theorem InScr.step {w wr : World} {H1 H2 pg : Nat} {Ls : List Nat} (h : InScr w H1 H2 pg Ls wr) {g j : Nat} {cur : Array Value} (hg : wr.heap[g]? = some (.cells cur 5 (0, 0))) (h1 : H1 ≤ g) (h2 : g < H2) (z : Int) : InScr w H1 H2 pg Ls (wr.setCell ⟨g, j, none⟩ (.int .u8 z)).drew :=
  ⟨(h.1.setCell hg z).drew, (h.2.setCell h1 h2 _).drew⟩

set_option maxHeartbeats 1000000 in
theorem scribble_any (w : World) (H1 H2 pg c : Nat) (Ls : List Nat) (h : Scr w H1 H2 pg Ls) (hN : Ls.length ≤ 1048576) (hL : ∀ i, Ls.getD i 0 ≤ 1048576) :
    Calls Try.prog 30 #[.slice (some ⟨pg, 0, none⟩) Ls.length c] w fun e w' => e = .returned (.tuple #[]) ∧ Apart H1 H2 w w' := by
  have HI : InScr w H1 H2 pg Ls w := ⟨h, Apart.refl _ _ _⟩
  clear h
  go_enter Try.func30, Try.ntmps30
  go_wp2
  go_loopw [2] (fun i wr => ScrI w H1 H2 pg Ls i wr) (fun i _ => Ls.length - (intOf i).toNat)
  case atStart => exact ⟨0, Nat.zero_le _, rfl, HI⟩
  case round =>
    obtain ⟨k, hk, rfl, hin⟩ := hrel
    clear HI
    by_cases hkl : k < Ls.length
    · go_wp2
      have hLk := hL k
      have HC := hide (fun (W : World) (hs : Scr W H1 H2 pg Ls) => hs.cell k hkl)
      generalize Ls.getD k 0 = n at hLk HC
      go_loopw [3] (fun j wr => ScrJ w H1 H2 pg Ls n j wr) (fun j _ => n - (intOf j).toNat)
      case atStart => exact ⟨0, Nat.zero_le _, rfl, hin⟩
      case round =>
        obtain ⟨m, hm, rfl, hin2⟩ := hrel
        obtain ⟨u, hcu, hbr⟩ := HC.out _ hin2.1
        obtain ⟨ao, cap, rfl⟩ := hbr.form
        have hk1 : (k : Int) < (Ls.length : Int) := by omega
        by_cases hmn : m < n
        · obtain ⟨g, cur, z, rfl, hg1, hg2, hh, hcz, hfz⟩ := hbr.at m hmn
          have hm1 : (m : Int) < (n : Int) := by omega
          have HST := hide (fun z' => InScr.step (j := m) hin2 hh hg1 hg2 z')
          clear hbr hh
          go_wp2
          go_region
          all_goals go_wp2
          all_goals go_roundw
          case rel => exact ⟨m + 1, by omega, by go_num, HST.out _⟩
          case measure => simp [intOf]; omega
        · clear hbr
          go_wp2
          go_roundw
          case rel => exact ⟨k + 1, by omega, by go_num, hin2⟩
          case measure => simp [intOf]; omega
    · have hap := hin.2
      clear hin
      go_wp2
      go_end0
      exact ⟨rfl, hap⟩

set_option maxHeartbeats 400000 in
theorem scribble_nil (w : World) : Calls Try.prog 30 #[.slice none 0 0] w fun e w' => e = .returned (.tuple #[]) ∧ w' = w := by
  go_enter Try.func30, Try.ntmps30
  go_wp2
  go_loop [2] (fun i => i = .int .i64 0) (fun _ => 0)
  case atStart => rfl
  case round =>
    subst hrel
    go_wp2
    go_end0
    exact ⟨rfl, rfl⟩

/-! ### What scribble leaves alone -/
theorem Apart.own {H1 H2 : Nat} {w w' : World} {B sz : Nat} {t : TypeId} {v : Value} {n : Nat} {xs : List Value} (ha : Apart H1 H2 w w') (hB : H2 ≤ B) (h : w.ownsRow B t sz v n xs) : w'.ownsRow B t sz v n xs := by
  refine ⟨h.1, ?_⟩
  rcases h.2 with h0 | ⟨g, cap, cur, hv, hg, hh, r⟩
  · exact .inl h0
  · exact .inr ⟨g, cap, cur, hv, hg, by rw [ha.block g (.inr (by omega))]; exact hh, r⟩

theorem Intake.apart_of {H1 H2 : Nat} {w w' : World} {B q : Nat} {ps : List (List Int)} {pv : Value} {xs : List Value} {held : Int} (h : Intake w B q ps pv xs held) (ha : Apart H1 H2 w w') (hB : H2 ≤ B) : Intake w' B q ps pv xs held :=
  ⟨h.hq, by rw [ha.block q (.inr (by have := h.hq; omega))]; exact h.blk, ha.own hB h.own, fun i hi => ha.own hB (h.each i hi), h.apart, h.byte⟩

theorem Apart.keeps {H1 H2 : Nat} {w w' : World} (ha : Apart H1 H2 w w') {p : Addr} (hp : p.block < H1) : w'.cell? p = w.cell? p := World.cell?_of_block (w := w) (ha.block p.block (.inl hp))

theorem OwnL.scr {w2 wr : World} {H1 : Nat} {v : Value} {ll : List (List Int)} (h : OwnL w2 H1 v ll) (hb : Below w2.heap.size w2 wr) :
    (v = .slice none 0 0 ∧ ll = []) ∨ ∃ pg c, v = .slice (some ⟨pg, 0, none⟩) (ll.map List.length).length c ∧ Scr wr H1 w2.heap.size pg (ll.map List.length) := by
  obtain ⟨xs, ho, hx⟩ := h
  rcases ho.2 with ⟨rfl, h0⟩ | ⟨pg, cap, cur, rfl, hg, hh, hn, hm, hs, ht⟩
  · exact .inl ⟨rfl, List.eq_nil_of_length_eq_zero h0⟩
  · refine .inr ⟨pg, cap, by rw [List.length_map], cur, ?_, fun i hi => ?_⟩
    · rw [hb.block pg (Array.getElem?_eq_some_iff.1 hh).1]; exact hh
    · rw [List.length_map] at hi
      refine ⟨xs.getD i undef, ?_, ?_⟩
      · have e : xs[i]? = some (xs.getD i undef) := by
          have : i < xs.length := by rw [ho.1]; omega
          simp [List.getD, this]
        have e' : (cur.toList.take (ll.length * 1))[i]? = some (xs.getD i undef) := by rw [ht]; exact e
        rw [List.getElem?_take, if_pos (by omega)] at e'
        rw [← Array.getElem?_toList]
        exact e'
      · have hr := hx i hi
        have e2 : (ll.map List.length).getD i 0 = (ll.getD i []).length := by simp [List.getD, hi]
        rw [e2]
        rcases hr.2 with ⟨e3, e4⟩ | ⟨g, cap', cur', e3, hg', hh', hn', hm', hs', ht'⟩
        · exact .inl ⟨e3, e4⟩
        · refine .inr ⟨g, cap', cur', e3, hg', (Array.getElem?_eq_some_iff.1 hh').1, by rw [hb.block g (Array.getElem?_eq_some_iff.1 hh').1]; exact hh', fun j hj => ?_⟩
          have e5 := cellsB_at (ll.getD i []) j hj
          rw [← ht', List.getElem?_take, if_pos (by omega)] at e5
          exact ⟨_, by rw [← Array.getElem?_toList]; exact e5⟩

end Go.Proofs.Qxb6600602a
