/-
  The functions that make memory: cloneBytesB1 (36), cloneListB1 (14), flattenB1 (20).
-/
import Derived.Test.Qxb6600602aRead
import Derived.Laws.CopyOwn
import Derived.WalkSpells
import Derived.Deep.OwnRows
namespace Go.Proofs.Qxb6600602a
open Go.RowKit

theorem info5 : (Try.prog.info? 5).map (fun i => (i.zero, i.size, i.bytes)) = some (some (.int .u8 0), 1, 1) := by kernel_rfl
theorem info29 : (Try.prog.info? 29).map (fun i => (i.zero, i.size, i.bytes)) = some (some (.slice none 0 0), 1, 24) := by kernel_rfl
theorem size5 : (Try.prog.info? 5).map (·.size) = some 1 := by kernel_rfl
theorem size29 : (Try.prog.info? 29).map (·.size) = some 1 := by kernel_rfl

/-- The cells of a list of bytes. -/
def cellsB (l : List Int) : List Value := l.map (Value.int .u8)
theorem length_cellsB (l : List Int) : (cellsB l).length = l.length := by simp [cellsB]
theorem cellsB_get (l : List Int) (j : Nat) (v : Value) (h : (cellsB l)[j]? = some v) : j < l.length ∧ v = .int .u8 (l.getD j 0) := by
  simp only [cellsB, List.getElem?_map, Option.map_eq_some_iff] at h
  obtain ⟨x, hx, rfl⟩ := h
  obtain ⟨hj, hxx⟩ := List.getElem?_eq_some_iff.1 hx
  exact ⟨hj, by simp [List.getD, hx]⟩
theorem cellsB_at (l : List Int) (j : Nat) (h : j < l.length) : (cellsB l)[j]? = some (.int .u8 (l.getD j 0)) := by
  simp [cellsB, List.getD, h]
theorem cellsB_one (l : List Int) : ∀ v ∈ cellsB l, v.oneCell' = true := ints_oneCell .u8 l

/-- A slice of bytes that owns its row. -/
def OwnB (w : World) (B : Nat) (v : Value) (l : List Int) : Prop := w.ownsRow B 5 1 v l.length (cellsB l)

theorem OwnB.bs {w : World} {B : Nat} {v : Value} {l : List Int} (h : OwnB w B v l) (hby : ∀ i, 0 ≤ l.getD i 0 ∧ l.getD i 0 ≤ 255) : ∃ a c, v = .slice a l.length c ∧ BS w a c l ∧ (∀ p, a = some p → B ≤ p.block) := by
  rcases h.2 with ⟨rfl, h0⟩ | ⟨g, cap, cur, rfl, hg, hh, hn, hm, hs, ht⟩
  · rw [h0]
    refine ⟨none, 0, rfl, ?_, fun p hp => by cases hp⟩
    rw [List.eq_nil_of_length_eq_zero h0]
    exact BS.empty (Nat.zero_le _) fun _ => rfl
  · refine ⟨some ⟨g, 0, none⟩, cap, rfl, ⟨hn, hm, (fun h => by cases h), hby, fun i hi => ⟨g, 0, rfl, ?_⟩⟩, fun p hp => by cases hp; exact hg⟩
    have := World.ownsRow.cells (w := w) (base := B) (e := 5) (size := 1) (n := l.length) (xs := cellsB l) h rfl i _ (cellsB_at l i hi)
    simpa [Addr.add_lit] using this

theorem BS.src {w : World} {a : Option Addr} {c : Nat} {l : List Int} (h : BS w a c l) (h0 : 0 < l.length) : ∃ ad, a = some ad ∧ ∀ j v, (cellsB l)[j]? = some v → w.cell? (ad.add j) = some v := by
  obtain ⟨b, o, rfl, hc⟩ := h.at h0
  refine ⟨_, rfl, fun j v hv => ?_⟩
  obtain ⟨hj, rfl⟩ := cellsB_get l j v hv
  rw [Addr.add_lit]
  exact hc j hj

/-- What cloneBytes leaves: a slice of its own with the same bytes. -/
def CloneB (w : World) (l : List Int) (e : Ending) (w' : World) : Prop :=
  ∃ v, e = .returned v ∧ OwnB w' w.heap.size v l ∧ Below w.heap.size w w'

set_option maxHeartbeats 400000 in
theorem cloneBytes_any (w : World) (a : Option Addr) (c : Nat) (l : List Int) (h : BS w a c l) (hl : l.length ≤ 1048576) :
    Calls Try.prog 36 #[.slice a l.length c] w (CloneB w l) := by
  have q29 : ∀ (w : World) (a : Option Addr) (n c n' c' : Nat), (binOp .eql 29 (.slice a n c) (.slice none n' c')).run Try.prog w = .ok (.bool a.isNone) w := fun w a n c n' c' => Lib.run_eql_slice_nil w _ _ a n c n' c' Try.underlying29
  obtain ⟨i0, hi, hz0, hz1, hz2⟩ := info_parts info5
  cases a with
  | none =>
    have h0 := h.nil rfl
    have hl0 : l = [] := List.eq_nil_of_length_eq_zero (by have := h.le; omega)
    subst hl0
    go_enter Try.func36, Try.ntmps36
    go_wp2
    go_ret
    exact ⟨_, rfl, World.ownsRow_nil _ _ _ _, Below.refl _ _⟩
  | some ad =>
    have hmk := run_make_row' (P := Try.prog) 29 5 (.int .u8 0) 1 Try.underlying29 info5 rfl .i64 .i64 l.length (by omega) (by omega)
    have hsrc : 0 < (cellsB l).length → ∃ ad', some ad = some ad' ∧ ∀ j v, (cellsB l)[j]? = some v → (w.alloc (.cells (madeCells #[.int .u8 0] l.length) 5)).cell? (ad'.add j) = some v := fun h0 =>
      (h.below ((Below.refl _ _).alloc (Nat.le_refl _) _)).src (by rw [length_cellsB] at h0; exact h0)
    have HS : Hid (0 < (cellsB l).length → ∃ ad', some ad = some ad' ∧ ∀ j v, (cellsB l)[j]? = some v → (w.alloc (.cells (madeCells #[.int .u8 0] l.length) 5)).cell? (ad'.add j) = some v) := hsrc
    have HG : Hid ((w.alloc (.cells (madeCells #[.int .u8 0] l.length) 5)).heap[w.heap.size]? = some (.cells (madeCells #[.int .u8 0] l.length).toList.toArray 5 (0, 0))) := by
      rw [Array.toArray_toList]; exact heap_alloc_new w _
    have HF : Hid (0 + (cellsB l).length ≤ (madeCells #[Value.int .u8 0] l.length).toList.length) := by
      show _ ≤ _
      simp [length_cellsB, size_madeCells]
    have HN : Hid ((cellsB l).length = Nat.min l.length l.length) := by show _ = _; rw [length_cellsB]; exact (Nat.min_self _).symm
    clear hsrc h
    go_enter Try.func36, Try.ntmps36
    go_wp2_with (refine wpList_copy_splice rfl (.tmp 9) (.tmp 10) 29 29 rfl 5 Try.underlying29 size5 _ _ _ _ _ _ rfl rfl w.heap.size 0 (madeCells #[.int .u8 0] l.length).toList 5 HG.out (cellsB l) HN.out (fun h0 => ⟨rfl, HS.out h0⟩) HF.out (cellsB_one l) w.heap.size w ((Below.refl _ _).alloc (Nat.le_refl _) _) (Nat.le_refl _) ?_; intro w' Hg hBel)
    go_ret
    refine ⟨_, rfl, ⟨?_, .inr ⟨w.heap.size, l.length, _, rfl, Nat.le_refl _, Hg.out, Nat.le_refl _, ?_, ?_, ?_⟩⟩, hBel⟩
    · rw [length_cellsB]; omega
    · unfold maxLen; omega
    · simp [splice, length_cellsB, size_madeCells]
    · simp [splice, length_cellsB]

/-! ### cloneList -/
/-- Every row of bytes that was there is there, unchanged. -/
def Keeps5 (w w' : World) : Prop := ∀ (g : Nat) (cur : Array Value), w.heap[g]? = some (.cells cur 5 (0, 0)) → w'.heap[g]? = some (.cells cur 5 (0, 0))

theorem OwnB.keep {w w' : World} {B : Nat} {v : Value} {l : List Int} (h : OwnB w B v l) (hk : Keeps5 w w') : OwnB w' B v l := by
  refine ⟨h.1, ?_⟩
  rcases h.2 with h0 | ⟨g, cap, cur, hv, hg, hh, r⟩
  · exact .inl h0
  · exact .inr ⟨g, cap, cur, hv, hg, hk g cur hh, r⟩

theorem OwnB.mono {w : World} {B B' : Nat} {v : Value} {l : List Int} (h : OwnB w B v l) (hb : B' ≤ B) : OwnB w B' v l := by
  refine ⟨h.1, ?_⟩
  rcases h.2 with h0 | ⟨g, cap, cur, hv, hg, r⟩
  · exact .inl h0
  · exact .inr ⟨g, cap, cur, hv, Nat.le_trans hb hg, r⟩

theorem Keeps5.below {w w' : World} (hb : Below w.heap.size w w') : Keeps5 w w' := fun g _ h => by
  rw [hb.block g (Array.getElem?_eq_some_iff.1 h).1]; exact h

theorem Keeps5.trans {a b c : World} (h : Keeps5 a b) (k : Keeps5 b c) : Keeps5 a c := fun g cur e => k g cur (h g cur e)

theorem Keeps5.setCell {w : World} {p : Addr} {cur : Array Value} {t : TypeId} {fr : Nat × Nat} (h : w.heap[p.block]? = some (.cells cur t fr)) (ht : t ≠ 5) (u : Value) : Keeps5 w (w.setCell p u) := fun g cu e => by
  rw [Below.heap_setCell _ _ _ _ (fun e' => by subst e'; rw [h] at e; simp at e; exact ht e.2.1)]
  exact e

/-- A slice of slices of bytes, all of it in rows from block B on. -/
def OwnL (w : World) (B : Nat) (v : Value) (ll : List (List Int)) : Prop :=
  ∃ xs, w.ownsRow B 29 1 v ll.length xs ∧ ∀ i, i < ll.length → OwnB w B (xs.getD i undef) (ll.getD i [])

theorem OwnL.bss {w : World} {B : Nat} {v : Value} {ll : List (List Int)} (h : OwnL w B v ll) (hby : ∀ i j, 0 ≤ (ll.getD i []).getD j 0 ∧ (ll.getD i []).getD j 0 ≤ 255) :
    ∃ a c, v = .slice a ll.length c ∧ BSS w a c ll ∧ (∀ p, a = some p → B ≤ p.block) := by
  obtain ⟨xs, h, hx⟩ := h
  rcases h.2 with ⟨rfl, h0⟩ | ⟨g, cap, cur, rfl, hg, hh, hn, hm, hs, ht⟩
  · rw [h0]
    refine ⟨none, 0, rfl, ?_, fun p hp => by cases hp⟩
    rw [List.eq_nil_of_length_eq_zero h0]
    exact BSS.empty (Nat.zero_le _) fun _ => rfl
  · refine ⟨some ⟨g, 0, none⟩, cap, rfl, ⟨hn, hm, (fun h => by cases h), fun i hi => ?_⟩, fun p hp => by cases hp; exact hg⟩
    obtain ⟨a', c', e1, e2, _⟩ := (hx i hi).bs (hby i)
    refine ⟨g, 0, a', c', rfl, ?_, e2⟩
    have hlx : i < xs.length := by rw [h.1]; omega
    have := World.ownsRow.cells (w := w) (base := B) (e := 29) (size := 1) (n := ll.length) (xs := xs) h rfl i (xs.getD i undef) (by simp [List.getD, hlx])
    rw [e1] at this
    simpa [Addr.add_lit] using this

/-- In the middle of cloneList: k elements are cloned. -/
def CL (w : World) (ll : List (List Int)) (k : Nat) (wr : World) : Prop :=
  Below w.heap.size w wr ∧ ∃ cur, wr.heap[w.heap.size]? = some (.cells cur 29 (0, 0)) ∧ cur.size = ll.length ∧ ∀ i, i < k → OwnB wr w.heap.size (cur.getD i undef) (ll.getD i [])

theorem CL.start (w : World) (ll : List (List Int)) : CL w ll 0 (w.alloc (.cells (madeCells #[.slice none 0 0] ll.length) 29)) :=
  ⟨(Below.refl _ _).alloc (Nat.le_refl _) _, _, heap_alloc_new w _, size_madeCells _ _, fun i hi => by omega⟩

theorem CL.cell {w wr : World} {ll : List (List Int)} {k : Nat} (h : CL w ll k wr) (j : Nat) (hj : j < ll.length) : (∃ u, wr.cell? ⟨w.heap.size, j, none⟩ = some u) ∧ wr.frozen? ⟨w.heap.size, j, none⟩ = false := by
  obtain ⟨_, cur, hc, hs, _⟩ := h
  refine ⟨⟨cur[j]'(by omega), ?_⟩, ?_⟩
  · simp [World.cell?, hc, hs, hj]
  · simp [World.frozen?, hc]

theorem CL.lt {w wr : World} {ll : List (List Int)} {k : Nat} (h : CL w ll k wr) : w.heap.size < wr.heap.size := by
  obtain ⟨_, cur, hc, _⟩ := h
  exact (Array.getElem?_eq_some_iff.1 hc).1

theorem CL.later {w wr w1 : World} {ll : List (List Int)} {k : Nat} (h : CL w ll k wr) (hb : Below wr.heap.size wr w1) : CL w ll k w1 := by
  have hlt := h.lt
  obtain ⟨h1, cur, hc, hs, ho⟩ := h
  exact ⟨h1.trans (hb.mono h1.size), cur, by rw [hb.block _ hlt]; exact hc, hs, fun i hi => (ho i hi).keep (Keeps5.below hb)⟩

theorem CL.step {w w1 : World} {ll : List (List Int)} {k : Nat} {v : Value} (h : CL w ll k w1) (hk : k < ll.length) (hv : OwnB w1 w.heap.size v (ll.getD k [])) :
    CL w ll (k + 1) (w1.setCell ⟨w.heap.size, k, none⟩ v) := by
  obtain ⟨h1, cur, hc, hs, ho⟩ := h
  have hkp : Keeps5 w1 (w1.setCell ⟨w.heap.size, k, none⟩ v) := Keeps5.setCell (p := ⟨w.heap.size, k, none⟩) hc (by decide) v
  refine ⟨h1.setCell (Nat.le_refl _) v, cur.setIfInBounds k v, ?_, by simpa using hs, fun i hi => ?_⟩
  · simp [World.setCell, Array.getElem?_modify, hc]
  · by_cases e : i = k
    · subst e
      have : (cur.setIfInBounds i v).getD i undef = v := by simp [Array.getD, hs, hk]
      rw [this]
      exact hv.keep hkp
    · have : (cur.setIfInBounds k v).getD i undef = cur.getD i undef := by
        rw [Array.getD_eq_getD_getElem?, Array.getD_eq_getD_getElem?, Array.getElem?_setIfInBounds_ne (fun h => e h.symm)]
      rw [this]
      exact (ho i (by omega)).keep hkp

theorem CL.done {w wr : World} {ll : List (List Int)} (h : CL w ll ll.length wr) (hm : ll.length ≤ maxLen) : OwnL wr w.heap.size (.slice (some ⟨w.heap.size, 0, none⟩) ll.length ll.length) ll ∧ Below w.heap.size w wr := by
  obtain ⟨h1, cur, hc, hs, ho⟩ := h
  refine ⟨⟨cur.toList, ⟨by simp [hs], .inr ⟨_, _, cur, rfl, Nat.le_refl _, hc, Nat.le_refl _, hm, by omega, by simp [hs, List.take_of_length_le]⟩⟩, fun i hi => ?_⟩, h1⟩
  have := ho i hi
  simpa [List.getD, Array.getD, hs, hi] using this

/-- What cloneList leaves. -/
def CloneL (w : World) (ll : List (List Int)) (e : Ending) (w' : World) : Prop :=
  ∃ v, e = .returned v ∧ OwnL w' w.heap.size v ll ∧ Below w.heap.size w w'

set_option maxHeartbeats 400000 in
theorem cloneList_any (w : World) (a : Option Addr) (c : Nat) (ll : List (List Int)) (h : BSS w a c ll) (hb : ll.length + tot ll ≤ 1048576) :
    Calls Try.prog 14 #[.slice a ll.length c] w (CloneL w ll) := by
  have q22 : ∀ (w : World) (a : Option Addr) (n c n' c' : Nat), (binOp .eql 22 (.slice a n c) (.slice none n' c')).run Try.prog w = .ok (.bool a.isNone) w := fun w a n c n' c' => Lib.run_eql_slice_nil w _ _ a n c n' c' Try.underlying22
  cases a with
  | none =>
    have h0 := h.nil rfl
    have hl0 : ll = [] := List.eq_nil_of_length_eq_zero (by have := h.le; omega)
    subst hl0
    go_enter Try.func14, Try.ntmps14
    go_wp2
    go_ret
    exact ⟨_, rfl, ⟨[], World.ownsRow_nil _ _ _ _, fun i hi => by simp at hi⟩, Below.refl _ _⟩
  | some ad =>
    have hmk := run_make_row' (P := Try.prog) 22 29 (.slice none 0 0) 24 Try.underlying22 info29 rfl .i64 .i64 ll.length (by omega) (by omega)
    have HC := CL.start w ll
    have hlen : ll.length ≤ 1048576 := by omega
    go_enter Try.func14, Try.ntmps14
    go_wp2
    go_loopw [4] (fun i wr => ∃ k : Nat, k ≤ ll.length ∧ i = .int .i64 k ∧ CL w ll k wr) (fun i _ => ll.length - (intOf i).toNat)
    case atStart => exact ⟨0, Nat.zero_le _, rfl, HC⟩
    case round =>
      obtain ⟨k, hk, rfl, hcl⟩ := hrel
      clear HC
      by_cases hlt : k < ll.length
      · obtain ⟨b, o, a1, c1, e0, hc, hb1⟩ := (h.below hcl.1).cells k hlt
        have hx := len_le_tot ll k
        simp only [Option.some.injEq] at e0
        subst e0
        have hstep := fun w1 v => @CL.step w w1 ll k v
        generalize ll.getD k [] = x at hc hb1 hx hstep
        have HST := hide hstep
        clear hstep
        go_wp2_with (go_at_call 36; refine (cloneBytes_any _ _ _ x hb1 (by omega)).mono ?_; rintro e w1 ⟨v, rfl, hv, hbel⟩; obtain ⟨a2, c2, e2, -, -⟩ := hv.bs hb1.byte; have hcl1 := hcl.later hbel; obtain ⟨⟨u, hu⟩, hfz⟩ := hcl1.cell k hlt; have hv1 := hv.mono (Nat.le_of_lt hcl.lt); clear hv; subst e2)
        go_roundw
        case rel => exact ⟨k + 1, by omega, by go_num, HST.out _ _ hcl1 hlt hv1⟩
        case measure => simp [intOf]; omega
      · obtain rfl : k = ll.length := by omega
        have hd := hcl.done (by unfold maxLen; omega)
        clear hcl
        go_wp2
        go_ret
        exact ⟨_, rfl, hd⟩

/-! ### flatten -/
theorem cellsB_append (x y : List Int) : cellsB (x ++ y) = cellsB x ++ cellsB y := by simp [cellsB]

theorem flatten_snoc (ll : List (List Int)) (k : Nat) (h : k < ll.length) : (ll.take (k + 1)).flatten = (ll.take k).flatten ++ ll.getD k [] := by
  rw [List.take_succ_eq_append_getElem h, List.flatten_append]
  simp [List.getD, List.getElem?_eq_getElem h]

/-- In the middle of flatten. -/
def FL (w : World) (ll : List (List Int)) (k : Nat) (wr : World) : Prop :=
  Below w.heap.size w wr ∧ wr.ownsRow w.heap.size 5 1 (.slice (some ⟨w.heap.size, 0, none⟩) (tot (ll.take k)) (tot ll)) (tot (ll.take k)) (cellsB (ll.take k).flatten)

theorem FL.start (w : World) (ll : List (List Int)) (h : tot ll ≤ maxLen) : FL w ll 0 (w.alloc (.cells (madeCells #[.int .u8 0] (tot ll)) 5)) :=
  ⟨(Below.refl _ _).alloc (Nat.le_refl _) _, World.ownsRow_made w _ _ (Nat.le_refl _) h (by rw [size_madeCells]; omega)⟩

theorem FL.lt {w wr : World} {ll : List (List Int)} {k : Nat} (h : FL w ll k wr) : w.heap.size < wr.heap.size := (h.2.lt _ rfl).2

theorem FL.step {w wr w' : World} {ll : List (List Int)} {k : Nat} (h : FL w ll k wr) (hk : k < ll.length) (hg : wr.grownBy w' (some w.heap.size))
    (ho : w'.ownsRow w.heap.size 5 1 (.slice (some ⟨w.heap.size, 0, none⟩) (tot (ll.take k) + (ll.getD k []).length) (tot ll)) (tot (ll.take k) + (ll.getD k []).length) (cellsB (ll.take k).flatten ++ cellsB (ll.getD k []))) : FL w ll (k + 1) w' := by
  refine ⟨h.1.grown hg h.1.size (fun j e => by cases e; exact Nat.le_refl _), ?_⟩
  rw [tot_snoc ll k hk, flatten_snoc ll k hk, cellsB_append]
  exact ho

/-- What flatten leaves. -/
def FlatP (w : World) (ll : List (List Int)) (e : Ending) (w' : World) : Prop :=
  ∃ v, e = .returned v ∧ OwnB w' w.heap.size v ll.flatten ∧ Below w.heap.size w w'

set_option maxHeartbeats 400000 in
theorem flatten_any (w : World) (a : Option Addr) (c : Nat) (ll : List (List Int)) (h : BSS w a c ll) (hb : tot ll ≤ 1048576) :
    Calls Try.prog 20 #[.slice a ll.length c] w (FlatP w ll) := by
  have hmax := h.max
  have hle := h.le
  unfold maxLen at hmax
  obtain ⟨i0, hi, hz0, hz1, hz2⟩ := info_parts info5
  have hmk : ∀ W : World, (Instr.makeSlice 29 (.int .i64 0) (.int .i64 (tot ll : Nat))).run Try.prog W = .ok (.slice (some ⟨W.heap.size, 0, none⟩) 0 (tot ll)) (W.alloc (.cells (madeCells #[.int .u8 0] (tot ll)) 5)) := fun W => by
    have := run_make (P := Try.prog) W 29 5 i0 (.int .u8 0) Try.underlying29 hi hz0 .i64 .i64 0 (tot ll : Nat) (by omega) (by omega) (by rw [hz2]; omega) (by omega)
    simpa [hz1, Value.cells] using this
  have HC := FL.start w ll (by unfold maxLen; omega)
  go_enter Try.func20, Try.ntmps20
  go_wp2_with (go_at_call 17; refine (totalLen_any _ _ _ ll h (by omega)).mono ?_; rintro e w1 ⟨rfl, hw1⟩; have hw1 := hw1.symm; subst hw1)
  go_loopw [3, 4] (fun v i wr => ∃ k : Nat, k ≤ ll.length ∧ i = .int .i64 k ∧ v = .slice (some ⟨w.heap.size, 0, none⟩) (tot (ll.take k)) (tot ll) ∧ FL w ll k wr) (fun _ i _ => ll.length - (intOf i).toNat)
  case atStart => exact ⟨0, Nat.zero_le _, rfl, by simp [tot], HC⟩
  case round =>
    obtain ⟨k, hk, rfl, rfl, hfl⟩ := hrel
    clear HC
    by_cases hlt : k < ll.length
    · obtain ⟨b, o, a1, c1, rfl, hc, hb1⟩ := (h.below hfl.1).cells k hlt
      have hst := fun w' => @FL.step w wr w' ll k hfl hlt
      have ht1 := tot_snoc ll k hlt
      have ht2 := tot_take_le ll (k + 1)
      have hown := hfl.2
      generalize ll.getD k [] = x at hc hb1 hst ht1
      have hroom : tot (ll.take k) + x.length ≤ tot ll := by omega
      have HST := hide hst
      have HOWN := hide hown
      have HT1 := hide ht1
      clear hst ht1 ht2 hown
      have hns : ∀ ad, a1 = some ad → ∀ j u, (cellsB x)[j]? = some u → wr.cell? (ad.add j) = some u := by
        intro ad e j u hu
        obtain ⟨hj, _⟩ := cellsB_get x j u hu
        obtain ⟨ad', e', hs⟩ := hb1.src (by omega)
        rw [e] at e'
        cases e'
        exact hs j u hu
      have HNS := hide hns
      have HN0 : Hid (a1 = none → x.length = 0 ∧ c1 = 0) := fun e => ⟨by have := hb1.nil e; have := hb1.le; omega, hb1.nil e⟩
      clear hns
      generalize tot (ll.take k) = t at *
      go_wp2_with (at_builtin; refine wpList_append_fits_any _ rfl (.tmp 14) (.tmp 18) 29 rfl w.heap.size 5 i0 1 Try.underlying29 hi hz1 w.heap.size _ _ _ rfl HOWN.out _ _ _ (cellsB x) rfl (by rw [length_cellsB]; omega) HN0.out HNS.out (cellsB_one x) hroom ?_; intro w2 hown2 hgrow2)
      go_roundw
      case rel => exact ⟨k + 1, by omega, by go_num, by rw [HT1.out], HST.out _ hgrow2 hown2⟩
      case measure => simp [intOf]; omega
    · obtain rfl : k = ll.length := by omega
      have hd : OwnB wr w.heap.size (.slice (some ⟨w.heap.size, 0, none⟩) (tot (ll.take ll.length)) (tot ll)) ll.flatten := by
        have := hfl.2
        rw [List.take_length] at this ⊢
        unfold OwnB
        rw [tot_flatten]
        exact this
      have hd2 := hfl.1
      clear hfl
      go_wp2
      go_ret
      exact ⟨_, rfl, hd, hd2⟩

end Go.Proofs.Qxb6600602a
