/-
  zzRegions (11), ZZDecide (7).
-/
import Derived.Test.Qxb6602769aCnt
import Derived.Deep.OwnRows
namespace Go.Proofs.Qxb6602769a
open Go.RowKit Go.Maps

theorem info36 : (Try.prog.info? 36).map (fun i => (i.zero, i.size, i.bytes)) = some (some (.int .u32 0), 1, 4) := by kernel_rfl

def rowU (l : List Int) : Array Value := (l.map (Value.int .u32)).toArray
theorem rowU_set (l : List Int) (i : Nat) (v : Int) : (rowU l).setIfInBounds i (.int .u32 v) = rowU (l.set i v) := by simp [rowU, List.map_set]
theorem rowU_at (l : List Int) (i : Nat) (h : i < l.length) : (rowU l)[i]? = some (.int .u32 (l.getD i 0)) := by
  simp [rowU, List.getD, h]
theorem rowU_made (n : Nat) : madeCells #[.int .u32 0] n = rowU (List.replicate n 0) := by
  apply Array.ext
  · simp [rowU, size_madeCells]
  · intro i h1 h2
    have e : i % 1 = 0 := Nat.mod_one i
    simp [rowU, madeCells, e]

def Row (w : World) (g : Nat) (l : List Int) : Prop := w.heap[g]? = some (.cells (rowU l) 36 (0, 0))
theorem Row.cell {w : World} {g : Nat} {l : List Int} (h : Row w g l) (i : Nat) (hi : i < l.length) : w.cell? ⟨g, i, none⟩ = some (.int .u32 (l.getD i 0)) := by
  simp [World.cell?, show w.heap[g]? = _ from h, rowU_at l i hi]
theorem Row.frozen {w : World} {g : Nat} {l : List Int} (h : Row w g l) (i : Nat) : w.frozen? ⟨g, i, none⟩ = false := by
  simp [World.frozen?, show w.heap[g]? = _ from h]
theorem Row.set {w : World} {g : Nat} {l : List Int} (h : Row w g l) (i : Nat) (v : Int) : Row (w.setCell ⟨g, i, none⟩ (.int .u32 v)) g (l.set i v) := by
  unfold Row
  rw [← rowU_set]
  simp [World.setCell, Array.getElem?_modify, show w.heap[g]? = _ from h]

def midL (l : List Int) (k : Nat) : List Int := l.take k ++ List.replicate (l.length - k) 0
theorem midL_zero (l : List Int) : rowU (midL l 0) = madeCells #[.int .u32 0] l.length := by rw [rowU_made]; simp [midL]
theorem midL_length (l : List Int) (k : Nat) (h : k ≤ l.length) : (midL l k).length = l.length := by simp [midL]; omega
theorem midL_step (l : List Int) (k : Nat) (h : k < l.length) : (midL l k).set k (l.getD k 0) = midL l (k + 1) := by
  unfold midL
  have e1 : (l.take k).length = k := by simp; omega
  rw [List.set_append_right _ _ (by omega), e1, Nat.sub_self, show l.length - k = (l.length - (k + 1)) + 1 by omega, List.replicate_succ, List.set_cons_zero, List.take_succ_eq_append_getElem h, List.append_assoc]
  simp [List.getD, h]
theorem midL_full (l : List Int) : midL l l.length = l := by simp [midL]

def RegP (w : World) (l : List Int) (e : Ending) (w' : World) : Prop := ∃ a', e = .returned (.slice a' l.length l.length) ∧ US w' a' l.length l ∧ Below w.heap.size w w'

set_option maxHeartbeats 400000 in
theorem regions_any (w : World) (a : Option Addr) (c : Nat) (l : List Int) (h : US w a c l) (hl : l.length ≤ 65536) :
    Calls Try.prog 11 #[.slice a l.length c] w (RegP w l) := by
  have q22 : ∀ (w : World) (a : Option Addr) (n c n' c' : Nat), (binOp .eql 22 (.slice a n c) (.slice none n' c')).run Try.prog w = .ok (.bool a.isNone) w := fun w a n c n' c' => Lib.run_eql_slice_nil w _ _ a n c n' c' Try.underlying22
  cases a with
  | none =>
    have h0 := h.nil rfl
    have hl0 : l = [] := List.eq_nil_of_length_eq_zero (by have := h.le; omega)
    subst hl0
    go_enter Try.func11, Try.ntmps11
    go_wp2
    go_ret
    exact ⟨none, rfl, ⟨Nat.zero_le _, Nat.zero_le _, fun _ => rfl, fun i hi => absurd hi (by simp), fun i hi => absurd hi (by simp)⟩, Below.refl _ _⟩
  | some ad =>
    have hmk := run_make_row' (P := Try.prog) 38 36 (.int .u32 0) 4 Try.underlying38 info36 rfl .i64 .i64 l.length (by omega) (by omega)
    have HC : Row (w.alloc (.cells (madeCells #[.int .u32 0] l.length) 36)) w.heap.size (midL l 0) ∧ Below w.heap.size w (w.alloc (.cells (madeCells #[.int .u32 0] l.length) 36)) :=
      ⟨by unfold Row; rw [midL_zero]; exact heap_alloc_new w _, (Below.refl _ _).alloc (Nat.le_refl _) _⟩
    have HW := hide h.word
    go_enter Try.func11, Try.ntmps11
    go_wp2
    go_loopw [4] (fun i wr => ∃ k : Nat, k ≤ l.length ∧ i = .int .i64 k ∧ Row wr w.heap.size (midL l k) ∧ Below w.heap.size w wr) (fun i _ => l.length - (intOf i).toNat)
    case atStart => exact ⟨0, Nat.zero_le _, rfl, HC⟩
    case round =>
      obtain ⟨k, hk, rfl, hrow, hbel⟩ := hrel
      clear HC
      by_cases hlt : k < l.length
      · obtain ⟨b, o, e0, hc⟩ := (h.below hbel).cells k hlt
        simp only [Option.some.injEq] at e0
        subst e0
        have hcw := hrow.cell k (by rw [midL_length l k hk]; exact hlt)
        have hfw := hrow.frozen k
        have HST := hide (midL_step l k hlt)
        have HR := hide hrow
        generalize l.getD k 0 = x at hc HST
        generalize (midL l k).getD k 0 = y at hcw
        clear hrow h
        go_wp2
        go_roundw
        case rel => exact ⟨k + 1, by omega, by go_num, by rw [← HST.out]; exact HR.out.set k x, hbel.setCell (Nat.le_refl _) _⟩
        case measure => simp [intOf]; omega
      · obtain rfl : k = l.length := by omega
        rw [midL_full] at hrow
        have HR := hide hrow
        clear hrow h
        go_wp2
        go_ret
        exact ⟨_, rfl, ⟨Nat.le_refl _, by unfold maxLen; omega, (fun e => by cases e), HW.out, fun i hi => ⟨_, 0, rfl, by rw [Nat.zero_add]; exact HR.out.cell i hi⟩⟩, hbel⟩

/-- What ZZDecide leaves. -/
def DecQ (w : World) (l : List Int) (f : Int → Option Int) (e : Ending) (w' : World) : Prop := e = .returned (.tuple #[.int .u8 (dec l f).1, .bool (dec l f).2]) ∧ Below w.heap.size w w'

theorem own_below {H : Type} {k : TypeId} {w w' : World} {b n : Nat} {D : DataW H} {B : Nat} (h : w.ownsMap Try.prog k (plainElem Try.prog 5) b n D) (hb : Below B w w') (hlt : b < B) : w'.ownsMap Try.prog k (plainElem Try.prog 5) b n D := by
  obtain ⟨es, clock, hbl, r⟩ := h
  exact ⟨es, clock, by rw [hb.block b hlt]; exact hbl, r⟩

set_option maxHeartbeats 2000000 in
theorem door_nil (w : World) (a : Option Addr) (c : Nat) (l : List Int) (h : US w a c l) (hl : l.length ≤ 65536) :
    Calls Try.prog 7 #[.slice a l.length c, .map none] w (DecQ w l (fun _ => none)) := by
  have q23 : ∀ (w : World) (r : Option Nat), (binOp .neq 23 (.map r) (.map none)).run Try.prog w = .ok (.bool (!r.isNone)) w := fun w r => run_neq_map_nil w 23 27 5 r Try.underlying23
  have HU := hide h
  clear h
  go_enter Try.func7, Try.ntmps7
  go_wp2_with fail
  refine (regions_any w a c l (by exact HU.out) hl).mono ?_
  rintro e w2 ⟨a', rfl, hu, hb⟩
  have HU2 := hide hu
  have HB2 := hide hb
  clear hu hb
  go_wp2_with fail
  refine (decide_any w2 a' l.length l none (fun _ => none) (by exact HU2.out) hl (by exact look_nil' law36 Try.underlying36 Try.underlying35)).mono ?_
  rintro e w3 ⟨rfl, hw⟩
  have hw := hw.symm
  subst hw
  obtain ⟨d1, d2, hd⟩ : ∃ d1 d2, dec l (fun _ => none) = (d1, d2) := ⟨_, _, rfl⟩
  have HD := hide hd
  rw [hd]
  clear hd
  go_wp2_with fail
  go_ret2
  exact ⟨by rw [HD.out]; rfl, HB2.out⟩

/-- The map in the middle of ZZDecide. -/
def MidM (w : World) (l : List Int) (f : Int → Option Int) (iv : Value) (wr : World) : Prop :=
  ∃ k : Nat, k ≤ l.length ∧ iv = .int .i64 k ∧ (∃ D : DataW Unit, wr.ownsMap Try.prog 36 (plainElem Try.prog 5) w.heap.size k D ∧ ∀ a, fnOf D a = if a ∈ l.take k then f a else none) ∧ Below w.heap.size w wr

theorem mem_take (l : List Int) (k : Nat) (h : k < l.length) (a : Int) : a ∈ l.take (k + 1) ↔ a ∈ l.take k ∨ a = l.getD k 0 := by
  rw [List.take_succ_eq_append_getElem h, List.mem_append, List.mem_singleton]
  simp [List.getD, List.getElem?_eq_getElem h]

theorem mid_skip {l : List Int} {f g : Int → Option Int} {k : Nat} {x : Int} (hm : ∀ a, a ∈ l.take (k + 1) ↔ a ∈ l.take k ∨ a = x) (hg : ∀ a, g a = if a ∈ l.take k then f a else none) (hx : f x = none) (a : Int) : g a = if a ∈ l.take (k + 1) then f a else none := by
  rw [hg]
  by_cases h : a ∈ l.take k
  · rw [if_pos h, if_pos ((hm a).2 (.inl h))]
  · rw [if_neg h]
    by_cases h2 : a = x
    · subst h2; rw [if_pos ((hm _).2 (.inr rfl)), hx]
    · rw [if_neg (fun e => ((hm a).1 e).elim h h2)]

theorem mid_put {l : List Int} {f g : Int → Option Int} {k : Nat} {x c : Int} (hm : ∀ a, a ∈ l.take (k + 1) ↔ a ∈ l.take k ∨ a = x) (hg : ∀ a, g a = if a ∈ l.take k then f a else none) (hx : f x = some c) (a : Int) :
    (if a = x then some c else g a) = if a ∈ l.take (k + 1) then f a else none := by
  by_cases h2 : a = x
  · subst h2; rw [if_pos rfl, if_pos ((hm _).2 (.inr rfl)), hx]
  · rw [if_neg h2, hg]
    by_cases h : a ∈ l.take k
    · rw [if_pos h, if_pos ((hm a).2 (.inl h))]
    · rw [if_neg h, if_neg (fun e => ((hm a).1 e).elim h h2)]

theorem some_of {o : Option Int} (h : o.isSome = true) : o = some (o.getD 0) := by cases o <;> simp_all
theorem none_of {o : Option Int} (h : o.isSome = false) : o = none := by cases o <;> simp_all

set_option maxHeartbeats 2000000 in
theorem door_some {H : Type} (w : World) (a : Option Addr) (c : Nat) (l : List Int) (b n : Nat) (D : DataW H) (h : US w a c l) (hl : l.length ≤ 65536) (hown : w.ownsMap Try.prog 27 (plainElem Try.prog 5) b n D) :
    Calls Try.prog 7 #[.slice a l.length c, .map (some b)] w (DecQ w l (fnOf D)) := by
  have q23 : ∀ (w : World) (r : Option Nat), (binOp .neq 23 (.map r) (.map none)).run Try.prog w = .ok (.bool (!r.isNone)) w := fun w r => run_neq_map_nil w 23 27 5 r Try.underlying23
  have hmm := @run_makeMap Try.prog
  have HU := hide h
  have HOW := hide hown
  have HS : MidM w l (fnOf D) (.int .i64 0) (w.alloc (.map #[] 0)) := ⟨0, Nat.zero_le _, rfl, ⟨.map [], World.ownsMap_made _ _ _ _, fun a => by rw [fnOf_empty]; simp⟩, (Below.refl _ _).alloc (Nat.le_refl _) _⟩
  clear h hown
  go_enter Try.func7, Try.ntmps7
  go_wp2_with fail
  go_loopw [7] (fun iv wr => MidM w l (fnOf D) iv wr) (fun iv _ => l.length - (intOf iv).toNat)
  case atStart => exact HS
  case round =>
    obtain ⟨k, hk, rfl, ⟨E, hE, hfn⟩, hbel⟩ := hrel
    clear HS
    by_cases hlt : k < l.length
    · have hlk := look_own law27 Try.underlying27 Try.underlying23 (own_below HOW.out hbel HOW.out.lt)
      obtain ⟨b', o, rfl, hc⟩ := (HU.out.below hbel).cells k hlt
      have hwx := HU.out.word k hlt
      have hl1 := (hlk.1 _ hwx).1
      have hwv := hlk.2 _ hwx
      have HM := hide (mem_take l k hlt)
      have hlt' : (k : Int) < (l.length : Int) := by omega
      have hk0 : (0 : Int) ≤ (k : Int) := by omega
      have HFN := hide hfn
      have HE := hide hE
      have HB := hide hbel
      generalize l.getD k 0 = x at hc hwx hl1 hwv HM
      clear hlk hfn hE hbel
      cases hs : (fnOf D x).isSome with
      | false =>
        have HX := hide (none_of hs)
        rw [hs] at hl1
        generalize (fnOf D x).getD 0 = v at hl1 hwv
        clear hs
        go_wp2_with fail
        go_roundw
        case rel => exact ⟨k + 1, by omega, by go_num, ⟨E, HE.out.mono (by omega), mid_skip HM.out HFN.out HX.out⟩, HB.out⟩
        case measure => simp [intOf]; omega
      | true =>
        have HX := hide (some_of hs)
        rw [hs] at hl1
        generalize (fnOf D x).getD 0 = v at hl1 hwv HX
        clear hs
        have hkey := keyOf_int_mk Try.underlying36 hwx
        go_wp2_with (at_mapUpdate; refine wpList_mapUpdate_own _ rfl _ _ _ 35 rfl 36 5 law36 Try.underlying35 _ w.heap.size k E rfl HE.out (by unfold maxLen; omega) _ _ _ rfl rfl hkey _ [] (plainElem_int Try.underlying5 hwv) ?_; intro w1 hown1 hgrow1)
        go_roundw
        case rel => exact ⟨k + 1, by omega, by go_num, ⟨_, hown1, fun a => by rw [fnOf_put HE.out.isMap]; exact mid_put HM.out HFN.out HX.out a⟩, HB.out.grown hgrow1 HB.out.size (fun j hj => by cases hj; exact Nat.le_refl _)⟩
        case measure => simp [intOf]; omega
    · obtain rfl : k = l.length := by omega
      rw [List.take_length] at hfn
      have HE := hide hE
      have HB := hide hbel
      have HC : Hid (dec l (fnOf E) = dec l (fnOf D)) := hide (dec_congr l _ _ (fun x hx => by rw [hfn, if_pos hx]))
      clear hE hbel hfn
      go_wp2_with fail
      refine (regions_any wr a c l (by exact HU.out.below HB.out) hl).mono ?_
      rintro e w2 ⟨a', rfl, hu, hb⟩
      have HU2 := hide hu
      have HB2 := hide hb
      clear hu hb
      go_wp2_with fail
      refine (decide_any w2 a' l.length l (some w.heap.size) (fnOf E) (by exact HU2.out) hl (by exact (look_own law36 Try.underlying36 Try.underlying35 (own_below HE.out HB2.out HE.out.lt)).1)).mono ?_
      rintro e w3 ⟨rfl, hw⟩
      have hw := hw.symm
      subst hw
      rw [HC.out]
      obtain ⟨d1, d2, hd⟩ : ∃ d1 d2, dec l (fnOf D) = (d1, d2) := ⟨_, _, rfl⟩
      have HD := hide hd
      rw [hd]
      clear hd HC
      go_wp2_with fail
      go_ret2
      exact ⟨by rw [HD.out]; rfl, HB.out.trans (HB2.out.mono HB.out.size)⟩

end Go.Proofs.Qxb6602769a
