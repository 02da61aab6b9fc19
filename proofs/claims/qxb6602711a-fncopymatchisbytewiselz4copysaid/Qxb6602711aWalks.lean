/-
  The walks of the small functions: Same (10), Clone (6), the reader's making (7), wrote (13), the reader's fields (9), the size test (5).
-/
import Derived.Test.Qxb6602711aRows
import Derived.Test.Qxb6602711aHeap
import Derived.Test.Qxb6602711aPlain
import Derived.Deep.QuietTactic
import Derived.BigQuiet
import Derived.WalkSpells
import Derived.Deep.OwnRows
namespace Go.Proofs.Qxb6602711a
open Go.RowKit

theorem info5 : (Try.prog.info? 5).map (fun i => (i.zero, i.size, i.bytes)) = some (some (.int .u8 0), 1, 1) := by kernel_rfl
theorem size5 : (Try.prog.info? 5).map (·.size) = some 1 := by kernel_rfl
theorem ret_bool {a b : Bool} (h : a = b) : Ending.returned (.bool a) = .returned (.bool b) := by rw [h]

theorem drewN_two (w : World) (n m : Nat) : ∃ k, (w.drewN n).drewN m = w.drewN k := ⟨_, World.drewN_drewN _ _ _⟩

theorem take_getD_eq {l l' : List Int} {k : Nat} (hl : l.length = l'.length) (hk : k < l.length) (h : l.take k = l'.take k) (he : l.getD k 0 = l'.getD k 0) : l.take (k + 1) = l'.take (k + 1) := by
  have hk' : k < l'.length := by omega
  rw [List.take_succ_eq_append_getElem hk, List.take_succ_eq_append_getElem hk', h]
  simp [List.getD, List.getElem?_eq_getElem hk, List.getElem?_eq_getElem hk'] at he
  rw [he]

set_option maxHeartbeats 400000 in
/-- Two slices of the same bytes are found the same. -/
theorem same_true (w : World) (a a' : Option Addr) (c c' : Nat) (l : List Int) (n n' : Nat) (h : BS w a c l) (h' : BS w a' c' l) (hn : l.length = n) (hn' : l.length = n') :
    Calls Try.prog 10 #[.slice a n c, .slice a' n' c'] w fun e w' => e = .returned (.bool true) ∧ ∃ m, w' = w.drewN m := by
  subst hn; subst hn'
  have hmax := h.max
  have hle := h.le
  unfold maxLen at hmax
  go_enter Try.func10, Try.ntmps10
  go_wp2
  go_loopw [5] (fun i wr => ∃ k n : Nat, k ≤ l.length ∧ i = .int .i64 k ∧ wr = w.drewN n) (fun i _ => l.length - (intOf i).toNat)
  case atStart => exact ⟨0, 0, Nat.zero_le _, rfl, rfl⟩
  case round =>
    obtain ⟨k, n, hk, rfl, rfl⟩ := hrel
    by_cases hlt : k < l.length
    · obtain ⟨b, o, rfl, hc⟩ := h.cells k hlt
      obtain ⟨b', o', rfl, hc'⟩ := h'.cells k hlt
      have hk0 : (0 : Int) ≤ (k : Int) := by omega
      have hk1 : (k : Int) < (l.length : Int) := by omega
      generalize l.getD k 0 = x at hc hc'
      clear h h'
      go_wp2
      go_quiet (fail)
      go_wp2
      go_roundw
      case rel => exact ⟨k + 1, _, by omega, by go_num, rfl⟩
      case measure => simp [intOf]; omega
    · go_wp2
      go_ret
      exact ⟨rfl, _, rfl⟩

/-- What Clone leaves: nil of nil; else a row of its own with the same bytes. -/
def CloneOut (w : World) (a : Option Addr) (l : List Int) (e : Ending) (w' : World) : Prop :=
  (a = none ∧ l = [] ∧ e = .returned (.slice none 0 0) ∧ w' = w) ∨
  (a.isSome = true ∧ e = .returned (.slice (some ⟨w.heap.size, 0, none⟩) l.length l.length) ∧ Row w' w.heap.size l ∧ Below w.heap.size w w')

/-- The row in the middle of Clone. -/
def midL (l : List Int) (k : Nat) : List Int := l.take k ++ List.replicate (l.length - k) 0

theorem midL_zero (l : List Int) : rowA (midL l 0) = madeCells #[.int .u8 0] l.length := by rw [rowA_made]; simp [midL]
theorem midL_length (l : List Int) (k : Nat) (h : k ≤ l.length) : (midL l k).length = l.length := by simp [midL]; omega
theorem midL_step (l : List Int) (k : Nat) (h : k < l.length) : (midL l k).set k (l.getD k 0) = midL l (k + 1) := by
  unfold midL
  have e1 : (l.take k).length = k := by simp; omega
  rw [List.set_append_right _ _ (by omega), e1, Nat.sub_self, show l.length - k = (l.length - (k + 1)) + 1 by omega, List.replicate_succ, List.set_cons_zero, List.take_succ_eq_append_getElem h, List.append_assoc]
  simp [List.getD, h]
theorem midL_full (l : List Int) : midL l l.length = l := by simp [midL]

set_option maxHeartbeats 400000 in
theorem clone_any (w : World) (a : Option Addr) (c : Nat) (l : List Int) (h : BS w a c l) (hl : l.length ≤ 1048576) :
    Calls Try.prog 6 #[.slice a l.length c] w (CloneOut w a l) := by
  have q22 : ∀ (w : World) (a : Option Addr) (n c n' c' : Nat), (binOp .eql 22 (.slice a n c) (.slice none n' c')).run Try.prog w = .ok (.bool a.isNone) w := fun w a n c n' c' => Lib.run_eql_slice_nil w _ _ a n c n' c' Try.underlying22
  cases a with
  | none =>
    have h0 := h.nil rfl
    have hl0 : l = [] := List.eq_nil_of_length_eq_zero (by have := h.le; omega)
    subst hl0
    go_enter Try.func6, Try.ntmps6
    go_wp2
    go_ret
    exact .inl ⟨rfl, rfl, rfl, rfl⟩
  | some ad =>
    have hmk := run_make_row' (P := Try.prog) 22 5 (.int .u8 0) 1 Try.underlying22 info5 rfl .i64 .i64 l.length (by omega) (by omega)
    have HC : Row (w.alloc (.cells (madeCells #[.int .u8 0] l.length) 5)) w.heap.size (midL l 0) ∧ Below w.heap.size w (w.alloc (.cells (madeCells #[.int .u8 0] l.length) 5)) :=
      ⟨by unfold Row; rw [midL_zero]; exact heap_alloc_new w _, (Below.refl _ _).alloc (Nat.le_refl _) _⟩
    go_enter Try.func6, Try.ntmps6
    go_wp2
    go_loopw [4] (fun i wr => ∃ k : Nat, k ≤ l.length ∧ i = .int .i64 k ∧ Row wr w.heap.size (midL l k) ∧ Below w.heap.size w wr) (fun i _ => l.length - (intOf i).toNat)
    case atStart => exact ⟨0, Nat.zero_le _, rfl, HC⟩
    case round =>
      obtain ⟨k, hk, rfl, hrow, hbel⟩ := hrel
      clear HC
      by_cases hlt : k < l.length
      · obtain ⟨b, o, e0, hc⟩ := (h.below hbel).cells k hlt
        simp only [Option.some.injEq] at e0
        subst e0
        have hcw := hrow.cell k (by rw [midL_length l k hk]; exact hlt)
        have hfw := hrow.frozen k
        have HST := hide (midL_step l k hlt)
        have HR := hide hrow
        generalize l.getD k 0 = x at hc HST
        generalize (midL l k).getD k 0 = y at hcw
        clear hrow h
        go_wp2
        go_roundw
        case rel => exact ⟨k + 1, by omega, by go_num, by rw [← HST.out]; exact HR.out.set k x, hbel.setCell (Nat.le_refl _) _⟩
        case measure => simp [intOf]; omega
      · obtain rfl : k = l.length := by omega
        rw [midL_full] at hrow
        have HR := hide hrow
        clear hrow h
        go_wp2
        go_ret
        exact .inr ⟨rfl, rfl, HR.out, hbel⟩

/-- A reader's block. -/
def rdr (bv : Value) (left dec : Int) (ov : Value) (lit m off mc : Int) (mn : Bool) : Obj :=
  .cells #[bv, .int .u64 left, .int .u64 dec, ov, .int .i64 lit, .int .u64 m, .int .i64 off, .int .u8 mc, .bool mn] 34

set_option maxHeartbeats 400000 in
theorem new_any (w : World) (b o : Option Addr) (bn bc on oc : Nat) (left dec lit m off mc : Int) (mn : Bool) :
    Calls Try.prog 7 #[.slice b bn bc, .int .u64 left, .int .u64 dec, .slice o on oc, .int .i64 lit, .int .u64 m, .int .i64 off, .int .u8 mc, .bool mn] w fun e w' =>
      e = .returned (.pointer (some ⟨w.heap.size, 0, none⟩)) ∧ w' = w.alloc (rdr (.slice b bn bc) left dec (.slice o on oc) lit m off mc mn) := by
  go_enter Try.func7, Try.ntmps7
  go_wp2
  go_ret
  exact ⟨rfl, rfl⟩

theorem rdr_cells {w : World} {z : Nat} {bv ov : Value} {left dec lit m off mc : Int} {mn : Bool} (h : w.heap[z]? = some (rdr bv left dec ov lit m off mc mn)) :
    w.cell? ⟨z, 0, none⟩ = some bv ∧ w.cell? ⟨z, 1, none⟩ = some (.int .u64 left) ∧ w.cell? ⟨z, 2, none⟩ = some (.int .u64 dec) ∧ w.cell? ⟨z, 3, none⟩ = some ov ∧ w.cell? ⟨z, 4, none⟩ = some (.int .i64 lit) ∧
    w.cell? ⟨z, 5, none⟩ = some (.int .u64 m) ∧ w.cell? ⟨z, 6, none⟩ = some (.int .i64 off) ∧ w.cell? ⟨z, 7, none⟩ = some (.int .u8 mc) ∧ w.cell? ⟨z, 8, none⟩ = some (.bool mn) ∧ ∀ o, w.frozen? ⟨z, o, none⟩ = false := by
  simp [World.cell?, World.frozen?, h, rdr]

set_option maxHeartbeats 1000000 in
theorem fields_any (w : World) (z : Nat) (b o : Option Addr) (bn bc on oc : Nat) (left dec lit m off mc : Int) (mn : Bool) (h : w.heap[z]? = some (rdr (.slice b bn bc) left dec (.slice o on oc) lit m off mc mn)) :
    Calls Try.prog 9 #[.pointer (some ⟨z, 0, none⟩)] w fun e w' =>
      e = .returned (.tuple #[.slice b bn bc, .int .u64 left, .int .u64 dec, .slice o on oc, .int .i64 lit, .int .u64 m, .int .i64 off, .int .u8 mc, .bool mn]) ∧ ∃ n, w' = w.drewN n := by
  obtain ⟨h0, h1, h2, h3, h4, h5, h6, h7, h8, -⟩ := rdr_cells h
  clear h
  go_enter Try.func9, Try.ntmps9
  go_wp2
  go_quiet (fail)
  go_wp2
  exact bodyPost_ret (v := .tuple #[.slice b bn bc, .int .u64 left, .int .u64 dec, .slice o on oc, .int .i64 lit, .int .u64 m, .int .i64 off, .int .u8 mc, .bool mn]) (by simp [results, Try.results9, go_sem]) rfl ⟨rfl, nq, rfl⟩

end Go.Proofs.Qxb6602711a
