/-
  copyMatch (12), wrote (13), the door (8).
-/
import Derived.Test.Qxb6602711aWalks
import Derived.Deep.RegionLaw
namespace Go.Proofs.Qxb6602711a
open Go.RowKit

theorem splice_cells (R S : List Int) (off : Nat) : splice (cellsB R) off (cellsB S) = cellsB (splice R off S) := by
  simp [splice, cellsB]

/-- copy within one row of bytes, as one step of a region that draws. -/
theorem step_copy_bytes {ops : Array Oper} {o : Oper} {a : Act} {w : World} {K : Act → World → Prop} {Q : Exit → Act → World → Prop} {E : Prop} (hgd : o.guard = none) (d s : Operand)
    (ho : o.op = .call { callee := .builtin .copy, args := #[d, s], argTypes := #[22, 22] }) (dp sp : Option Addr) (dLen dCap sLen sCap : Nat) (hd : a.eval d = .slice dp dLen dCap) (hs : a.eval s = .slice sp sLen sCap)
    (g off so : Nat) (R S : List Int) (hrow : Row w g R) (hn : S.length = Nat.min sLen dLen)
    (hpos : 0 < S.length → dp = some ⟨g, off, none⟩ ∧ sp = some ⟨g, so, none⟩) (hsrc : ∀ j, j < S.length → so + j < R.length ∧ S.getD j 0 = R.getD (so + j) 0) (hfit : off + S.length ≤ R.length)
    (h : ∀ w', Row w' g (splice R off S) → Only (· = g) w w' → K (a.put o.dst (goInt S.length)) w') :
    if Region.wanted o (yielded ops a.tmps) = true then Oper.wp Try.prog o a w K Q else E := by
  have hw : Region.wanted o (yielded ops a.tmps) = true := by simp [Region.wanted, hgd]
  rw [if_pos hw]
  by_cases h0 : S.length = 0
  · obtain rfl : S = [] := List.eq_nil_of_length_eq_zero h0
    have hrun := run_copy_none (P := Try.prog) w 22 22 o.type 5 dp sp dLen dCap sLen sCap Try.underlying22 size5 (by simpa using hn.symm)
    unfold Oper.wp
    simp [execOp, ho, resolve, invoke, builtin, hd, hs, hrun, Result.andThen]
    exact h w (by simpa [splice] using hrow) (Only.refl _ _)
  · obtain ⟨rfl, rfl⟩ := hpos (by omega)
    have hrun := run_copy_row (P := Try.prog) w 22 22 o.type 5 g off dLen dCap ⟨g, so, none⟩ sLen sCap (rowA R) 5 (cellsB S) Try.underlying22 size5 hrow (by rw [length_cellsB]; exact hn)
      (fun j v hv => by
        obtain ⟨hj, rfl⟩ := cellsB_get S j v hv
        obtain ⟨h1, h2⟩ := hsrc j hj
        rw [Addr.add_lit, h2]
        exact hrow.cell _ h1) (by rw [length_cellsB, rowA_size]; exact hfit) (cellsB_one S)
    unfold Oper.wp
    simp [execOp, ho, resolve, invoke, builtin, hd, hs, hrun, Result.andThen]
    have e : (rowA R).toList.take off ++ (cellsB S ++ (rowA R).toList.drop (off + (cellsB S).length)) = cellsB (splice R off S) := by
      rw [← splice_cells]; simp [splice, rowA]
    rw [length_cellsB] at *
    refine h _ ?_ ⟨rfl, rfl, rfl, by simp, fun k _ hk => setRow_other w g k _ hk⟩
    unfold Row
    rw [e]
    exact setRow_heap w g (rowA R) _ 5 _ hrow

theorem rdr_set {w : World} {z : Nat} {bv ov : Value} {left dec lit m off mc : Int} {mn : Bool} (h : w.heap[z]? = some (rdr bv left dec ov lit m off mc mn)) :
    (∀ v, (w.setCell ⟨z, 3, none⟩ v).heap[z]? = some (rdr bv left dec v lit m off mc mn)) ∧ (∀ v, (w.setCell ⟨z, 5, none⟩ (.int .u64 v)).heap[z]? = some (rdr bv left dec ov lit v off mc mn)) ∧
    (∀ v, (w.setCell ⟨z, 2, none⟩ (.int .u64 v)).heap[z]? = some (rdr bv left v ov lit m off mc mn)) ∧ (∀ v, (w.setCell ⟨z, 1, none⟩ (.int .u64 v)).heap[z]? = some (rdr bv v dec ov lit m off mc mn)) := by
  refine ⟨fun v => ?_, fun v => ?_, fun v => ?_, fun v => ?_⟩ <;> simp [World.setCell, Array.getElem?_modify, h, rdr]

set_option maxHeartbeats 400000 in
theorem wrote_any (w : World) (z n : Nat) (bv ov : Value) (left dec lit m off mc : Int) (mn : Bool) (h : w.heap[z]? = some (rdr bv left dec ov lit m off mc mn)) (hn : n ≤ 1048576) :
    Calls Try.prog 13 #[.pointer (some ⟨z, 0, none⟩), .int .i64 n] w fun e w' =>
      e = .returned (.tuple #[]) ∧ w' = (w.setCell ⟨z, 2, none⟩ (.int .u64 (IntKind.u64.wrap (dec + n)))).setCell ⟨z, 1, none⟩ (.int .u64 (IntKind.u64.wrap (left - n))) := by
  obtain ⟨-, h1, h2, -, -, -, -, -, -, hf⟩ := rdr_cells h
  have hf1 := hf 1
  have hf2 := hf 2
  clear h hf
  go_enter Try.func13, Try.ntmps13
  go_wp2
  go_end0
  exact ⟨rfl, rfl⟩

/-- What copyMatch leaves. -/
def CopyOut (w : World) (z g : Nat) (bv : Value) (left dec lit m off mc : Int) (mn : Bool) (L : List Int) (e o n : Nat) (x : Ending) (w' : World) : Prop :=
  x = .returned (.tuple #[]) ∧ w'.heap[z]? = some (rdr bv (IntKind.u64.wrap (left - n)) (IntKind.u64.wrap (dec + n)) (.slice (some ⟨g, 0, none⟩) (e + n) L.length) lit (m - n) off mc mn) ∧
  Row w' g (F L e o n) ∧ Only (fun k => k = z ∨ k = g) w w'

/-- The loop of copyMatch. -/
def CpMid (w : World) (z g : Nat) (O : Obj) (L : List Int) (e o n : Nat) (dv : Value) (wr : World) : Prop :=
  ∃ d : Nat, dv = .int .i64 d ∧ d ≤ n ∧ (o ∣ d ∨ d = n) ∧ (0 < d ∨ n = 0) ∧ wr.heap[z]? = some O ∧ Row wr g (F L e o d) ∧ Only (fun k => k = z ∨ k = g) w wr

theorem row_ne {w : World} {z g : Nat} {bv ov : Value} {left dec lit m off mc : Int} {mn : Bool} {L : List Int} (h : w.heap[z]? = some (rdr bv left dec ov lit m off mc mn)) (hg : Row w g L) : z ≠ g := fun e => by
  subst e
  rw [show w.heap[z]? = _ from hg] at h
  simp [rdr] at h

theorem wrote_end {wr : World} {w : World} {z g : Nat} {bv ov : Value} {left dec lit m off mc n : Int} {mn : Bool} {R : List Int} (hz : wr.heap[z]? = some (rdr bv left dec ov lit m off mc mn)) (hr : Row wr g R) (ho : Only (fun k => k = z ∨ k = g) w wr) (m' : Int) :
    let w' := ((wr.setCell ⟨z, 5, none⟩ (.int .u64 m')).setCell ⟨z, 2, none⟩ (.int .u64 (IntKind.u64.wrap (dec + n)))).setCell ⟨z, 1, none⟩ (.int .u64 (IntKind.u64.wrap (left - n)))
    w'.heap[z]? = some (rdr bv (IntKind.u64.wrap (left - n)) (IntKind.u64.wrap (dec + n)) ov lit m' off mc mn) ∧ Row w' g R ∧ Only (fun k => k = z ∨ k = g) w w' := by
  intro w'
  have hne := row_ne hz hr
  have h1 := (rdr_set hz).2.1 m'
  have h2 := (rdr_set h1).2.2.1 (IntKind.u64.wrap (dec + n))
  have h3 := (rdr_set h2).2.2.2 (IntKind.u64.wrap (left - n))
  refine ⟨h3, ?_, ((ho.setCell (p := ⟨z, 5, none⟩) (.inl rfl) _).setCell (p := ⟨z, 2, none⟩) (.inl rfl) _).setCell (p := ⟨z, 1, none⟩) (.inl rfl) _⟩
  unfold Row
  rw [Below.heap_setCell _ _ _ _ (show g ≠ z from hne.symm), Below.heap_setCell _ _ _ _ (show g ≠ z from hne.symm), Below.heap_setCell _ _ _ _ (show g ≠ z from hne.symm)]
  exact hr

theorem CpMid.start {w W0 w1 : World} {z g : Nat} {O : Obj} {L S : List Int} {e o n : Nat} (hz : W0.heap[z]? = some O) (hne : z ≠ g) (ho : 0 < o) (hl : S.length = min n o) (hF : splice L e S = F L e o (min n o)) (h0 : Only (fun k => k = z ∨ k = g) w W0)
    (hr : Row w1 g (splice L e S)) (h1 : Only (· = g) W0 w1) : CpMid w z g O L e o n (.int .i64 S.length) w1 := by
  refine ⟨S.length, rfl, by omega, ?_, by omega, ?_, ?_, h0.trans (h1.mono (fun k hk => .inr hk))⟩
  · rcases Nat.le_total n o with hh | hh
    · exact .inr (by omega)
    · exact .inl ⟨1, by omega⟩
  · rw [h1.block z (Array.getElem?_eq_some_iff.1 hz).1 hne]; exact hz
  · rw [hF, ← hl] at hr; exact hr

theorem CpMid.more {w wr w2 : World} {z g : Nat} {O : Obj} {L S : List Int} {e o n d : Nat} (hz : wr.heap[z]? = some O) (hne : z ≠ g) (hd : d < n) (hod : o ∣ d ∨ d = n) (hd0 : 0 < d ∨ n = 0) (he : e + n ≤ L.length)
    (hS : S = ((F L e o d).drop e).take (min (n - d) d)) (hl : S.length = min (n - d) d) (h0 : Only (fun k => k = z ∨ k = g) w wr)
    (hr : Row w2 g (splice (F L e o d) (e + d) S)) (h1 : Only (· = g) wr w2) : CpMid w z g O L e o n (.int .i64 ((d : Int) + (S.length : Int))) w2 := by
  have hod' : o ∣ d := hod.resolve_right (by omega)
  refine ⟨d + S.length, by simp, by omega, ?_, by omega, ?_, ?_, h0.trans (h1.mono (fun k hk => .inr hk))⟩
  · rcases Nat.le_total (n - d) d with hh | hh
    · exact .inr (by omega)
    · left; rw [hl, Nat.min_eq_right hh]; exact Nat.dvd_add hod' hod'
  · rw [h1.block z (Array.getElem?_eq_some_iff.1 hz).1 hne]; exact hz
  · rw [hS, F_more L e o d _ hod' (Nat.min_le_right _ _) (by omega), ← hl] at hr; exact hr

end Go.Proofs.Qxb6602711a
