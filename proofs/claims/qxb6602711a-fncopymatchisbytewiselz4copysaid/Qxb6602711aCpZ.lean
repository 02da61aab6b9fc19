/-
  copyMatch (12), no room; the door (8).
-/
import Derived.Test.Qxb6602711aCpM
import Derived.Test.Qxb6602711aCpR
namespace Go.Proofs.Qxb6602711a
open Go.RowKit

set_option maxHeartbeats 2000000 in
theorem copyMatch_z (w : World) (z g : Nat) (bv : Value) (left dec lit m mc : Int) (mn : Bool) (L : List Int) (e q o : Nat) (hqe : q + o = e) (h : w.heap[z]? = some (rdr bv left dec (.slice (some ⟨g, 0, none⟩) e L.length) lit m o mc mn))
    (hg : Row w g L) (hL : L.length ≤ 1048576) (ho : 0 < o) (heL : L.length = e) (hm0 : m = 0 ∨ 0 < m) (hm1 : m ≤ 18446744073709551615) :
    Calls Try.prog 12 #[.pointer (some ⟨z, 0, none⟩)] w (CopyOut w z g bv left dec lit m o mc mn L e o 0) := by
  obtain ⟨hc0, hc1, hc2, hc3, hc4, hc5, hc6, hc7, hc8, hf⟩ := rdr_cells h
  have hf3 := hf 3
  have hf5 := hf 5
  have hw4 : IntKind.i64.wrap ((e : Int) - (o : Int)) = (q : Int) := by rw [IntKind.wrap_i64]; omega
  have hw5 : IntKind.u64.wrap m = m := by rw [IntKind.wrap_u64]; omega
  have hw0 : IntKind.u64.wrap 0 = 0 := by decide
  have hw6 : IntKind.i64.wrap 0 = 0 := by decide
  have hwe' : wrap64 (e : Int) = (e : Int) := by unfold wrap64; omega
  have he20 : e ≤ 1048576 := by omega
  have heq : e - q = o := by omega
  have hq1 : (q : Int) ≤ (e : Int) := by omega
  have hne := row_ne h hg
  have hqe' : ¬ e = q := by omega
  have HQE := hide hqe
  have HHL := hide heL
  rw [heL] at h hc3
  have HZ := hide (fun (W : World) (hW : W.heap = w.heap) => (rdr_set (w := W) (by rw [hW]; exact h)).1 (.slice (some ⟨g, 0, none⟩) e e))
  have HG := hide hg
  clear h hg hf hqe heL
  go_enter Try.func12, Try.ntmps12
  rcases hm0 with rfl | hm0
  · go_wp2_with fail
    go_quiet (fail)
    go_wp2_with fail
    obtain ⟨W0, hW0⟩ : ∃ W0, W0 = (w.drewN nq).setCell ⟨z, 3, none⟩ (.slice (some ⟨g, 0, none⟩) e e) := ⟨_, rfl⟩
    rw [← hW0]
    have hz0 : W0.heap[z]? = some (rdr bv left dec (.slice (some ⟨g, 0, none⟩) e e) lit 0 o mc mn) := by rw [hW0]; exact HZ.out (w.drewN nq) rfl
    have hr0 : Row W0 g L := by unfold Row; rw [hW0, Below.heap_setCell _ _ _ _ (show g ≠ z from hne.symm)]; exact HG.out
    have ho0 : Only (fun k => k = z ∨ k = g) w W0 := by rw [hW0]; exact ((Only.refl _ w).drewN nq).setCell (p := ⟨z, 3, none⟩) (.inl rfl) _
    clear hW0 HZ HG hc0 hc1 hc2 hc3 hc4 hc5 hc6 hc7 hc8 hf3 hf5
    obtain ⟨-, -, -, hd3, -, hd5, hd6, -, -, hdf⟩ := rdr_cells hz0
    have HZ0 := hide hz0
    have HR0 := hide hr0
    have HO0 := hide ho0
    clear hz0 hr0 ho0
    go_region_law (refine step_copy_bytes rfl (.tmp 46) (.tmp 58) rfl (some ⟨g, 0, none⟩) (some ⟨g, q, none⟩) 0 0 o (e - q) (by simp [Act.eval, Act.put]) (by simp [Act.eval, Act.put, heq]) g 0 q L [] (by exact HR0.out) (by simp) (fun h => absurd h (by decide)) (fun j hj => absurd hj (by simp)) (by simp) ?_; intro w1 hr1 ho1; have HR1 := hide hr1; have HO1 := hide ho1; clear hr1 ho1)
    all_goals
      have HC : CpMid w z g (rdr bv left dec (.slice (some ⟨g, 0, none⟩) e e) lit 0 o mc mn) L e o 0 (.int .i64 0) w1 := CpMid.start (S := []) HZ0.out hne ho (by simp) (by simp [splice, F_zero]) HO0.out (by have := HR1.out; simpa [splice] using this) (by have := HO1.out; exact ⟨this.os, this.tape, this.output, this.size, this.block⟩)
      clear HR1 HO1 HZ0 HR0 HO0 hd3 hd5 hd6 hdf
      go_wp2_with fail
      go_simp
      go_loopw [5] (fun dv wr => CpMid w z g (rdr bv left dec (.slice (some ⟨g, 0, none⟩) e e) lit 0 o mc mn) L e o 0 dv wr) (fun dv _ => 0)
      case atStart => exact HC
      case round =>
        obtain ⟨d, rfl, hdn, hod, hd0, hz, hr, hon⟩ := hrel
        clear HC
        obtain rfl : d = 0 := by omega
        obtain ⟨-, -, -, -, -, hd5, -, -, -, hdf⟩ := rdr_cells hz
        have hdf5 := hdf 5
        have HZ := hide hz
        have HR := hide hr
        have HON := hide hon
        clear hz hr hon hod hd0 hdf
        go_wp2_with fail
        have hz5 := (rdr_set HZ.out).2.1 0
        refine (wrote_any _ z 0 _ _ _ _ _ _ _ _ _ hz5 (by omega)).mono ?_
        rintro x w' ⟨rfl, hw'⟩
        have HW := hide hw'
        clear hw'
        go_wp2_with fail
        go_end0
        obtain ⟨a1, a2, a3⟩ := wrote_end (n := ((0 : Nat) : Int)) HZ.out HR.out HON.out 0
        rw [HW.out]
        refine ⟨rfl, ?_, a2, a3⟩
        rw [HHL.out, show (0 : Int) - ((0 : Nat) : Int) = 0 from by simp]
        exact a1
  · go_wp2_with fail
    go_quiet (fail)
    go_wp2_with fail
    obtain ⟨W0, hW0⟩ : ∃ W0, W0 = (w.drewN nq).setCell ⟨z, 3, none⟩ (.slice (some ⟨g, 0, none⟩) e e) := ⟨_, rfl⟩
    rw [← hW0]
    have hz0 : W0.heap[z]? = some (rdr bv left dec (.slice (some ⟨g, 0, none⟩) e e) lit m o mc mn) := by rw [hW0]; exact HZ.out (w.drewN nq) rfl
    have hr0 : Row W0 g L := by unfold Row; rw [hW0, Below.heap_setCell _ _ _ _ (show g ≠ z from hne.symm)]; exact HG.out
    have ho0 : Only (fun k => k = z ∨ k = g) w W0 := by rw [hW0]; exact ((Only.refl _ w).drewN nq).setCell (p := ⟨z, 3, none⟩) (.inl rfl) _
    clear hW0 HZ HG hc0 hc1 hc2 hc3 hc4 hc5 hc6 hc7 hc8 hf3 hf5
    obtain ⟨-, -, -, hd3, -, hd5, hd6, -, -, hdf⟩ := rdr_cells hz0
    have HZ0 := hide hz0
    have HR0 := hide hr0
    have HO0 := hide ho0
    clear hz0 hr0 ho0
    go_region_law (refine step_copy_bytes rfl (.tmp 46) (.tmp 58) rfl (some ⟨g, 0, none⟩) (some ⟨g, q, none⟩) 0 0 o (e - q) (by simp [Act.eval, Act.put]) (by simp [Act.eval, Act.put, heq]) g 0 q L [] (by exact HR0.out) (by simp) (fun h => absurd h (by decide)) (fun j hj => absurd hj (by simp)) (by simp) ?_; intro w1 hr1 ho1; have HR1 := hide hr1; have HO1 := hide ho1; clear hr1 ho1)
    all_goals
      have HC : CpMid w z g (rdr bv left dec (.slice (some ⟨g, 0, none⟩) e e) lit m o mc mn) L e o 0 (.int .i64 0) w1 := CpMid.start (S := []) HZ0.out hne ho (by simp) (by simp [splice, F_zero]) HO0.out (by have := HR1.out; simpa [splice] using this) (by have := HO1.out; exact ⟨this.os, this.tape, this.output, this.size, this.block⟩)
      clear HR1 HO1 HZ0 HR0 HO0 hd3 hd5 hd6 hdf
      go_wp2_with fail
      go_simp
      go_loopw [5] (fun dv wr => CpMid w z g (rdr bv left dec (.slice (some ⟨g, 0, none⟩) e e) lit m o mc mn) L e o 0 dv wr) (fun dv _ => 0)
      case atStart => exact HC
      case round =>
        obtain ⟨d, rfl, hdn, hod, hd0, hz, hr, hon⟩ := hrel
        clear HC
        obtain rfl : d = 0 := by omega
        obtain ⟨-, -, -, -, -, hd5, -, -, -, hdf⟩ := rdr_cells hz
        have hdf5 := hdf 5
        have HZ := hide hz
        have HR := hide hr
        have HON := hide hon
        clear hz hr hon hod hd0 hdf
        go_wp2_with fail
        have hz5 := (rdr_set HZ.out).2.1 m
        refine (wrote_any _ z 0 _ _ _ _ _ _ _ _ _ hz5 (by omega)).mono ?_
        rintro x w' ⟨rfl, hw'⟩
        have HW := hide hw'
        clear hw'
        go_wp2_with fail
        go_end0
        obtain ⟨a1, a2, a3⟩ := wrote_end (n := ((0 : Nat) : Int)) HZ.out HR.out HON.out m
        rw [HW.out]
        refine ⟨rfl, ?_, a2, a3⟩
        rw [HHL.out, show (m : Int) - ((0 : Nat) : Int) = m from by simp]
        exact a1

end Go.Proofs.Qxb6602711a
