/-
  copyMatch (12), case r.
-/
import Derived.Test.Qxb6602711aCopy
namespace Go.Proofs.Qxb6602711a
open Go.RowKit

set_option maxHeartbeats 2000000 in
theorem copyMatch_r (w : World) (z g : Nat) (bv : Value) (left dec lit m mc : Int) (mn : Bool) (L : List Int) (e q o n : Nat) (hqe : q + o = e) (h : w.heap[z]? = some (rdr bv left dec (.slice (some ⟨g, 0, none⟩) e L.length) lit m o mc mn))
    (hg : Row w g L) (hL : L.length ≤ 1048576) (ho : 0 < o) (heL : e < L.length) (hmr : (n : Int) < m) (hm1 : m ≤ 18446744073709551615) (hnr : e + n = L.length) :
    Calls Try.prog 12 #[.pointer (some ⟨z, 0, none⟩)] w (CopyOut w z g bv left dec lit m o mc mn L e o n) := by
  obtain ⟨hc0, hc1, hc2, hc3, hc4, hc5, hc6, hc7, hc8, hf⟩ := rdr_cells h
  have hf3 := hf 3
  have hf5 := hf 5
  have hw3 : IntKind.i64.wrap ((n : Nat) : Int) = (n : Int) := by rw [IntKind.wrap_i64]; omega
  have hw4 : IntKind.i64.wrap ((e : Int) - (o : Int)) = (q : Int) := by rw [IntKind.wrap_i64]; omega
  have heq : e - q = o := by omega
  have hq1 : (q : Int) ≤ (e : Int) := by omega
  have hq2 : (e : Int) ≤ (L.length : Int) := by omega
  have hLn : (L.length : Int) - (e : Int) = (n : Int) := by omega
  have hw2 : IntKind.u64.wrap ((n : Nat) : Int) = (n : Int) := by rw [IntKind.wrap_u64]; omega
  have hw5 : IntKind.u64.wrap (m - (n : Int)) = m - (n : Int) := by rw [IntKind.wrap_u64]; omega
  have htn : ((e : Int) + (n : Int)).toNat = e + n := by omega
  have hne := row_ne h hg
  have hnb : e + n ≤ L.length := by omega
  have hLq : ¬ L.length = q := by omega
  have hLe : ¬ L.length = e := by omega
  have HQE := hide hqe
  have HZ := hide (fun (W : World) (hW : W.heap = w.heap) => (rdr_set (w := W) (by rw [hW]; exact h)).1 (.slice (some ⟨g, 0, none⟩) (e + n) L.length))
  have HG := hide hg
  clear h hg hf hqe hnr
  go_enter Try.func12, Try.ntmps12
  go_wp2_with fail
  go_quiet (fail)
  go_wp2_with fail
  obtain ⟨W0, hW0⟩ : ∃ W0, W0 = (w.drewN nq).setCell ⟨z, 3, none⟩ (.slice (some ⟨g, 0, none⟩) (e + n) L.length) := ⟨_, rfl⟩
  rw [← hW0]
  have hz0 : W0.heap[z]? = some (rdr bv left dec (.slice (some ⟨g, 0, none⟩) (e + n) L.length) lit m o mc mn) := by rw [hW0]; exact HZ.out (w.drewN nq) rfl
  have hr0 : Row W0 g L := by unfold Row; rw [hW0, Below.heap_setCell _ _ _ _ (show g ≠ z from hne.symm)]; exact HG.out
  have ho0 : Only (fun k => k = z ∨ k = g) w W0 := by rw [hW0]; exact ((Only.refl _ w).drewN nq).setCell (p := ⟨z, 3, none⟩) (.inl rfl) _
  clear hW0 HZ HG hc0 hc1 hc2 hc3 hc4 hc5 hc6 hc7 hc8 hf3 hf5
  obtain ⟨-, -, -, hd3, -, hd5, hd6, -, -, hdf⟩ := rdr_cells hz0
  -- the first copy
  obtain ⟨S1, hS1⟩ : ∃ S1, S1 = (L.drop q).take (min n o) := ⟨_, rfl⟩
  have hl1 : S1.length = min n o := by rw [hS1]; simp; have := HQE.out; omega
  have HF1 : Hid (splice L e S1 = F L e o (min n o)) := hide (by have := HQE.out; rw [hS1, ← F_first L e o (min n o) ho (by omega) (by omega) (by omega), show e - o = q by omega])
  have HS1 : Hid (∀ j, j < S1.length → q + j < L.length ∧ S1.getD j 0 = L.getD (q + j) 0) := hide (fun j hj => ⟨by have := HQE.out; omega, by rw [hS1]; exact sub_getD _ _ _ _ (by omega)⟩)
  have HL1 : Hid (S1.length = min n o) := hide hl1
  have hl2 : S1.length ≤ n := by omega
  have hl3 : S1.length ≤ o := by omega
  have HZ0 := hide hz0
  have HR0 := hide hr0
  have HO0 := hide ho0
  clear hS1 hl1 hz0 hr0 ho0
  go_region_law (refine step_copy_bytes rfl (.tmp 46) (.tmp 58) rfl (some ⟨g, e, none⟩) (some ⟨g, q, none⟩) n (L.length - e) o (L.length - q) (by simp [Act.eval, Act.put]) (by simp [Act.eval, Act.put]) g e q L S1 (by exact HR0.out) (by rw [HL1.out]; exact Nat.min_comm _ _) (fun _ => ⟨rfl, rfl⟩) (by exact HS1.out) (by omega) ?_; intro w1 hr1 ho1; have HR1 := hide hr1; have HO1 := hide ho1; clear hr1 ho1)
  all_goals
    have HC : CpMid w z g (rdr bv left dec (.slice (some ⟨g, 0, none⟩) (e + n) L.length) lit m o mc mn) L e o n (.int .i64 S1.length) w1 := CpMid.start HZ0.out hne ho HL1.out HF1.out HO0.out HR1.out (by have := HO1.out; exact ⟨this.os, this.tape, this.output, this.size, this.block⟩)
    clear HR1 HO1 HZ0 HR0 HO0 HL1 HF1 HS1 hd3 hd5 hd6 hdf
    go_wp2_with fail
    go_simp
    go_loopw [5] (fun dv wr => CpMid w z g (rdr bv left dec (.slice (some ⟨g, 0, none⟩) (e + n) L.length) lit m o mc mn) L e o n dv wr) (fun dv _ => n - (intOf dv).toNat)
    case atStart => exact HC
    case round =>
      obtain ⟨d, rfl, hdn, hod, hd0, hz, hr, hon⟩ := hrel
      clear HC
      by_cases hlt : d < n
      · have hlt' : (d : Int) < (n : Int) := by omega
        obtain ⟨S2, hS2⟩ : ∃ S2, S2 = ((F L e o d).drop e).take (min (n - d) d) := ⟨_, rfl⟩
        have hl2 : S2.length = min (n - d) d := by rw [hS2]; simp [F_length]; omega
        have HS3 : Hid (∀ j, j < S2.length → e + j < (F L e o d).length ∧ S2.getD j 0 = (F L e o d).getD (e + j) 0) := hide (fun j hj => ⟨by rw [F_length]; omega, by rw [hS2]; exact sub_getD _ _ _ _ (by omega)⟩)
        have HZ := hide hz
        have HR := hide hr
        have HON := hide hon
        have HS2 := hide hS2
        have HL2 := hide hl2
        have HOD := hide hod
        have HD0 := hide hd0
        have hl3 : S2.length ≤ n - d := by omega
        have hwr : IntKind.i64.wrap ((d : Int) + (S2.length : Int)) = (d : Int) + (S2.length : Int) := by rw [IntKind.wrap_i64]; omega
        have hnd : ¬ L.length - e = d := by omega
        have hdc : (d : Int) ≤ ((L.length - e : Nat) : Int) := by omega
        have hdc2 : d ≤ L.length - e := by omega
        have hdp : 0 < S2.length := by omega
        have hfit : e + d + S2.length ≤ (F L e o d).length := by rw [F_length]; omega
        clear hz hr hon hS2 hl2 hod hd0
        go_wp2_with fail
        go_region_law (refine step_copy_bytes rfl (.tmp 66) (.tmp 69) rfl (some ⟨g, e + d, none⟩) (some ⟨g, e, none⟩) (n - d) (L.length - e - d) d (L.length - e) (by simp [Act.eval, Act.put]) (by simp [Act.eval, Act.put]) g (e + d) e (F L e o d) S2 (by exact HR.out) (by rw [HL2.out]; exact Nat.min_comm _ _) (fun _ => ⟨rfl, rfl⟩) (by exact HS3.out) (by exact hfit) ?_; intro w2 hr2 ho2; have HR2 := hide hr2; have HO2 := hide ho2; clear hr2 ho2)
        all_goals
          go_simp
          go_roundw
          case rel =>
            (repeat apply Exists.intro)
            exact ⟨CpMid.more HZ.out hne hlt HOD.out HD0.out hnb HS2.out HL2.out HON.out HR2.out (by have := HO2.out; exact ⟨this.os, this.tape, this.output, this.size, this.block⟩), rfl⟩
          case measure => simp [intOf]; omega
      · obtain rfl : d = n := by omega
        obtain ⟨-, -, -, -, -, hd5, -, -, -, hdf⟩ := rdr_cells hz
        have hdf5 := hdf 5
        have HZ := hide hz
        have HR := hide hr
        have HON := hide hon
        clear hz hr hon hod hd0 hdf
        go_wp2_with fail
        have hz5 := (rdr_set HZ.out).2.1 ((m - (d : Int)))
        refine (wrote_any _ z d _ _ _ _ _ _ _ _ _ hz5 (by omega)).mono ?_
        rintro x w' ⟨rfl, rfl⟩
        go_wp2_with fail
        go_end0
        obtain ⟨a1, a2, a3⟩ := wrote_end (n := (d : Int)) HZ.out HR.out HON.out ((m - (d : Int)))
        exact ⟨rfl, a1, a2, a3⟩

end Go.Proofs.Qxb6602711a
