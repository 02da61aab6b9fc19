/-
  The law (3), case r.
-/
import Derived.Test.Qxb6602711aDoor
namespace Go.Proofs.Qxb6602711a
open Go.RowKit

set_option maxHeartbeats 4000000 in
set_option maxRecDepth 20000 in
theorem law_r (w : World) (a0 a3 : Option Addr) (c0 c3 : Nat) (l0 L : List Int) (left dec lit m mc : Int) (mn : Bool) (e o n : Nat) (h0 : BS w a0 c0 l0) (h3 : BS w a3 c3 L) (hsz : l0.length + L.length ≤ 1048576) (ho : 0 < o) (hoe : o ≤ e) (heL : e ≤ L.length) (hm0 : 0 ≤ m) (hm1 : m ≤ 18446744073709551615)
    (hLn : (L.length : Int) - (e : Int) = (n : Int)) (hlt : ¬ m < (n : Int)) :
    Calls Try.prog 3 #[.slice a0 l0.length c0, .int .u64 left, .int .u64 dec, .slice a3 L.length c3, .int .i64 e, .int .i64 lit, .int .u64 m, .int .i64 o, .int .u8 mc, .bool mn] w fun x w' => x = .returned (.bool true) ∧ Below w.heap.size w w' := by
  have q22 : ∀ (w : World) (a : Option Addr) (n c n' c' : Nat), (binOp .eql 22 (.slice a n c) (.slice none n' c')).run Try.prog w = .ok (.bool a.isNone) w := fun w a n c n' c' => Lib.run_eql_slice_nil w _ _ a n c n' c' Try.underlying22
  have HCN : Hid (cnt m L e = n) := hide (by unfold cnt; omega)
  have hwn : IntKind.i64.wrap (n : Int) = (n : Int) := by rw [IntKind.wrap_i64]; omega
  have hwu : IntKind.u64.wrap (n : Int) = (n : Int) := by rw [IntKind.wrap_u64]; omega
  have hw5 : IntKind.u64.wrap (m - (n : Int)) = m - (n : Int) := by rw [IntKind.wrap_u64]; omega
  have k1 : ¬ (1048576 : Int) < (l0.length : Int) := by omega
  have k2 : ¬ (1048576 : Int) < (L.length : Int) := by omega
  have k3 : ¬ (1048576 : Int) < (l0.length : Int) + (L.length : Int) := by omega
  have k4 : ¬ (L.length : Int) < (e : Int) := by omega
  have k5 : ¬ (o : Int) < 1 := by omega
  have k6 : ¬ (e : Int) < (o : Int) := by omega
  have hl0 : l0.length ≤ 1048576 := by omega
  have hL20 : L.length ≤ 1048576 := by omega
  have hLp : 0 < L.length := by omega
  have hend : e + n ≤ L.length := by omega
  have HB := hide h0
  have HB3 := hide h3
  have hx0 := h0.max
  have hx3 := h3.max
  have hy0 := h0.le
  have hy3 := h3.le
  clear h0 h3
  go_enter Try.func3, Try.ntmps3
  go_wp2_with fail
  refine (sized_any w a0 a3 l0.length c0 L.length c3 _ _ _ _ _ _ _ _ (by omega) (by omega)).mono ?_
  rintro x w' ⟨rfl, hw⟩
  have hw := hw.symm
  subst hw
  clear hx0 hx3 hy0 hy3
  go_wp2_with fail
  refine (clone_w w a0 c0 l0 HB.out hl0).mono ?_
  rintro x w1 ⟨a1, rfl, hn1, hb1, hp1, hbel1⟩
  have HB1 := hide hb1
  have HP1 := hide hp1
  have HL1 := hide hbel1
  have HN1 := hide hn1
  clear hb1 hp1 hbel1 hn1
  go_wp2_with fail
  refine (clone_r w1 a3 c3 L (by exact HB3.out.below HL1.out) hL20 hLp).mono ?_
  rintro x w2 ⟨rfl, r2, b2⟩
  have HR2 := hide r2
  have HL2 := hide b2
  clear r2 b2
  go_wp2_with fail
  refine (clone_w w2 a1 l0.length l0 (by exact HB1.out.below HL2.out) hl0).mono ?_
  rintro x w3 ⟨a2, rfl, hn3, hb3, hp3, hbel3⟩
  have HB4 := hide hb3
  have HP3 := hide hp3
  have HL3 := hide hbel3
  have HN3 : Hid (a2.isNone = a1.isNone) := hide hn3
  clear hb3 hp3 hbel3 hn3
  go_wp2_with fail
  refine (clone_r w3 (some ⟨w1.heap.size, 0, none⟩) L.length L (by exact (by have := HR2.out.bs HB3.out.byte L.length L.length (Nat.le_refl _) (Nat.le_refl _) (by unfold maxLen; omega); rw [List.take_length] at this; exact this.below HL3.out)) hL20 hLp).mono ?_
  rintro x w4 ⟨rfl, r4, b4⟩
  have HS : Sit w l0 L (F L e o 0) w1.heap.size w3.heap.size a1 a2 w4 := by rw [F_zero]; exact Sit.make HB1.out HP1.out HL1.out HR2.out HL2.out HB4.out HP3.out HL3.out r4 b4
  have HBY : Hid (Byt L) := hide HB3.out.byte
  clear r4 b4 HB1 HP1 HL1 HR2 HL2 HB4 HP3 HL3 HB HB3
  generalize w1.heap.size = g at HS ⊢
  generalize w3.heap.size = h at HS ⊢
  clear w1 w2 w3
  go_wp2_with fail
  go_loopw [25] (fun i wr => ∃ k : Nat, k ≤ n ∧ i = .int .i64 k ∧ Sit w l0 L (F L e o k) g h a1 a2 wr) (fun i _ => n - (intOf i).toNat)
  case atStart => exact ⟨0, Nat.zero_le _, rfl, HS⟩
  case round =>
    obtain ⟨k, hk, rfl, hs⟩ := hrel
    clear HS
    by_cases hlt2 : k < n
    · have hlt3 : (k : Int) < (n : Int) := by omega
      obtain ⟨p, hp⟩ : ∃ p, p + o = e + k := ⟨e + k - o, by omega⟩
      have hw7 : IntKind.i64.wrap ((e : Int) + (k : Int) - (o : Int)) = (p : Int) := by rw [IntKind.wrap_i64]; omega
      have hw8 : IntKind.i64.wrap ((e : Int) + (k : Int)) = (e : Int) + (k : Int) := by rw [IntKind.wrap_i64]; omega
      have hpl : p < (F L e o k).length := by rw [F_length]; omega
      have hcr := hs.rh.cell p hpl
      have hcw := hs.rh.cell (e + k) (by rw [F_length]; omega)
      have hfw := hs.rh.frozen (e + k)
      have HST : Hid (F L e o (k + 1) = (F L e o k).set (e + k) ((F L e o k).getD p 0)) := hide (by rw [F_step L e o k ho hoe (by omega), show e + k - o = p by omega])
      have HS := hide hs
      generalize (F L e o k).getD p 0 = x at hcr HST
      generalize (F L e o k).getD (e + k) 0 = y at hcw
      have hp1 : (p : Int) < (L.length : Int) := by omega
      have hp2 : (e : Int) + (k : Int) < (L.length : Int) := by omega
      have hp3 : ((e : Int) + (k : Int)).toNat = e + k := by omega
      clear hs hpl hp
      go_wp2_with fail
      go_roundw
      case rel => exact ⟨k + 1, by omega, by go_num, by rw [HST.out]; exact HS.out.setH (e + k) x⟩
      case measure => simp [intOf]; omega
    · obtain rfl : k = n := by omega
      have HS := hide hs
      clear hs
      go_wp2_with fail
      refine (new_any wr a1 (some ⟨g, 0, none⟩) l0.length l0.length e L.length left dec lit m o mc mn).mono ?_
      rintro x w6 ⟨rfl, hw⟩
      obtain ⟨O, hO⟩ : ∃ O, O = rdr (.slice a1 l0.length l0.length) left dec (.slice (some ⟨g, 0, none⟩) e L.length) lit m o mc mn := ⟨_, rfl⟩
      rw [← hO] at hw
      have hz6 : w6.heap[wr.heap.size]? = some (rdr (.slice a1 l0.length l0.length) left dec (.slice (some ⟨g, 0, none⟩) e L.length) lit m o mc mn) := by rw [hw, hO]; exact heap_alloc_new wr _
      have hg6 : Row w6 g L := by rw [hw]; exact (HS.out.alloc O).rg
      have HZ6 := hide hz6
      have HG6 := hide hg6
      have HW6 := hide hw
      clear hz6 hg6 hw hO
      go_wp2_with fail
      refine (door_any w6 wr.heap.size g (.slice a1 l0.length l0.length) left dec lit m mc mn L e o (by exact HZ6.out) (by exact HG6.out) hL20 ho hoe heL (by omega) (by omega)).mono ?_
      rintro x w7 ⟨rfl, hz7, hr7, ho7⟩
      rw [HCN.out] at hz7 hr7
      skip
      have HS7 : Hid (Sit w l0 (F L e o k) (F L e o k) g h a1 a2 w7) := hide (HS.out.copied (O := O) (by rw [← HW6.out]; exact ho7) hr7)
      have HZ7 := hide hz7
      clear hz7 hr7 ho7 HZ6 HG6 HW6 HS HCN
      generalize wr.heap.size = z at HZ7 ⊢
      clear wr w6 O
      go_wp2_with fail
      refine (fields_any w7 z a1 (some ⟨g, 0, none⟩) l0.length l0.length (e + k) L.length _ _ lit (m - (k : Int)) o mc mn (by exact HZ7.out)).mono ?_
      rintro x w8 ⟨rfl, n8, hw⟩
      have HS8 : Hid (Sit w l0 (F L e o k) (F L e o k) g h a1 a2 w8) := hide (by rw [hw]; exact HS7.out.drewN n8)
      clear hw HS7 HZ7
      have hnn : a2.isNone = a1.isNone := HN3.out
      clear HN1 HN3
      go_wp2_with fail
      refine (same_true w8 a1 a2 l0.length l0.length l0 l0.length l0.length (by exact HS8.out.b1) (by exact HS8.out.b2) (by rfl) (by rfl)).mono ?_
      rintro x w9 ⟨rfl, n9, hw⟩
      have HS9 : Hid (Sit w l0 (F L e o k) (F L e o k) g h a1 a2 w9) := hide (by rw [hw]; exact HS8.out.drewN n9)
      clear hw HS8
      have hlen : ((e + k : Nat) : Int) = (e : Int) + (k : Int) := by omega
      have hwk : IntKind.i64.wrap ((e : Int) + (k : Int)) = (e : Int) + (k : Int) := by rw [IntKind.wrap_i64]; omega
      go_wp2_with fail
      have hby : Byt (F L e o k) := F_byt L e o k HBY.out
      refine (same_true w9 (some ⟨g, 0, none⟩) (some ⟨h, 0, none⟩) L.length L.length (F L e o k) L.length L.length (by have := HS9.out.rg.bs hby L.length L.length (by rw [F_length]; exact Nat.le_refl _) (Nat.le_refl _) (by unfold maxLen; omega); rwa [List.take_of_length_le (by rw [F_length]; exact Nat.le_refl _)] at this)
        (by have := HS9.out.rh.bs hby L.length L.length (by rw [F_length]; exact Nat.le_refl _) (Nat.le_refl _) (by unfold maxLen; omega); rwa [List.take_of_length_le (by rw [F_length]; exact Nat.le_refl _)] at this) (by rw [F_length]) (by rw [F_length])).mono ?_
      rintro x w10 ⟨rfl, n10, hw⟩
      have HS10 : Hid (Sit w l0 (F L e o k) (F L e o k) g h a1 a2 w10) := hide (by rw [hw]; exact HS9.out.drewN n10)
      clear hw HS9 hby
      go_wp2_with fail
      go_loopw [36] (fun i wr => ∃ j : Nat, j ≤ e + k ∧ i = .int .i64 j ∧ Sit w l0 (F L e o k) (F L e o k) g h a1 a2 wr) (fun i _ => e + k - (intOf i).toNat)
      case atStart => exact ⟨0, Nat.zero_le _, rfl, HS10.out⟩
      case round =>
        obtain ⟨j, hj, rfl, hs⟩ := hrel
        clear HS10
        by_cases hlt5 : j < e + k
        · have hlt6 : (j : Int) < ((e + k : Nat) : Int) := by omega
          have hlt7 : (j : Int) < (L.length : Int) := by omega
          have hj0 : (0 : Int) ≤ (j : Int) := by omega
          have hlt8 : (j : Int) < (e : Int) + (k : Int) := by omega
          have hc1 := hs.rg.cell j (by rw [F_length]; omega)
          have hc2 := hs.rh.cell j (by rw [F_length]; omega)
          have HS := hide hs
          generalize (F L e o k).getD j 0 = x at hc1 hc2
          clear hs
          go_wp2_with fail
          go_quiet (fail)
          go_wp2_with fail
          go_roundw
          case rel => exact ⟨j + 1, by omega, by go_num, HS.out.drewN _⟩
          case measure => simp [intOf]; omega
        · obtain rfl : j = e + k := by omega
          have HS := hide hs
          clear hs
          have e1 : ∀ x : Int, (x == x) = true := fun x => beq_self_eq_true x
          go_wp2_with fail
          go_ret
          exact ⟨rfl, HS.out.below⟩

end Go.Proofs.Qxb6602711a
