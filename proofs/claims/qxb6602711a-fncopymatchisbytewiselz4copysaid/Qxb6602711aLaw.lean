/-
  The law (3), all cases.
-/
import Derived.Test.Qxb6602711aLawM
import Derived.Test.Qxb6602711aLawR
namespace Go.Proofs.Qxb6602711a
open Go.RowKit

set_option maxRecDepth 20000 in
set_option maxHeartbeats 1000000 in
theorem law_big (w : World) (a0 a3 : Option Addr) (c0 c3 n0 n3 : Nat) (left dec lit m mc ev ov : Int) (mn : Bool) (hx0 : n0 ≤ maxLen) (hx3 : n3 ≤ maxLen) (hs : ¬ n0 + n3 ≤ 1048576) :
    Calls Try.prog 3 #[.slice a0 n0 c0, .int .u64 left, .int .u64 dec, .slice a3 n3 c3, .int .i64 ev, .int .i64 lit, .int .u64 m, .int .i64 ov, .int .u8 mc, .bool mn] w fun x w' => x = .returned (.bool true) ∧ Below w.heap.size w w' := by
  have k0 := hs
  go_enter Try.func3, Try.ntmps3
  go_wp2_with fail
  refine (sized_any w a0 a3 n0 c0 n3 c3 _ _ _ _ _ _ _ _ hx0 hx3).mono ?_
  rintro x w' ⟨rfl, hw⟩
  have hw := hw.symm
  subst hw
  clear hx0 hx3
  go_wp2_with fail
  go_ret
  exact ⟨rfl, Below.refl _ _⟩

set_option maxRecDepth 20000 in
set_option maxHeartbeats 1000000 in
theorem law_e1 (w : World) (a0 a3 : Option Addr) (c0 c3 n0 n3 : Nat) (left dec lit m mc ev ov : Int) (mn : Bool) (hx0 : n0 ≤ maxLen) (hx3 : n3 ≤ maxLen) (hs : n0 + n3 ≤ 1048576) (he : ev < 0) :
    Calls Try.prog 3 #[.slice a0 n0 c0, .int .u64 left, .int .u64 dec, .slice a3 n3 c3, .int .i64 ev, .int .i64 lit, .int .u64 m, .int .i64 ov, .int .u8 mc, .bool mn] w fun x w' => x = .returned (.bool true) ∧ Below w.heap.size w w' := by
  have k1 : ¬ (1048576 : Int) < (n0 : Int) := by omega
  have k2 : ¬ (1048576 : Int) < (n3 : Int) := by omega
  have k3 : ¬ (1048576 : Int) < (n0 : Int) + (n3 : Int) := by omega
  go_enter Try.func3, Try.ntmps3
  go_wp2_with fail
  refine (sized_any w a0 a3 n0 c0 n3 c3 _ _ _ _ _ _ _ _ hx0 hx3).mono ?_
  rintro x w' ⟨rfl, hw⟩
  have hw := hw.symm
  subst hw
  clear hx0 hx3
  go_wp2_with fail
  go_ret
  exact ⟨rfl, Below.refl _ _⟩

set_option maxRecDepth 20000 in
set_option maxHeartbeats 1000000 in
theorem law_e2 (w : World) (a0 a3 : Option Addr) (c0 c3 n0 n3 : Nat) (left dec lit m mc ev ov : Int) (mn : Bool) (hx0 : n0 ≤ maxLen) (hx3 : n3 ≤ maxLen) (hs : n0 + n3 ≤ 1048576) (he0 : ¬ ev < 0) (he : (n3 : Int) < ev) :
    Calls Try.prog 3 #[.slice a0 n0 c0, .int .u64 left, .int .u64 dec, .slice a3 n3 c3, .int .i64 ev, .int .i64 lit, .int .u64 m, .int .i64 ov, .int .u8 mc, .bool mn] w fun x w' => x = .returned (.bool true) ∧ Below w.heap.size w w' := by
  have k1 : ¬ (1048576 : Int) < (n0 : Int) := by omega
  have k2 : ¬ (1048576 : Int) < (n3 : Int) := by omega
  have k3 : ¬ (1048576 : Int) < (n0 : Int) + (n3 : Int) := by omega
  go_enter Try.func3, Try.ntmps3
  go_wp2_with fail
  refine (sized_any w a0 a3 n0 c0 n3 c3 _ _ _ _ _ _ _ _ hx0 hx3).mono ?_
  rintro x w' ⟨rfl, hw⟩
  have hw := hw.symm
  subst hw
  clear hx0 hx3
  go_wp2_with fail
  go_ret
  exact ⟨rfl, Below.refl _ _⟩

set_option maxRecDepth 20000 in
set_option maxHeartbeats 1000000 in
theorem law_e3 (w : World) (a0 a3 : Option Addr) (c0 c3 n0 n3 : Nat) (left dec lit m mc ev ov : Int) (mn : Bool) (hx0 : n0 ≤ maxLen) (hx3 : n3 ≤ maxLen) (hs : n0 + n3 ≤ 1048576) (he0 : ¬ ev < 0) (he : ¬ (n3 : Int) < ev) (ho : ov < 1) :
    Calls Try.prog 3 #[.slice a0 n0 c0, .int .u64 left, .int .u64 dec, .slice a3 n3 c3, .int .i64 ev, .int .i64 lit, .int .u64 m, .int .i64 ov, .int .u8 mc, .bool mn] w fun x w' => x = .returned (.bool true) ∧ Below w.heap.size w w' := by
  have k1 : ¬ (1048576 : Int) < (n0 : Int) := by omega
  have k2 : ¬ (1048576 : Int) < (n3 : Int) := by omega
  have k3 : ¬ (1048576 : Int) < (n0 : Int) + (n3 : Int) := by omega
  go_enter Try.func3, Try.ntmps3
  go_wp2_with fail
  refine (sized_any w a0 a3 n0 c0 n3 c3 _ _ _ _ _ _ _ _ hx0 hx3).mono ?_
  rintro x w' ⟨rfl, hw⟩
  have hw := hw.symm
  subst hw
  clear hx0 hx3
  go_wp2_with fail
  go_ret
  exact ⟨rfl, Below.refl _ _⟩

set_option maxRecDepth 20000 in
set_option maxHeartbeats 1000000 in
theorem law_e4 (w : World) (a0 a3 : Option Addr) (c0 c3 n0 n3 : Nat) (left dec lit m mc ev ov : Int) (mn : Bool) (hx0 : n0 ≤ maxLen) (hx3 : n3 ≤ maxLen) (hs : n0 + n3 ≤ 1048576) (he0 : ¬ ev < 0) (he : ¬ (n3 : Int) < ev) (ho0 : ¬ ov < 1) (ho : ev < ov) :
    Calls Try.prog 3 #[.slice a0 n0 c0, .int .u64 left, .int .u64 dec, .slice a3 n3 c3, .int .i64 ev, .int .i64 lit, .int .u64 m, .int .i64 ov, .int .u8 mc, .bool mn] w fun x w' => x = .returned (.bool true) ∧ Below w.heap.size w w' := by
  have k1 : ¬ (1048576 : Int) < (n0 : Int) := by omega
  have k2 : ¬ (1048576 : Int) < (n3 : Int) := by omega
  have k3 : ¬ (1048576 : Int) < (n0 : Int) + (n3 : Int) := by omega
  go_enter Try.func3, Try.ntmps3
  go_wp2_with fail
  refine (sized_any w a0 a3 n0 c0 n3 c3 _ _ _ _ _ _ _ _ hx0 hx3).mono ?_
  rintro x w' ⟨rfl, hw⟩
  have hw := hw.symm
  subst hw
  clear hx0 hx3
  go_wp2_with fail
  go_ret
  exact ⟨rfl, Below.refl _ _⟩

theorem law_all (w : World) (a0 a3 : Option Addr) (c0 c3 : Nat) (l0 L : List Int) (left dec lit m mc ev ov : Int) (mn : Bool) (h0 : BS w a0 c0 l0) (h3 : BS w a3 c3 L) (hm0 : 0 ≤ m) (hm1 : m ≤ 18446744073709551615) :
    Calls Try.prog 3 #[.slice a0 l0.length c0, .int .u64 left, .int .u64 dec, .slice a3 L.length c3, .int .i64 ev, .int .i64 lit, .int .u64 m, .int .i64 ov, .int .u8 mc, .bool mn] w fun x w' => x = .returned (.bool true) ∧ Below w.heap.size w w' := by
  have hx0 : l0.length ≤ maxLen := Nat.le_trans h0.le h0.max
  have hx3 : L.length ≤ maxLen := Nat.le_trans h3.le h3.max
  by_cases hs : l0.length + L.length ≤ 1048576
  · by_cases he1 : ev < 0
    · exact law_e1 w a0 a3 c0 c3 _ _ left dec lit m mc ev ov mn hx0 hx3 hs he1
    · by_cases he2 : (L.length : Int) < ev
      · exact law_e2 w a0 a3 c0 c3 _ _ left dec lit m mc ev ov mn hx0 hx3 hs he1 he2
      · by_cases ho1 : ov < 1
        · exact law_e3 w a0 a3 c0 c3 _ _ left dec lit m mc ev ov mn hx0 hx3 hs he1 he2 ho1
        · by_cases ho2 : ev < ov
          · exact law_e4 w a0 a3 c0 c3 _ _ left dec lit m mc ev ov mn hx0 hx3 hs he1 he2 ho1 ho2
          · obtain ⟨e, rfl⟩ : ∃ e : Nat, ev = e := ⟨ev.toNat, by omega⟩
            obtain ⟨o, rfl⟩ : ∃ o : Nat, ov = o := ⟨ov.toNat, by omega⟩
            by_cases hlt : m < (L.length : Int) - (e : Int)
            · exact law_m w a0 a3 c0 c3 l0 L left dec lit m mc mn e o m.toNat h0 h3 hs (by omega) (by omega) (by omega) hm0 hm1 (by omega) (by omega)
            · exact law_r w a0 a3 c0 c3 l0 L left dec lit m mc mn e o (L.length - e) h0 h3 hs (by omega) (by omega) (by omega) hm0 hm1 (by omega) (by omega)
  · exact law_big w a0 a3 c0 c3 _ _ left dec lit m mc ev ov mn hx0 hx3 hs

end Go.Proofs.Qxb6602711a
