/-
  The door (8), the bound (5), and what holds in the law's worlds ('Sit').
-/
import Derived.Test.Qxb6602711aCpZ
namespace Go.Proofs.Qxb6602711a
open Go.RowKit

/-- How many bytes are written. -/
def cnt (m : Int) (L : List Int) (e : Nat) : Nat := min m.toNat (L.length - e)

theorem copyMatch_any (w : World) (z g : Nat) (bv : Value) (left dec lit m mc : Int) (mn : Bool) (L : List Int) (e o : Nat) (h : w.heap[z]? = some (rdr bv left dec (.slice (some ⟨g, 0, none⟩) e L.length) lit m o mc mn))
    (hg : Row w g L) (hL : L.length ≤ 1048576) (ho : 0 < o) (hoe : o ≤ e) (heL : e ≤ L.length) (hm0 : 0 ≤ m) (hm1 : m ≤ 18446744073709551615) :
    Calls Try.prog 12 #[.pointer (some ⟨z, 0, none⟩)] w (CopyOut w z g bv left dec lit m o mc mn L e o (cnt m L e)) := by
  by_cases h1 : e = L.length
  · rw [show cnt m L e = 0 by unfold cnt; omega]
    exact copyMatch_z w z g bv left dec lit m mc mn L e (e - o) o (by omega) h hg hL ho h1.symm (by omega) hm1
  · by_cases h2 : e + m.toNat ≤ L.length
    · rw [show cnt m L e = m.toNat by unfold cnt; omega]
      exact copyMatch_m w z g bv left dec lit m mc mn L e (e - o) o m.toNat (by omega) h hg hL ho (by omega) (by omega) h2
    · rw [show cnt m L e = L.length - e by unfold cnt; omega]
      exact copyMatch_r w z g bv left dec lit m mc mn L e (e - o) o (L.length - e) (by omega) h hg hL ho (by omega) (by omega) hm1 (by omega)

set_option maxHeartbeats 400000 in
theorem door_any (w : World) (z g : Nat) (bv : Value) (left dec lit m mc : Int) (mn : Bool) (L : List Int) (e o : Nat) (h : w.heap[z]? = some (rdr bv left dec (.slice (some ⟨g, 0, none⟩) e L.length) lit m o mc mn))
    (hg : Row w g L) (hL : L.length ≤ 1048576) (ho : 0 < o) (hoe : o ≤ e) (heL : e ≤ L.length) (hm0 : 0 ≤ m) (hm1 : m ≤ 18446744073709551615) :
    Calls Try.prog 8 #[.pointer (some ⟨z, 0, none⟩)] w (CopyOut w z g bv left dec lit m o mc mn L e o (cnt m L e)) := by
  have H := hide (copyMatch_any w z g bv left dec lit m mc mn L e o h hg hL ho hoe heL hm0 hm1)
  clear h hg
  go_enter Try.func8, Try.ntmps8
  go_wp2_with fail
  refine H.out.mono ?_
  rintro x w' ⟨rfl, h2⟩
  have H2 := hide h2
  clear h2
  go_wp2_with fail
  go_end0
  exact ⟨rfl, H2.out⟩

def SizedPost (n m : Nat) (w : World) (e : Ending) (w' : World) : Prop := e = .returned (.bool (decide (n + m ≤ 1048576))) ∧ w' = w

set_option maxHeartbeats 400000 in
theorem sized_any (w : World) (a0 a3 : Option Addr) (n0 c0 n3 c3 : Nat) (v1 v2 v4 v5 v6 v7 v8 v9 : Value) (h0 : n0 ≤ maxLen) (h3 : n3 ≤ maxLen) :
    Calls Try.prog 5 #[.slice a0 n0 c0, v1, v2, .slice a3 n3 c3, v4, v5, v6, v7, v8, v9] w (SizedPost n0 n3 w) := by
  unfold maxLen at h0 h3
  by_cases b0 : n0 ≤ 1048576
  · by_cases b3 : n3 ≤ 1048576
    · by_cases bs : n0 + n3 ≤ 1048576
      · have b1 : ¬ (1048576 : Int) < (n0 : Int) := by omega
        have b2 : ¬ (1048576 : Int) < (n3 : Int) := by omega
        have b4 : ¬ (1048576 : Int) < (n0 : Int) + (n3 : Int) := by omega
        have H : Hid (SizedPost n0 n3 w (.returned (.bool true)) w) := hide ⟨by rw [decide_eq_true bs], rfl⟩
        go_enter Try.func5, Try.ntmps5
        go_wp2
        go_ret
        exact H.out
      · have b1 : ¬ (1048576 : Int) < (n0 : Int) := by omega
        have b2 : ¬ (1048576 : Int) < (n3 : Int) := by omega
        have b4 : (1048576 : Int) < (n0 : Int) + (n3 : Int) := by omega
        have H : Hid (SizedPost n0 n3 w (.returned (.bool false)) w) := hide ⟨by rw [decide_eq_false bs], rfl⟩
        go_enter Try.func5, Try.ntmps5
        go_wp2
        go_ret
        exact H.out
    · have b1 : ¬ (1048576 : Int) < (n0 : Int) := by omega
      have b2 : (1048576 : Int) < (n3 : Int) := by omega
      have H : Hid (SizedPost n0 n3 w (.returned (.bool false)) w) := hide ⟨by rw [decide_eq_false (by omega)], rfl⟩
      go_enter Try.func5, Try.ntmps5
      go_wp2
      go_ret
      exact H.out
  · have b1 : (1048576 : Int) < (n0 : Int) := by omega
    have H : Hid (SizedPost n0 n3 w (.returned (.bool false)) w) := hide ⟨by rw [decide_eq_false (by omega)], rfl⟩
    go_enter Try.func5, Try.ntmps5
    go_wp2
    go_ret
    exact H.out

/-- Clone, where it does not matter whether it is nil. -/
def CloneW (w : World) (a : Option Addr) (l : List Int) (e : Ending) (w' : World) : Prop :=
  ∃ a', e = .returned (.slice a' l.length l.length) ∧ a'.isNone = a.isNone ∧ BS w' a' l.length l ∧ (∀ p, a' = some p → w.heap.size ≤ p.block ∧ p.block < w'.heap.size) ∧ Below w.heap.size w w'

theorem clone_w (w : World) (a : Option Addr) (c : Nat) (l : List Int) (h : BS w a c l) (hl : l.length ≤ 1048576) : Calls Try.prog 6 #[.slice a l.length c] w (CloneW w a l) := by
  refine (clone_any w a c l h hl).mono ?_
  rintro e w' (⟨rfl, rfl, rfl, rfl⟩ | ⟨hs, rfl, hr, hb⟩)
  · exact ⟨none, rfl, rfl, BS.empty (Nat.zero_le _) (fun _ => rfl), (fun p hp => by cases hp), Below.refl _ _⟩
  · refine ⟨_, rfl, by cases a <;> simp_all, ?_, fun p hp => ?_, hb⟩
    · have := hr.bs h.byte l.length l.length (Nat.le_refl _) (Nat.le_refl _) (by unfold maxLen; omega)
      rwa [List.take_length] at this
    · simp only [Option.some.injEq] at hp
      subst hp
      exact ⟨Nat.le_refl _, hr.lt⟩

/-- Clone of what is not nil. -/
def CloneR (w : World) (l : List Int) (e : Ending) (w' : World) : Prop :=
  e = .returned (.slice (some ⟨w.heap.size, 0, none⟩) l.length l.length) ∧ Row w' w.heap.size l ∧ Below w.heap.size w w'

theorem clone_r (w : World) (a : Option Addr) (c : Nat) (l : List Int) (h : BS w a c l) (hl : l.length ≤ 1048576) (h0 : 0 < l.length) : Calls Try.prog 6 #[.slice a l.length c] w (CloneR w l) := by
  refine (clone_any w a c l h hl).mono ?_
  rintro e w' (⟨rfl, rfl, rfl, rfl⟩ | ⟨hs, rfl, hr, hb⟩)
  · simp at h0
  · exact ⟨rfl, hr, hb⟩

structure Sit (w : World) (l0 G R : List Int) (g h : Nat) (a1 a2 : Option Addr) (wr : World) : Prop where
  below : Below w.heap.size w wr
  b1 : BS wr a1 l0.length l0
  b2 : BS wr a2 l0.length l0
  n1 : ∀ p, a1 = some p → p.block ≠ g ∧ p.block ≠ h ∧ p.block < wr.heap.size
  n2 : ∀ p, a2 = some p → p.block ≠ g ∧ p.block ≠ h ∧ p.block < wr.heap.size
  rg : Row wr g G
  rh : Row wr h R
  ne : g ≠ h
  lg : w.heap.size ≤ g
  lh : w.heap.size ≤ h

theorem Sit.drewN {w wr : World} {l0 G R : List Int} {g h : Nat} {a1 a2 : Option Addr} (s : Sit w l0 G R g h a1 a2 wr) (n : Nat) : Sit w l0 G R g h a1 a2 (wr.drewN n) :=
  ⟨⟨s.below.os, s.below.tape, s.below.output, s.below.size, s.below.block⟩, s.b1.drewN n, s.b2.drewN n, s.n1, s.n2, s.rg, s.rh, s.ne, s.lg, s.lh⟩

/-- Only blocks g or h or none that was there have turned. -/
theorem Sit.only {w wr w' : World} {l0 G R G' R' : List Int} {g h z : Nat} {a1 a2 : Option Addr} (s : Sit w l0 G R g h a1 a2 wr) (o : Only (fun k => k = z ∨ k = g ∨ k = h) wr w') (hz : wr.heap.size ≤ z) (hg : Row w' g G') (hr : Row w' h R') : Sit w l0 G' R' g h a1 a2 w' := by
  have hsz := s.below.size
  refine ⟨s.below.trans (o.below hsz (fun k hk hh => by have := s.lg; have := s.lh; omega)), o.bs s.b1 (fun p hp hh => ?_), o.bs s.b2 (fun p hp hh => ?_), fun p hp => ?_, fun p hp => ?_, hg, hr, s.ne, s.lg, s.lh⟩
  · obtain ⟨h1, h2, h3⟩ := s.n1 p hp; rcases hh with e | e | e <;> omega
  · obtain ⟨h1, h2, h3⟩ := s.n2 p hp; rcases hh with e | e | e <;> omega
  · obtain ⟨h1, h2, h3⟩ := s.n1 p hp; exact ⟨h1, h2, Nat.lt_of_lt_of_le h3 o.size⟩
  · obtain ⟨h1, h2, h3⟩ := s.n2 p hp; exact ⟨h1, h2, Nat.lt_of_lt_of_le h3 o.size⟩

theorem Sit.setH {w wr : World} {l0 G R : List Int} {g h : Nat} {a1 a2 : Option Addr} (s : Sit w l0 G R g h a1 a2 wr) (i : Nat) (v : Int) : Sit w l0 G (R.set i v) g h a1 a2 (wr.setCell ⟨h, i, none⟩ (.int .u8 v)) :=
  s.only (z := wr.heap.size) ((Only.refl _ _).setCell (.inr (.inr rfl)) _) (Nat.le_refl _) (by unfold Row; rw [Below.heap_setCell _ _ _ _ s.ne]; exact s.rg) (s.rh.set i v)

theorem Sit.alloc {w wr : World} {l0 G R : List Int} {g h : Nat} {a1 a2 : Option Addr} (s : Sit w l0 G R g h a1 a2 wr) (O : Obj) : Sit w l0 G R g h a1 a2 (wr.alloc O) := by
  have o : Only (fun k => k = wr.heap.size ∨ k = g ∨ k = h) wr (wr.alloc O) := Only.of_below ((Below.refl _ _).alloc (Nat.le_refl _) _)
  refine s.only o (Nat.le_refl _) ?_ ?_
  · unfold Row; rw [heap_alloc_old _ _ s.rg.lt]; exact s.rg
  · unfold Row; rw [heap_alloc_old _ _ s.rh.lt]; exact s.rh

theorem Sit.copied {w wr w' : World} {l0 G R G' : List Int} {g h : Nat} {a1 a2 : Option Addr} {O : Obj} (s : Sit w l0 G R g h a1 a2 wr) (o : Only (fun k => k = wr.heap.size ∨ k = g) (wr.alloc O) w') (hg : Row w' g G') : Sit w l0 G' R g h a1 a2 w' := by
  have o1 : Only (fun k => k = wr.heap.size ∨ k = g) wr (wr.alloc O) := Only.of_below ((Below.refl _ _).alloc (Nat.le_refl _) _)
  have o2 := o1.trans o
  refine s.only (o2.mono (fun k hk => by rcases hk with e | e <;> simp [e])) (Nat.le_refl _) hg (o2.row s.rh (fun e => ?_))
  have := s.rh.lt
  have := s.ne
  rcases e with e | e <;> omega

theorem Sit.make {w w1 w2 w3 w4 : World} {l0 L : List Int} {a1 a2 : Option Addr} (h1 : BS w1 a1 l0.length l0) (n1 : ∀ p, a1 = some p → w.heap.size ≤ p.block ∧ p.block < w1.heap.size) (b1 : Below w.heap.size w w1)
    (r2 : Row w2 w1.heap.size L) (b2 : Below w1.heap.size w1 w2) (h3 : BS w3 a2 l0.length l0) (n3 : ∀ p, a2 = some p → w2.heap.size ≤ p.block ∧ p.block < w3.heap.size) (b3 : Below w2.heap.size w2 w3)
    (r4 : Row w4 w3.heap.size L) (b4 : Below w3.heap.size w3 w4) : Sit w l0 L L w1.heap.size w3.heap.size a1 a2 w4 := by
  have s1 := b1.size
  have s2 := b2.size
  have s3 := b3.size
  have s4 := b4.size
  have l2 := r2.lt
  refine ⟨((b1.trans (b2.mono s1)).trans (b3.mono (by omega))).trans (b4.mono (by omega)), ((h1.below b2).below b3).below b4, h3.below b4, fun p hp => ?_, fun p hp => ?_, ?_, r4, by omega, s1, by omega⟩
  · have := n1 p hp; omega
  · have := n3 p hp; omega
  · unfold Row
    rw [b4.block _ (by omega), b3.block _ l2]
    exact r2

end Go.Proofs.Qxb6602711a
