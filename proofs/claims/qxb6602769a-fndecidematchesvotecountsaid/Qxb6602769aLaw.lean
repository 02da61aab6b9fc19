/-
  The law (3).
-/
import Derived.Test.Qxb6602769aDoor
namespace Go.Proofs.Qxb6602769a
open Go.RowKit Go.Maps

def Fine (w : World) (e : Ending) (w' : World) : Prop := e = .returned (.bool true) ∧ Below w.heap.size w w'

set_option maxHeartbeats 1000000 in
theorem law_nil (w : World) (a : Option Addr) (c : Nat) (l : List Int) (h : US w a c l) :
    Calls Try.prog 3 #[.slice a l.length c, .map none] w (Fine w) := by
  have hrun := fun (w : World) ty => len_nil (w := w) Try.underlying23 ty
  have HU := hide h
  have hm := h.max
  have hle := h.le
  unfold maxLen at hm
  clear h
  by_cases hl : l.length ≤ 65536
  · have hl' : ¬ (65536 : Int) < (l.length : Int) := by omega
    go_enter Try.func3, Try.ntmps3
    go_wp2_with fail
    refine (door_nil w a c l (by exact HU.out) hl).mono ?_
    rintro e w1 ⟨rfl, hb⟩
    have HB := hide hb
    obtain ⟨d1, d2, hd⟩ : ∃ d1 d2, dec l (fun _ => none) = (d1, d2) := ⟨_, _, rfl⟩
    rw [hd]
    have HD := hide hd
    clear hd hb
    go_wp2_with fail
    refine (count_any w1 a c l none (fun _ => none) (by exact HU.out.below HB.out) hl (by exact look_nil' law27 Try.underlying27 Try.underlying23)).mono ?_
    rintro e w2 ⟨rfl, hw⟩
    have hw := hw.symm
    subst hw
    rw [HD.out]
    go_wp2_with fail
    go_ret
    exact ⟨rfl, HB.out⟩
  · have hl' : (65536 : Int) < (l.length : Int) := by omega
    go_enter Try.func3, Try.ntmps3
    go_wp2_with fail
    go_ret
    exact ⟨rfl, Below.refl _ _⟩

set_option maxHeartbeats 1000000 in
theorem law_some {H : Type} (w : World) (a : Option Addr) (c : Nat) (l : List Int) (b n : Nat) (D : DataW H) (h : US w a c l) (hown : w.ownsMap Try.prog 27 (plainElem Try.prog 5) b n D) :
    Calls Try.prog 3 #[.slice a l.length c, .map (some b)] w (Fine w) := by
  have HU := hide h
  have hm := h.max
  have hle := h.le
  unfold maxLen at hm
  have HO := hide hown
  clear h hown
  by_cases hl : l.length ≤ 65536
  · have hl' : ¬ (65536 : Int) < (l.length : Int) := by omega
    by_cases hs : 65536 < Maps.size D
    · have hs' : (65536 : Int) < ((Maps.size D : Nat) : Int) := by omega
      go_enter Try.func3, Try.ntmps3
      go_wp2_with (at_len; refine wpList_len_own _ rfl _ 23 rfl 27 5 Try.underlying23 _ b n D rfl HO.out ?_)
      go_ret
      exact ⟨rfl, Below.refl _ _⟩
    · have hs' : ¬ (65536 : Int) < ((Maps.size D : Nat) : Int) := by omega
      go_enter Try.func3, Try.ntmps3
      go_wp2_with (at_len; refine wpList_len_own _ rfl _ 23 rfl 27 5 Try.underlying23 _ b n D rfl HO.out ?_)
      refine (door_some w a c l b n D (by exact HU.out) hl (by exact HO.out)).mono ?_
      rintro e w1 ⟨rfl, hb⟩
      have HB := hide hb
      obtain ⟨d1, d2, hd⟩ : ∃ d1 d2, dec l (fnOf D) = (d1, d2) := ⟨_, _, rfl⟩
      rw [hd]
      have HD := hide hd
      clear hd hb
      go_wp2_with fail
      refine (count_any w1 a c l (some b) (fnOf D) (by exact HU.out.below HB.out) hl (by exact (look_own law27 Try.underlying27 Try.underlying23 (own_below HO.out HB.out HO.out.lt)).1)).mono ?_
      rintro e w2 ⟨rfl, hw⟩
      have hw := hw.symm
      subst hw
      rw [HD.out]
      go_wp2_with fail
      go_ret
      exact ⟨rfl, HB.out⟩
  · have hl' : (65536 : Int) < (l.length : Int) := by omega
    go_enter Try.func3, Try.ntmps3
    go_wp2_with fail
    go_ret
    exact ⟨rfl, Below.refl _ _⟩

end Go.Proofs.Qxb6602769a
