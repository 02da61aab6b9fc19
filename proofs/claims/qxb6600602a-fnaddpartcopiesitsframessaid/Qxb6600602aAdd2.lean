/-
  addPart (38) at an intake that holds no part yet; the whole contract; its door (24); Parts (27).
-/
import Derived.Test.Qxb6600602aAdd
namespace Go.Proofs.Qxb6600602a
open Go.RowKit

set_option maxHeartbeats 2000000 in
theorem addPart_first (w : World) (B q : Nat) (x : List Int) (pv : Value) (xs : List Value) (held : Int) (a : Option Addr) (c : Nat) (h : Intake w B q [] pv xs held) (hB : B ≤ w.heap.size)
    (hx : BS w a c x) (hsz : ([] : List (List Int)).length + tot [] + x.length ≤ 2097152)  :
    Calls Try.prog 38 #[.pointer (some ⟨q, 0, none⟩), .slice a x.length c] w (AddOut w B q [] x) := by
  obtain ⟨i0, hi, hz0, hz1, hz2⟩ := info_parts info29
  obtain ⟨hc2, hc3, hc4, hfq⟩ := h.cell
  obtain ⟨po, pcap, rfl⟩ := own_form h.own
  have hsz2 : tot [] + x.length ≤ 2097152 := by omega
  have hf2 := hfq 2
  have hf3 := hfq 3
  have hf4 := hfq 4
  have HOWN : Hid (∀ w1, Below w.heap.size w w1 → w1.ownsRow B 29 1 (.slice po 0 pcap) (0) xs) := hide (fun w1 hb => by simpa using (h.below hb).own)
  have HCELL := hide (fun w1 hb => (h.below (w' := w1) hb).cell)
  have HPC := hide (fun w1 w2 o hb hg => h.push_cells (w1 := w1) (w2 := w2) (o := o) hb hg)
  have HPUSH := hide (fun w1 w2 v' part held' o hb hp hown hg => h.push (w1 := w1) (w2 := w2) (v' := v') (part := part) (held' := held') (o := o) (x := x) hB hb hp hx.byte hown hg)
  have HX := hide hx
  have HBY := hide hx.byte
  clear h hx hsz hfq
  simp only [tot, List.length_nil] at *
  have hwr : IntKind.i64.wrap (-1 : Int) = -1 := by rw [IntKind.wrap_i64]; omega
  go_enter Try.func38, Try.ntmps38
  go_wp2_with fail
  go_quiet (fail)
  go_wp2_with (first | (go_at_call 40; refine (clone_any _ _ _ x (by exact HX.out.drewN _) (by omega)).mono ?_; rintro e w1 ⟨part, rfl, hpart, hb0⟩; have hb1 := below_of_drew hb0; obtain ⟨pa, pc, e1, -, -⟩ := hpart.bs HBY.out; subst e1; clear hb0; obtain ⟨hd2, hd3, hd4, hdf⟩ := HCELL.out w1 hb1; have HP := hide hpart; clear hpart) | (at_builtin; refine wpList_append_own _ rfl (.tmp 80) (.tmp 82) 22 rfl B 29 i0 (.slice none 0 0) 1 24 Try.underlying22 hi hz0 hz1 hz2 rfl (by decide) (.slice po 0 pcap) (0) xs rfl (by exact (HOWN.out w1 hb1).alloc _) ⟨w1.heap.size, 0, none⟩ 1 1 [Value.slice pa x.length pc] rfl rfl (cell_one_new _ _ _) (by simp [Value.oneCell']) (by unfold maxLen; omega) (by omega) (by simp; have := hb1.size; omega) ?_; intro v' w2 hown2 hgrow2 _; obtain ⟨vo, vcap, e2⟩ := own_form hown2; subst e2; obtain ⟨hq2, hq3, hq4, hg2, hg3, hg4⟩ := HPC.out w1 w2 _ hb1 hgrow2; have HO2 := hide hown2; have HG2 := hide hgrow2; clear hown2 hgrow2))
  go_end0
  obtain ⟨f1, f2⟩ := HPUSH.out w1 w2 _ _ (wrap64 (held + (pc : Int))) _ hb1 (by exact HP.out) HO2.out HG2.out
  simp only [Nat.zero_add, Int.natCast_zero, Int.zero_add] at f1 f2
  exact ⟨rfl, f2, _, _, _, _, f1, .inr ⟨.inl rfl, rfl⟩⟩

/-- What addPart does, whatever the intake holds. -/
theorem addPart_any (w : World) (B q : Nat) (ps : List (List Int)) (x : List Int) (pv : Value) (xs : List Value) (held : Int) (a : Option Addr) (c : Nat) (h : Intake w B q ps pv xs held) (hB : B ≤ w.heap.size) (hx : BS w a c x) (hsz : ps.length + tot ps + x.length ≤ 2097152) :
    Calls Try.prog 38 #[.pointer (some ⟨q, 0, none⟩), .slice a x.length c] w (AddOut w B q ps x) := by
  rcases List.eq_nil_or_concat ps with rfl | ⟨pre, l, rfl⟩
  · exact addPart_first w B q x pv xs held a c h hB hx hsz
  · rw [List.concat_eq_append] at *
    obtain ⟨_, _, ua, ucap, _, _, _, _, _, hu, _⟩ := h.last
    by_cases hroom : l.length + x.length ≤ ucap
    · exact addPart_room w B q pre l x pv xs held a c h hB hx hsz ua ucap hu hroom
    · by_cases h1 : tot (pre ++ [l]) ≤ 4096
      · by_cases h2 : x.length < tot (pre ++ [l])
        · exact addPart_tp w B q pre l x pv xs held a c h hB hx hsz ua ucap hu hroom h1 h2
        · exact addPart_clone1 w B q pre l x pv xs held a c h hB hx hsz ua ucap hu hroom h1 h2
      · by_cases h2 : x.length < 4096
        · exact addPart_lit w B q pre l x pv xs held a c h hB hx hsz ua ucap hu hroom h1 h2
        · exact addPart_clone2 w B q pre l x pv xs held a c h hB hx hsz ua ucap hu hroom h1 h2

set_option maxHeartbeats 400000 in
theorem addPartDoor_any (w : World) (B q : Nat) (ps : List (List Int)) (x : List Int) (pv : Value) (xs : List Value) (held : Int) (a : Option Addr) (c : Nat) (h : Intake w B q ps pv xs held) (hB : B ≤ w.heap.size) (hx : BS w a c x) (hsz : ps.length + tot ps + x.length ≤ 2097152) :
    Calls Try.prog 24 #[.pointer (some ⟨q, 0, none⟩), .slice a x.length c] w (AddOut w B q ps x) := by
  go_enter Try.func24, Try.ntmps24
  go_wp2_with (go_at_call 38; refine (addPart_any _ _ _ ps x pv xs held a c h hB hx hsz).mono ?_; rintro e w1 ⟨rfl, h1, h2⟩)
  go_end0
  exact ⟨rfl, h1, h2⟩

set_option maxHeartbeats 400000 in
theorem parts_any (w : World) (B q : Nat) (ps : List (List Int)) (pv : Value) (xs : List Value) (held : Int) (h : Intake w B q ps pv xs held) :
    Calls Try.prog 27 #[.pointer (some ⟨q, 0, none⟩)] w fun e w' => e = .returned pv ∧ w' = w := by
  obtain ⟨hc2, -, -, -⟩ := h.cell
  obtain ⟨po, pcap, rfl⟩ := own_form h.own
  clear h
  go_enter Try.func27, Try.ntmps27
  go_wp2
  go_ret
  exact ⟨rfl, rfl⟩

/-- The parts, read. -/
theorem Intake.bss {w : World} {B q : Nat} {ps : List (List Int)} {pv : Value} {xs : List Value} {held : Int} (h : Intake w B q ps pv xs held) : ∃ a c, pv = .slice a ps.length c ∧ BSS w a c ps := by
  obtain ⟨a, c, e, hb, -⟩ := OwnL.bss ⟨xs, h.own, h.each⟩ h.byte
  exact ⟨a, c, e, hb⟩

end Go.Proofs.Qxb6600602a
