/-
  The walk of FnAddPartCopiesItsFrames (8).
-/
import Derived.Test.Qxb6600602aScrib
import Derived.Test.Qxb6600602aLaw7
namespace Go.Proofs.Qxb6600602a
open Go.RowKit

theorem eqBytes_true (w : World) (a a' : Option Addr) (c c' : Nat) (l : List Int) (n n' : Nat) (h : BS w a c l) (h' : BS w a' c' l) (hn : l.length = n) (hn' : l.length = n') :
    Calls Try.prog 18 #[.slice a n c, .slice a' n' c'] w fun e w' => e = .returned (.bool true) ∧ Below w.heap.size w w' := by
  subst hn; subst hn'
  refine (eqBytes_any w a a' c c' l l h h').mono ?_
  rintro e w' ⟨rfl, n, rfl⟩
  exact ⟨by simp, ⟨rfl, rfl, rfl, Nat.le_refl _, fun _ _ => rfl⟩⟩

theorem flatten_byte (ll : List (List Int)) (h : ∀ i j, 0 ≤ (ll.getD i []).getD j 0 ∧ (ll.getD i []).getD j 0 ≤ 255) (k : Nat) : 0 ≤ ll.flatten.getD k 0 ∧ ll.flatten.getD k 0 ≤ 255 := by
  induction ll generalizing k with
  | nil => simp
  | cons l r ih =>
    rw [List.flatten_cons]
    by_cases hk : k < l.length
    · have := h 0 k
      simpa [List.getD, List.getElem?_append_left hk] using this
    · have := ih (fun i j => h (i + 1) j) (k - l.length)
      simpa [List.getD, List.getElem?_append_right (Nat.le_of_not_lt hk)] using this

theorem lens_le (ll : List (List Int)) (h : tot ll ≤ 1048576) (i : Nat) : (ll.map List.length).getD i 0 ≤ 1048576 := by
  by_cases hi : i < ll.length
  · have e : (ll.map List.length).getD i 0 = (ll.getD i []).length := by simp [List.getD, hi]
    rw [e]
    have := len_le_tot ll i
    omega
  · simp [List.getD, List.getElem?_eq_none (show (ll.map List.length).length ≤ i by simp; omega)]

/-- What scribble does to the law's own copies, and to nothing else. -/
theorem scribble_own {w2 wr : World} {H1 c : Nat} {a : Option Addr} {ll : List (List Int)} (h : OwnL w2 H1 (.slice a ll.length c) ll) (hb : Below w2.heap.size w2 wr) (hs : ll.length + tot ll ≤ 1048576) :
    Calls Try.prog 30 #[.slice a ll.length c] wr fun e w' => e = .returned (.tuple #[]) ∧ Apart H1 w2.heap.size wr w' := by
  rcases h.scr hb with ⟨e1, e2⟩ | ⟨pg, c', e1, hsc⟩
  · subst e2
    simp at e1
    obtain ⟨rfl, rfl⟩ := e1
    refine (scribble_nil wr).mono ?_
    rintro e w' ⟨rfl, rfl⟩
    exact ⟨rfl, Apart.refl _ _ _⟩
  · rw [e1]
    exact scribble_any wr H1 w2.heap.size pg c' _ hsc (by rw [List.length_map]; omega) (lens_le ll (by omega))

set_option maxHeartbeats 2000000 in
theorem law8_walk (w : World) (a : Option Addr) (c : Nat) (ll : List (List Int)) (h : BSS w a c ll) :
    Calls Try.prog 8 #[.slice a ll.length c] w fun e w' => e = .returned (.bool true) ∧ Below w.heap.size w w' := by
  go_enter Try.func8, Try.ntmps8
  go_wp2_with fail
  refine (zzBytes29_any _ _ _ ll h).mono ?_
  rintro e w' ⟨b, rfl, hw, hsz0⟩
  have hw := hw.symm
  subst hw
  cases b with
  | false =>
    go_wp2_with fail
    go_ret
    exact ⟨rfl, Below.refl _ _⟩
  | true =>
    have hsz := hsz0 rfl
    clear hsz0
    go_wp2_with fail
    refine (sizeOK_any _ _ _ ll h hsz).mono ?_
    rintro e w' ⟨b, rfl, hw, -⟩
    have hw := hw.symm
    subst hw
    cases b with
    | false =>
      go_wp2_with fail
      go_ret
      exact ⟨rfl, Below.refl _ _⟩
    | true =>
      go_wp2_with fail
      refine (cloneList_any _ _ _ ll h hsz).mono ?_
      rintro e w1 ⟨v, rfl, hol, hb1⟩
      obtain ⟨a1, c1, e1, hp1, -⟩ := hol.bss h.bytes
      subst e1
      have hby := fun i => flatten_byte ll h.bytes i
      clear hol h
      go_wp2_with fail
      refine (cloneList_any _ _ _ ll hp1 hsz).mono ?_
      rintro e w2 ⟨v, rfl, hol, hb2⟩
      obtain ⟨a2, c2, e2, hp2, -⟩ := hol.bss hp1.bytes
      subst e2
      go_wp2_with fail
      refine (newIntake_any _).mono ?_
      rintro e w3 ⟨rfl, hw3⟩
      have HF0 : Fill w2 ll 0 w3 := by rw [hw3]; exact Fill.start w2 ll
      clear hw3
      have hmax := hp2.max
      have hle := hp2.le
      unfold maxLen at hmax
      go_wp2_with fail
      go_loopw [5] (fun i wr => ∃ k : Nat, k ≤ ll.length ∧ i = .int .i64 k ∧ Fill w2 ll k wr) (fun i _ => ll.length - (intOf i).toNat)
      case atStart => exact ⟨0, Nat.zero_le _, rfl, HF0⟩
      case round =>
        obtain ⟨k, hk, rfl, hbf, ps, pv, xs, held, hin, hgr⟩ := hrel
        clear HF0
        by_cases hkl : k < ll.length
        · obtain ⟨b, o, a', c', rfl, hc, hbs⟩ := (hp2.below hbf).cells k hkl
          have hsize := Fill.size hgr hkl hsz
          have HST := hide (fun w' ps' pv' xs' held' => @Fill.step w2 wr w' ll ps ps' k pv' xs' held' hbf hkl hgr)
          generalize ll.getD k [] = x at hc hbs hsize HST
          have hbz := hbf.size
          go_wp2_with (go_at_call 24; refine (addPartDoor_any _ _ _ ps x pv xs held _ _ (by exact hin) (by exact hbz) (by exact hbs) hsize).mono ?_; rintro e w4 ⟨rfl, hb3, ps', pv', xs', held', hin', hst'⟩)
          go_roundw
          case rel => exact ⟨k + 1, by omega, by go_num, HST.out _ _ _ _ _ hb3 hin' hst'⟩
          case measure => simp [intOf]; omega
        · obtain rfl : k = ll.length := by omega
          rw [List.take_length] at hgr
          clear hkl hk
          go_wp2_with fail
          refine (scribble_own hol hbf hsz).mono ?_
          rintro e w5 ⟨rfl, hap⟩
          have hin5 := hin.apart_of hap (Nat.le_refl _)
          have hk5 : ∀ p v, w1.cell? p = some v → w5.cell? p = some v := fun p v e => by
            have hlt := World.block_lt_of_cell? _ _ e
            have := hb2.size
            rw [hap.keeps hlt, hbf.cell (by omega), hb2.cell hlt]
            exact e
          have hp5 := hp1.later hk5
          have hb5 : Below w.heap.size w w5 := ⟨hap.os.trans (hbf.os.trans (hb2.os.trans hb1.os)), hap.tape.trans (hbf.tape.trans (hb2.tape.trans hb1.tape)), hap.output.trans (hbf.output.trans (hb2.output.trans hb1.output)),
            by have := hap.size; have := hbf.size; have := hb2.size; have := hb1.size; omega, fun k hk => by
              have := hb1.size
              have := hb2.size
              rw [hap.block k (.inl (by omega)), hbf.block k (by omega), hb2.block k (by omega), hb1.block k hk]⟩
          obtain ⟨a6, c6, e6, hps⟩ := hin5.bss
          have htp : tot ps ≤ 1048576 := by have := hgr.tot; omega
          have HFL := hide hgr.flat
          clear hin hap hbf hol hp1 hp2 hb1 hb2 hk5 hgr
          subst e6
          go_wp2_with fail
          refine (parts_any _ _ _ ps _ xs held hin5).mono ?_
          rintro e w' ⟨rfl, hw⟩
          have hw := hw.symm
          subst hw
          clear hin5
          go_wp2_with fail
          refine (flatten_any _ _ _ ps hps htp).mono ?_
          rintro e w6 ⟨v6, rfl, ho6, hb6⟩
          rw [HFL.out] at ho6
          have hp6 := hp5.below hb6
          go_wp2_with fail
          refine (flatten_any _ _ _ ll hp6 (by omega)).mono ?_
          rintro e w7 ⟨v7, rfl, ho7, hb7⟩
          obtain ⟨a8, c8, e8, hx8, -⟩ := ho6.bs hby
          obtain ⟨a9, c9, e9, hx9, -⟩ := ho7.bs hby
          have hx8' := hx8.below hb7
          subst e8
          subst e9
          have hbw : Below w.heap.size w w7 := (hb5.trans (hb6.mono hb5.size)).trans (hb7.mono (by have := hb5.size; have := hb6.size; omega))
          clear ho6 ho7 hby
          generalize ll.flatten = all at *
          go_wp2_with fail
          refine (eqBytes_true _ _ _ _ _ all _ _ hx8' hx9 rfl rfl).mono ?_
          rintro e w8 ⟨rfl, hb8⟩
          go_wp2_with fail
          go_ret
          exact ⟨rfl, hbw.trans (hb8.mono hbw.size)⟩

end Go.Proofs.Qxb6600602a
