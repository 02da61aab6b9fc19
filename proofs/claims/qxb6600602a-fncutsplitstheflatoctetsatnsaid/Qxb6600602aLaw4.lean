/-
  The walk of FnCutSplitsTheFlatOctetsAtN (4).
-/
import Derived.Test.Qxb6600602aPlain
import Derived.Deep.RegionWith
namespace Go.Proofs.Qxb6600602a
open Go.RowKit

theorem eqBytes_true (w : World) (a a' : Option Addr) (c c' : Nat) (l : List Int) (n n' : Nat) (h : BS w a c l) (h' : BS w a' c' l) (hn : l.length = n) (hn' : l.length = n') :
    Calls Try.prog 18 #[.slice a n c, .slice a' n' c'] w fun e w' => e = .returned (.bool true) ∧ Below w.heap.size w w' := by
  subst hn; subst hn'
  refine (eqBytes_any w a a' c c' l l h h').mono ?_
  rintro e w' ⟨rfl, n, rfl⟩
  exact ⟨by simp, ⟨rfl, rfl, rfl, Nat.le_refl _, fun _ _ => rfl⟩⟩

theorem BSS.bytes {w : World} {a : Option Addr} {c : Nat} {ll : List (List Int)} (h : BSS w a c ll) (i j : Nat) : 0 ≤ (ll.getD i []).getD j 0 ∧ (ll.getD i []).getD j 0 ≤ 255 := by
  by_cases hi : i < ll.length
  · obtain ⟨_, _, _, _, _, _, hb⟩ := h.cells i hi
    exact hb.byte j
  · simp [List.getD, List.getElem?_eq_none (Nat.le_of_not_lt hi)]

theorem flatten_byte (ll : List (List Int)) (h : ∀ i j, 0 ≤ (ll.getD i []).getD j 0 ∧ (ll.getD i []).getD j 0 ≤ 255) (k : Nat) : 0 ≤ ll.flatten.getD k 0 ∧ ll.flatten.getD k 0 ≤ 255 := by
  induction ll generalizing k with
  | nil => simp
  | cons l r ih =>
    rw [List.flatten_cons]
    by_cases hk : k < l.length
    · have := h 0 k
      simpa [List.getD, List.getElem?_append_left hk] using this
    · have := ih (fun i j => h (i + 1) j) (k - l.length)
      simpa [List.getD, List.getElem?_append_right (Nat.le_of_not_lt hk)] using this

/-- From the cut on: 'want' is W. -/
def Want (ll : List (List Int)) (n : Int) (W : Nat) : Prop := W ≤ tot ll ∧ tot (cutF ll n) = W ∧ (cutF ll n).flatten = ll.flatten.take W ∧ (cutR ll n).flatten = ll.flatten.drop W

theorem want_neg (ll : List (List Int)) (n : Int) (h : n < 0) : Want ll n 0 := by
  have e : n.toNat = 0 := by omega
  obtain ⟨h1, h2⟩ := cut_flat ll n
  obtain ⟨h3, _⟩ := cut_tot ll n
  rw [e] at h1 h2 h3
  exact ⟨Nat.zero_le _, by omega, h1, h2⟩
theorem want_all (ll : List (List Int)) (n : Int) (h : (tot ll : Int) < n) : Want ll n (tot ll) := by
  obtain ⟨h1, h2⟩ := cut_flat ll n
  obtain ⟨h3, _⟩ := cut_tot ll n
  refine ⟨Nat.le_refl _, by omega, ?_, ?_⟩
  · rw [h1, List.take_of_length_le (by rw [tot_flatten]; omega), List.take_of_length_le (by rw [tot_flatten]; omega)]
  · rw [h2, List.drop_of_length_le (by rw [tot_flatten]; omega), List.drop_of_length_le (by rw [tot_flatten]; omega)]
theorem want_mid (ll : List (List Int)) (m : Nat) (h : m ≤ tot ll) : Want ll m m := by
  obtain ⟨h1, h2⟩ := cut_flat ll m
  obtain ⟨h3, _⟩ := cut_tot ll m
  rw [Int.toNat_natCast] at h1 h2 h3
  exact ⟨h, by omega, h1, h2⟩

/-- Along a statement: below w's size nothing has turned; every cell of w3 is there. -/
structure Stage (w w3 wx : World) : Prop where
  bel : Below w.heap.size w wx
  keep : ∀ p v, w3.cell? p = some v → wx.cell? p = some v

theorem Stage.next {w w3 wx wy : World} (h : Stage w w3 wx) (hb : Below wx.heap.size wx wy) : Stage w w3 wy :=
  ⟨h.bel.trans (hb.mono h.bel.size), fun p v e => Below.keeps hb p v (h.keep p v e)⟩

theorem flat_out {w w3 wx w4 : World} {F : List (List Int)} {x : List Int} {v : Value} (hF : F.flatten = x) (hby : ∀ i, 0 ≤ x.getD i 0 ∧ x.getD i 0 ≤ 255) (hs : Stage w w3 wx) (ho : OwnB w4 wx.heap.size v F.flatten) (hb : Below wx.heap.size wx w4) :
    ∃ a c, v = .slice a x.length c ∧ BS w4 a c x ∧ Stage w w3 w4 := by
  rw [hF] at ho
  obtain ⟨a, c, e, hbs, -⟩ := ho.bs hby
  exact ⟨a, c, e, hbs, hs.next hb⟩

set_option maxHeartbeats 2000000 in
theorem law4_neg (w : World) (a : Option Addr) (c : Nat) (ll : List (List Int)) (n : Int) (h1 : n < 0) (h : BSS w a c ll) :
    Calls Try.prog 4 #[.slice a ll.length c, .int .i64 n] w fun e w' => e = .returned (.bool true) ∧ Below w.heap.size w w' := by
  go_enter Try.func4, Try.ntmps4
  go_wp2_with fail
  refine (zzBytes19_any _ _ _ ll n h).mono ?_
  rintro e w' ⟨b, rfl, hw, hsz0⟩
  have hw := hw.symm
  subst hw
  cases b with
  | false =>
    go_wp2_with fail
    go_ret
    exact ⟨rfl, Below.refl _ _⟩
  | true =>
    have hsz := hsz0 rfl
    clear hsz0
    go_wp2_with fail
    refine (sizeOK_any _ _ _ ll h hsz).mono ?_
    rintro e w' ⟨b, rfl, hw, -⟩
    have hw := hw.symm
    subst hw
    cases b with
    | false =>
      go_wp2_with fail
      go_ret
      exact ⟨rfl, Below.refl _ _⟩
    | true =>
      go_wp2_with fail
      refine (cloneList_any _ _ _ ll h hsz).mono ?_
      rintro e w1 ⟨v, rfl, hol, hb1⟩
      obtain ⟨a1, c1, e1, hp1, -⟩ := hol.bss h.bytes
      subst e1
      have hby := fun i => flatten_byte ll h.bytes i
      clear hol
      go_wp2_with fail
      refine (ZZCut_any _ _ _ ll n hp1 (by omega) (by omega)).mono ?_
      rintro e w2 ⟨a2, c2, a3, c3, rfl, hF, hR, hb2⟩
      have hp2 := hp1.below hb2
      have hb2' := hb1.trans (hb2.mono hb1.size)
      clear hp1 hb1 hb2
      have hlt : tot ll ≤ 1048576 := by omega
      have htR := (cut_tot ll n).2
      obtain ⟨hW1, hW2, hW3, hW4⟩ := want_neg ll n h1
      have HF3 := hide hW3
      have HR3 := hide hW4
      have htF : tot (cutF ll n) ≤ 1048576 := by omega
      have htR2 : tot (cutR ll n) ≤ 1048576 := by omega
      have HTF := hide hW2
      clear hW2 hW3 hW4
      generalize cutF ll n = F at *
      generalize cutR ll n = R at *
      go_wp2_with fail
      refine (totalLen_any _ _ _ ll hp2 (by omega)).mono ?_
      rintro e w' ⟨rfl, hw⟩
      have hw := hw.symm
      subst hw
      go_wp2_with fail
      refine (totalLen_any _ _ _ F hF (by omega)).mono ?_
      rintro e w' ⟨rfl, hw⟩
      have hw := hw.symm
      subst hw
      rw [HTF.out]
      go_wp2_with fail
      refine (flatten_any _ _ _ ll hp2 hlt).mono ?_
      rintro e w3 ⟨v3, rfl, ho3, hb3⟩
      obtain ⟨a4, c4, e4, hA, -⟩ := ho3.bs hby
      have hal : ll.flatten.length = tot ll := tot_flatten ll
      subst e4
      clear ho3
      generalize ll.flatten = all at *
      have hF3 := hF.below hb3
      have hR3 := hR.below hb3
      have hb3' := hb2'.trans (hb3.mono hb2'.size)
      have hWl : 0 ≤ all.length := by omega
      have hac := hA.le
      have hcm := hA.max
      unfold maxLen at hcm
      have hs3 : Stage w w3 w3.drew := ⟨hb3'.drew, fun _ _ h => h⟩
      have HL1 : Hid ((all.take 0).length = 0) := hide (List.length_take_of_le hWl)
      have HL2 : Hid ((all.drop 0).length = all.length - 0) := hide (by simp)
      have HB4 := hide (hA.take 0 hWl)
      have HB5 := fun a' e1 e2 => hide (hA.drop (a' := a') 0 hWl e1 e2)
      have HY1 := hide HB4.out.byte
      have HY2 := hide (HB5 (if c4 = 0 then a4 else a4.map (·.add 0)) (fun e => if_neg e) (fun e => if_pos e)).out.byte
      have HB6 : Hid (BS w3 a4 c4 (all.drop 0)) := hide (by simpa using hA)
      clear HB5
      generalize all.take 0 = x1 at *
      generalize all.drop 0 = x2 at *
      have HAL := hide hal
      clear hal hby hA hF hR hp2 hb3 hb3' hb2'
      have hi1 : (((0 : Nat) : Int)) ≤ (c4 : Int) := by omega
      have hi2 : (((0 : Nat) : Int)) ≤ (all.length : Int) := by omega
      go_wp2_with fail
      go_region_with (first | (go_at_call_of 20 (Value.slice a2 F.length c2); refine (flatten_any _ _ _ F (by exact hF3.later hs3.keep) htF).mono ?_; rintro e w4 ⟨v4, rfl, ho4, hb4⟩; obtain ⟨a5, c5, e5, hx1, hs4⟩ := flat_out HF3.out HY1.out hs3 ho4 hb4; subst e5; clear ho4 hb4) | (go_at_call_of 18 (Value.slice a5 x1.length c5); refine (eqBytes_true _ _ _ _ _ x1 _ _ (by exact hx1) (by exact HB4.out.later hs4.keep) (by rfl) (by exact HL1.out)).mono ?_; rintro e w5 ⟨rfl, hb5⟩; have hs5 := hs4.next hb5; clear hb5) | (go_at_call_of 20 (Value.slice a3 R.length c3); refine (flatten_any _ _ _ R (by exact hR3.later hs5.keep) htR2).mono ?_; rintro e w6 ⟨v6, rfl, ho6, hb6⟩; obtain ⟨a7, c7, e7, hx2, hs6⟩ := flat_out HR3.out HY2.out hs5 ho6 hb6; subst e7; clear ho6 hb6) | (go_at_call_of 18 (Value.slice a7 x2.length c7); refine (eqBytes_true _ _ _ _ _ x2 _ _ (by exact hx2) (by exact HB6.out.later hs6.keep) (by rfl) (by exact HL2.out)).mono ?_; rintro e w7 ⟨rfl, hb7⟩; have hs7 := hs6.next hb7; clear hb7))
      all_goals go_wp2
      all_goals go_ret
      all_goals exact ⟨rfl, Stage.bel (by assumption)⟩

set_option maxHeartbeats 2000000 in
theorem law4_all (w : World) (a : Option Addr) (c : Nat) (ll : List (List Int)) (n : Int) (hn : n ≤ 9223372036854775807) (h2 : (tot ll : Int) < n) (h : BSS w a c ll) :
    Calls Try.prog 4 #[.slice a ll.length c, .int .i64 n] w fun e w' => e = .returned (.bool true) ∧ Below w.heap.size w w' := by
  go_enter Try.func4, Try.ntmps4
  go_wp2_with fail
  refine (zzBytes19_any _ _ _ ll n h).mono ?_
  rintro e w' ⟨b, rfl, hw, hsz0⟩
  have hw := hw.symm
  subst hw
  cases b with
  | false =>
    go_wp2_with fail
    go_ret
    exact ⟨rfl, Below.refl _ _⟩
  | true =>
    have hsz := hsz0 rfl
    clear hsz0
    go_wp2_with fail
    refine (sizeOK_any _ _ _ ll h hsz).mono ?_
    rintro e w' ⟨b, rfl, hw, -⟩
    have hw := hw.symm
    subst hw
    cases b with
    | false =>
      go_wp2_with fail
      go_ret
      exact ⟨rfl, Below.refl _ _⟩
    | true =>
      go_wp2_with fail
      refine (cloneList_any _ _ _ ll h hsz).mono ?_
      rintro e w1 ⟨v, rfl, hol, hb1⟩
      obtain ⟨a1, c1, e1, hp1, -⟩ := hol.bss h.bytes
      subst e1
      have hby := fun i => flatten_byte ll h.bytes i
      clear hol
      go_wp2_with fail
      refine (ZZCut_any _ _ _ ll n hp1 (by omega) (by omega)).mono ?_
      rintro e w2 ⟨a2, c2, a3, c3, rfl, hF, hR, hb2⟩
      have hp2 := hp1.below hb2
      have hb2' := hb1.trans (hb2.mono hb1.size)
      clear hp1 hb1 hb2
      have hlt : tot ll ≤ 1048576 := by omega
      have htR := (cut_tot ll n).2
      obtain ⟨hW1, hW2, hW3, hW4⟩ := want_all ll n h2
      have HF3 := hide hW3
      have HR3 := hide hW4
      have htF : tot (cutF ll n) ≤ 1048576 := by omega
      have htR2 : tot (cutR ll n) ≤ 1048576 := by omega
      have HTF := hide hW2
      clear hW2 hW3 hW4
      generalize cutF ll n = F at *
      generalize cutR ll n = R at *
      go_wp2_with fail
      refine (totalLen_any _ _ _ ll hp2 (by omega)).mono ?_
      rintro e w' ⟨rfl, hw⟩
      have hw := hw.symm
      subst hw
      go_wp2_with fail
      refine (totalLen_any _ _ _ F hF (by omega)).mono ?_
      rintro e w' ⟨rfl, hw⟩
      have hw := hw.symm
      subst hw
      rw [HTF.out]
      go_wp2_with fail
      refine (flatten_any _ _ _ ll hp2 hlt).mono ?_
      rintro e w3 ⟨v3, rfl, ho3, hb3⟩
      obtain ⟨a4, c4, e4, hA, -⟩ := ho3.bs hby
      have hal : ll.flatten.length = tot ll := tot_flatten ll
      subst e4
      clear ho3
      generalize ll.flatten = all at *
      have hF3 := hF.below hb3
      have hR3 := hR.below hb3
      have hb3' := hb2'.trans (hb3.mono hb2'.size)
      have hWl : (tot ll) ≤ all.length := by omega
      have hac := hA.le
      have hcm := hA.max
      unfold maxLen at hcm
      have hs3 : Stage w w3 w3.drew := ⟨hb3'.drew, fun _ _ h => h⟩
      have HL1 : Hid ((all.take (tot ll)).length = (tot ll)) := hide (List.length_take_of_le hWl)
      have HL2 : Hid ((all.drop (tot ll)).length = all.length - (tot ll)) := hide (by simp)
      have HB4 := hide (hA.take (tot ll) hWl)
      have HB5 := fun a' e1 e2 => hide (hA.drop (a' := a') (tot ll) hWl e1 e2)
      have HY1 := hide HB4.out.byte
      have HY2 := hide (HB5 (if c4 = (tot ll) then a4 else a4.map (·.add (tot ll))) (fun e => if_neg e) (fun e => if_pos e)).out.byte
      generalize all.take (tot ll) = x1 at *
      generalize all.drop (tot ll) = x2 at *
      have HAL := hide hal
      clear hal hby hA hF hR hp2 hb3 hb3' hb2'
      have hi1 : ((((tot ll) : Nat) : Int)) ≤ (c4 : Int) := by omega
      have hi2 : ((((tot ll) : Nat) : Int)) ≤ (all.length : Int) := by omega
      by_cases hc4 : c4 = (tot ll)
      · subst hc4
        have HB6 : Hid (BS w3 a4 0 x2) := hide (by simpa using (HB5 a4 (fun e => absurd rfl e) (fun _ => rfl)).out)
        have HL2 : Hid (x2.length = 0) := hide (by have := HL2.out; omega)
        clear HB5
        go_wp2_with fail
        go_region_with (first | (go_at_call_of 20 (Value.slice a2 F.length c2); refine (flatten_any _ _ _ F (by exact hF3.later hs3.keep) htF).mono ?_; rintro e w4 ⟨v4, rfl, ho4, hb4⟩; obtain ⟨a5, c5, e5, hx1, hs4⟩ := flat_out HF3.out HY1.out hs3 ho4 hb4; subst e5; clear ho4 hb4) | (go_at_call_of 18 (Value.slice a5 x1.length c5); refine (eqBytes_true _ _ _ _ _ x1 _ _ (by exact hx1) (by exact HB4.out.later hs4.keep) (by rfl) (by exact HL1.out)).mono ?_; rintro e w5 ⟨rfl, hb5⟩; have hs5 := hs4.next hb5; clear hb5) | (go_at_call_of 20 (Value.slice a3 R.length c3); refine (flatten_any _ _ _ R (by exact hR3.later hs5.keep) htR2).mono ?_; rintro e w6 ⟨v6, rfl, ho6, hb6⟩; obtain ⟨a7, c7, e7, hx2, hs6⟩ := flat_out HR3.out HY2.out hs5 ho6 hb6; subst e7; clear ho6 hb6) | (go_at_call_of 18 (Value.slice a7 x2.length c7); refine (eqBytes_true _ _ _ _ _ x2 _ _ (by exact hx2) (by exact HB6.out.later hs6.keep) (by rfl) (by exact HL2.out)).mono ?_; rintro e w7 ⟨rfl, hb7⟩; have hs7 := hs6.next hb7; clear hb7))
        all_goals go_wp2
        all_goals go_ret
        all_goals exact ⟨rfl, Stage.bel (by assumption)⟩
      · have HB6 := HB5 (a4.map (·.add (tot ll))) (fun _ => rfl) (fun e => absurd e hc4)
        clear HB5
        go_wp2_with fail
        go_region_with (first | (go_at_call_of 20 (Value.slice a2 F.length c2); refine (flatten_any _ _ _ F (by exact hF3.later hs3.keep) htF).mono ?_; rintro e w4 ⟨v4, rfl, ho4, hb4⟩; obtain ⟨a5, c5, e5, hx1, hs4⟩ := flat_out HF3.out HY1.out hs3 ho4 hb4; subst e5; clear ho4 hb4) | (go_at_call_of 18 (Value.slice a5 x1.length c5); refine (eqBytes_true _ _ _ _ _ x1 _ _ (by exact hx1) (by exact HB4.out.later hs4.keep) (by rfl) (by exact HL1.out)).mono ?_; rintro e w5 ⟨rfl, hb5⟩; have hs5 := hs4.next hb5; clear hb5) | (go_at_call_of 20 (Value.slice a3 R.length c3); refine (flatten_any _ _ _ R (by exact hR3.later hs5.keep) htR2).mono ?_; rintro e w6 ⟨v6, rfl, ho6, hb6⟩; obtain ⟨a7, c7, e7, hx2, hs6⟩ := flat_out HR3.out HY2.out hs5 ho6 hb6; subst e7; clear ho6 hb6) | (go_at_call_of 18 (Value.slice a7 x2.length c7); refine (eqBytes_true _ _ _ _ _ x2 _ _ (by exact hx2) (by exact HB6.out.later hs6.keep) (by rfl) (by exact HL2.out)).mono ?_; rintro e w7 ⟨rfl, hb7⟩; have hs7 := hs6.next hb7; clear hb7))
        all_goals go_wp2
        all_goals go_ret
        all_goals exact ⟨rfl, Stage.bel (by assumption)⟩

set_option maxHeartbeats 2000000 in
theorem law4_mid (w : World) (a : Option Addr) (c : Nat) (ll : List (List Int)) (m : Nat) (h2 : m ≤ tot ll) (h : BSS w a c ll) :
    Calls Try.prog 4 #[.slice a ll.length c, .int .i64 (m : Int)] w fun e w' => e = .returned (.bool true) ∧ Below w.heap.size w w' := by
  go_enter Try.func4, Try.ntmps4
  go_wp2_with fail
  refine (zzBytes19_any _ _ _ ll (m : Int) h).mono ?_
  rintro e w' ⟨b, rfl, hw, hsz0⟩
  have hw := hw.symm
  subst hw
  cases b with
  | false =>
    go_wp2_with fail
    go_ret
    exact ⟨rfl, Below.refl _ _⟩
  | true =>
    have hsz := hsz0 rfl
    clear hsz0
    go_wp2_with fail
    refine (sizeOK_any _ _ _ ll h hsz).mono ?_
    rintro e w' ⟨b, rfl, hw, -⟩
    have hw := hw.symm
    subst hw
    cases b with
    | false =>
      go_wp2_with fail
      go_ret
      exact ⟨rfl, Below.refl _ _⟩
    | true =>
      go_wp2_with fail
      refine (cloneList_any _ _ _ ll h hsz).mono ?_
      rintro e w1 ⟨v, rfl, hol, hb1⟩
      obtain ⟨a1, c1, e1, hp1, -⟩ := hol.bss h.bytes
      subst e1
      have hby := fun i => flatten_byte ll h.bytes i
      clear hol
      go_wp2_with fail
      refine (ZZCut_any _ _ _ ll (m : Int) hp1 (by omega) (by omega)).mono ?_
      rintro e w2 ⟨a2, c2, a3, c3, rfl, hF, hR, hb2⟩
      have hp2 := hp1.below hb2
      have hb2' := hb1.trans (hb2.mono hb1.size)
      clear hp1 hb1 hb2
      have hlt : tot ll ≤ 1048576 := by omega
      have htR := (cut_tot ll (m : Int)).2
      obtain ⟨hW1, hW2, hW3, hW4⟩ := want_mid ll m h2
      have HF3 := hide hW3
      have HR3 := hide hW4
      have htF : tot (cutF ll (m : Int)) ≤ 1048576 := by omega
      have htR2 : tot (cutR ll (m : Int)) ≤ 1048576 := by omega
      have HTF := hide hW2
      clear hW2 hW3 hW4
      generalize cutF ll (m : Int) = F at *
      generalize cutR ll (m : Int) = R at *
      go_wp2_with fail
      refine (totalLen_any _ _ _ ll hp2 (by omega)).mono ?_
      rintro e w' ⟨rfl, hw⟩
      have hw := hw.symm
      subst hw
      go_wp2_with fail
      refine (totalLen_any _ _ _ F hF (by omega)).mono ?_
      rintro e w' ⟨rfl, hw⟩
      have hw := hw.symm
      subst hw
      rw [HTF.out]
      go_wp2_with fail
      refine (flatten_any _ _ _ ll hp2 hlt).mono ?_
      rintro e w3 ⟨v3, rfl, ho3, hb3⟩
      obtain ⟨a4, c4, e4, hA, -⟩ := ho3.bs hby
      have hal : ll.flatten.length = tot ll := tot_flatten ll
      subst e4
      clear ho3
      generalize ll.flatten = all at *
      have hF3 := hF.below hb3
      have hR3 := hR.below hb3
      have hb3' := hb2'.trans (hb3.mono hb2'.size)
      have hWl : m ≤ all.length := by omega
      have hac := hA.le
      have hcm := hA.max
      unfold maxLen at hcm
      have hs3 : Stage w w3 w3.drew := ⟨hb3'.drew, fun _ _ h => h⟩
      have HL1 : Hid ((all.take m).length = m) := hide (List.length_take_of_le hWl)
      have HL2 : Hid ((all.drop m).length = all.length - m) := hide (by simp)
      have HB4 := hide (hA.take m hWl)
      have HB5 := fun a' e1 e2 => hide (hA.drop (a' := a') m hWl e1 e2)
      have HY1 := hide HB4.out.byte
      have HY2 := hide (HB5 (if c4 = m then a4 else a4.map (·.add m)) (fun e => if_neg e) (fun e => if_pos e)).out.byte
      generalize all.take m = x1 at *
      generalize all.drop m = x2 at *
      have HAL := hide hal
      clear hal hby hA hF hR hp2 hb3 hb3' hb2'
      have hi1 : (((m : Nat) : Int)) ≤ (c4 : Int) := by omega
      have hi2 : (((m : Nat) : Int)) ≤ (all.length : Int) := by omega
      by_cases hc4 : c4 = m
      · subst hc4
        have HB6 : Hid (BS w3 a4 0 x2) := hide (by simpa using (HB5 a4 (fun e => absurd rfl e) (fun _ => rfl)).out)
        have HL2 : Hid (x2.length = 0) := hide (by have := HL2.out; omega)
        clear HB5
        go_wp2_with fail
        go_region_with (first | (go_at_call_of 20 (Value.slice a2 F.length c2); refine (flatten_any _ _ _ F (by exact hF3.later hs3.keep) htF).mono ?_; rintro e w4 ⟨v4, rfl, ho4, hb4⟩; obtain ⟨a5, c5, e5, hx1, hs4⟩ := flat_out HF3.out HY1.out hs3 ho4 hb4; subst e5; clear ho4 hb4) | (go_at_call_of 18 (Value.slice a5 x1.length c5); refine (eqBytes_true _ _ _ _ _ x1 _ _ (by exact hx1) (by exact HB4.out.later hs4.keep) (by rfl) (by exact HL1.out)).mono ?_; rintro e w5 ⟨rfl, hb5⟩; have hs5 := hs4.next hb5; clear hb5) | (go_at_call_of 20 (Value.slice a3 R.length c3); refine (flatten_any _ _ _ R (by exact hR3.later hs5.keep) htR2).mono ?_; rintro e w6 ⟨v6, rfl, ho6, hb6⟩; obtain ⟨a7, c7, e7, hx2, hs6⟩ := flat_out HR3.out HY2.out hs5 ho6 hb6; subst e7; clear ho6 hb6) | (go_at_call_of 18 (Value.slice a7 x2.length c7); refine (eqBytes_true _ _ _ _ _ x2 _ _ (by exact hx2) (by exact HB6.out.later hs6.keep) (by rfl) (by exact HL2.out)).mono ?_; rintro e w7 ⟨rfl, hb7⟩; have hs7 := hs6.next hb7; clear hb7))
        all_goals go_wp2
        all_goals go_ret
        all_goals exact ⟨rfl, Stage.bel (by assumption)⟩
      · have HB6 := HB5 (a4.map (·.add m)) (fun _ => rfl) (fun e => absurd e hc4)
        clear HB5
        go_wp2_with fail
        go_region_with (first | (go_at_call_of 20 (Value.slice a2 F.length c2); refine (flatten_any _ _ _ F (by exact hF3.later hs3.keep) htF).mono ?_; rintro e w4 ⟨v4, rfl, ho4, hb4⟩; obtain ⟨a5, c5, e5, hx1, hs4⟩ := flat_out HF3.out HY1.out hs3 ho4 hb4; subst e5; clear ho4 hb4) | (go_at_call_of 18 (Value.slice a5 x1.length c5); refine (eqBytes_true _ _ _ _ _ x1 _ _ (by exact hx1) (by exact HB4.out.later hs4.keep) (by rfl) (by exact HL1.out)).mono ?_; rintro e w5 ⟨rfl, hb5⟩; have hs5 := hs4.next hb5; clear hb5) | (go_at_call_of 20 (Value.slice a3 R.length c3); refine (flatten_any _ _ _ R (by exact hR3.later hs5.keep) htR2).mono ?_; rintro e w6 ⟨v6, rfl, ho6, hb6⟩; obtain ⟨a7, c7, e7, hx2, hs6⟩ := flat_out HR3.out HY2.out hs5 ho6 hb6; subst e7; clear ho6 hb6) | (go_at_call_of 18 (Value.slice a7 x2.length c7); refine (eqBytes_true _ _ _ _ _ x2 _ _ (by exact hx2) (by exact HB6.out.later hs6.keep) (by rfl) (by exact HL2.out)).mono ?_; rintro e w7 ⟨rfl, hb7⟩; have hs7 := hs6.next hb7; clear hb7))
        all_goals go_wp2
        all_goals go_ret
        all_goals exact ⟨rfl, Stage.bel (by assumption)⟩

end Go.Proofs.Qxb6600602a
