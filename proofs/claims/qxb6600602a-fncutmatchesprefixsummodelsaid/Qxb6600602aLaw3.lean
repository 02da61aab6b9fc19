/-
  The walk of FnCutMatchesPrefixSumModel (3).
-/
import Derived.Test.Qxb6600602aPlain3
import Derived.Deep.QuietTactic
import Derived.BigQuiet
namespace Go.Proofs.Qxb6600602a
open Go.RowKit

/-! The contracts, their lengths as the caller spells them. -/
theorem eqBytes_q (w : World) (a a' : Option Addr) (c c' : Nat) (l : List Int) (n n' : Nat) (h : BS w a c l) (h' : BS w a' c' l) (hn : l.length = n) (hn' : l.length = n') :
    Calls Try.prog 18 #[.slice a n c, .slice a' n' c'] w fun e w' => e = .returned (.bool true) ∧ ∃ m, w' = w.drewN m := by
  subst hn; subst hn'
  refine (eqBytes_any w a a' c c' l l h h').mono ?_
  rintro e w' ⟨rfl, m, rfl⟩
  exact ⟨by simp, m, rfl⟩
theorem sameList_q (w : World) (a a' : Option Addr) (c c' : Nat) (l : List (List Int)) (n n' : Nat) (h : BSS w a c l) (h' : BSS w a' c' l) (hn : l.length = n) (hn' : l.length = n') :
    Calls Try.prog 16 #[.slice a n c, .slice a' n' c'] w fun e w' => e = .returned (.bool true) ∧ ∃ m, w' = w.drewN m := by
  subst hn; subst hn'
  refine (sameList_any w a a' c c' l l h h').mono ?_
  rintro e w' ⟨rfl, m, rfl⟩
  exact ⟨by simp, m, rfl⟩
theorem totalLen_n (w : World) (a : Option Addr) (c : Nat) (ll : List (List Int)) (n : Nat) (h : BSS w a c ll) (ht : tot ll ≤ 1099511627776) (hn : ll.length = n) :
    Calls Try.prog 17 #[.slice a n c] w fun e w' => e = .returned (.int .i64 (tot ll)) ∧ w' = w := by
  subst hn
  exact totalLen_any w a c ll h ht

theorem quiet2 {P : Program} {f : FuncId} {args : Array Value} {w : World} {q n : Nat} {v : Value}
    (h : Calls P f args (w.drewN (q + n)) fun e w' => e = .returned v ∧ ∃ m, w' = (w.drewN (q + n)).drewN m) : Calls P f args (w.drewN (q + n)) fun e w'' => e = .returned v ∧ ∃ m, w'' = w.drewN (q + m) :=
  h.mono fun _ _ ⟨he, m, hm⟩ => ⟨he, n + m, by rw [hm, World.drewN_drewN]; congr 1; omega⟩

theorem BSS.bytes {w : World} {a : Option Addr} {c : Nat} {ll : List (List Int)} (h : BSS w a c ll) (i j : Nat) : 0 ≤ (ll.getD i []).getD j 0 ∧ (ll.getD i []).getD j 0 ≤ 255 := by
  by_cases hi : i < ll.length
  · obtain ⟨_, _, _, _, _, _, hb⟩ := h.cells i hi
    exact hb.byte j
  · simp [List.getD, List.getElem?_eq_none (Nat.le_of_not_lt hi)]

set_option maxHeartbeats 2000000 in
theorem law3_walk (w : World) (a : Option Addr) (c : Nat) (ll : List (List Int)) (n : Int) (hn : -9223372036854775808 ≤ n ∧ n ≤ 9223372036854775807) (h : BSS w a c ll) :
    Calls Try.prog 3 #[.slice a ll.length c, .int .i64 n] w fun e w' => e = .returned (.bool true) ∧ Below w.heap.size w w' := by
  go_enter Try.func3, Try.ntmps3
  go_wp2_with fail
  refine (zzBytes12_any _ _ _ ll n h).mono ?_
  rintro e w' ⟨b, rfl, hw, hsz0⟩
  have hw := hw.symm
  subst hw
  cases b with
  | false =>
    go_wp2_with fail
    go_ret
    exact ⟨rfl, Below.refl _ _⟩
  | true =>
    have hsz := hsz0 rfl
    clear hsz0
    go_wp2_with fail
    refine (sizeOK_any _ _ _ ll h hsz).mono ?_
    rintro e w' ⟨b, rfl, hw, -⟩
    have hw := hw.symm
    subst hw
    cases b with
    | false =>
      go_wp2_with fail
      go_ret
      exact ⟨rfl, Below.refl _ _⟩
    | true =>
      go_wp2_with fail
      refine (cloneList_any _ _ _ ll h hsz).mono ?_
      rintro e w1 ⟨v, rfl, hol, hb1⟩
      obtain ⟨a1, c1, e1, hp1, -⟩ := hol.bss h.bytes
      subst e1
      clear hol h
      go_wp2_with fail
      refine (ZZCut_any _ _ _ ll n hp1 (by omega) (by omega)).mono ?_
      rintro e w2 ⟨a2, c2, a3, c3, rfl, hF, hR, hb2⟩
      have hp2 := hp1.below hb2
      have hb2' := hb1.trans (hb2.mono hb1.size)
      clear hp1 hb1 hb2
      have hlt : tot ll ≤ 1048576 := by omega
      by_cases h0 : n ≤ 0
      · have e1 := cutF_neg ll n h0
        have e2 := cutR_neg ll n h0
        rw [e1] at hF ⊢
        rw [e2] at hR ⊢
        clear e1 e2
        go_wp2_with fail
        refine (sameList_q _ _ _ _ _ ll _ _ hR hp2 rfl rfl).mono ?_
        rintro e w3 ⟨rfl, m3, rfl⟩
        go_wp2_with fail
        go_ret
        exact ⟨rfl, hb2'.trans ⟨rfl, rfl, rfl, Nat.le_refl _, fun _ _ => rfl⟩⟩
      · obtain ⟨hJ, hA, hB⟩ : CutBy ll n (cj ll n ll.length) := by rw [cj_all]; exact cut_by ll n (by omega)
        have HA := hide hA
        have HB := hide hB
        clear hA hB
        have hmax := hp2.max
        have hle := hp2.le
        unfold maxLen at hmax
        generalize cutF ll n = F at *
        generalize cutR ll n = R at *
        go_wp2_with fail
        go_loop [7, 8, 9] (fun j s i => ∃ k : Nat, k ≤ ll.length ∧ i = .int .i64 k ∧ s = .int .i64 (tot (ll.take k) : Nat) ∧ j = .int .i64 (cj ll n k : Nat)) (fun _ _ i => ll.length - (intOf i).toNat)
        case atStart => exact ⟨0, Nat.zero_le _, rfl, rfl, rfl⟩
        case round =>
          obtain ⟨k, hk, rfl, rfl, rfl⟩ := hrel
          by_cases hkl : k < ll.length
          · have HS := tot_snoc ll k hkl
            have h1 := tot_take_le ll (k + 1)
            have hcj := cj_le ll n k
            have HC : Hid (cj ll n (k + 1) = cj ll n k + if (tot (ll.take k) : Int) < n then 1 else 0) := hide rfl
            obtain ⟨b, o, a', c', rfl, hc, hbs⟩ := hp2.cells k hkl
            generalize ll.getD k [] = x at HS hc hbs
            have HS' := hide HS
            have hx1 : tot (ll.take k) + x.length ≤ 1048576 := by omega
            have hkk : k ≤ 1048576 := by omega
            clear HS h1 hbs
            generalize tot (ll.take k) = t at HS' hx1 HC ⊢
            generalize cj ll n k = q at HC hcj ⊢
            go_wp2_with fail
            · go_round
              case rel => exact ⟨k + 1, by omega, by go_num, by rw [HS'.out]; go_num, by rw [HC.out, if_pos (by assumption)]; go_num⟩
              case measure => simp [intOf]; omega
            · go_round
              case rel => exact ⟨k + 1, by omega, by go_num, by rw [HS'.out]; go_num, by rw [HC.out, if_neg (by omega)]; go_num⟩
              case measure => simp [intOf]; omega
          · obtain rfl : k = ll.length := by omega
            clear hkl hk
            generalize cj ll n ll.length = J at *
            have htJ := tot_take_le ll J
            have hJl : (ll.take J).length = J := List.length_take_of_le hJ
            have HJL := hide hJl
            have hpJ := hp2.take J hJ
            have HDR := fun a' e1 e2 => hide (hp2.drop (a' := a') J hJ e1 e2)
            have HDL : Hid ((ll.drop J).length = ll.length - J) := hide (by simp)
            clear hJl
            have hJc : (J : Int) ≤ (c1 : Int) := by omega
            have hJc2 : (J : Int) ≤ (ll.length : Int) := by omega
            by_cases hs : (tot (ll.take J) : Int) ≤ n
            · obtain ⟨e1, e2⟩ := HA.out hs
              subst e1; subst e2
              generalize ll.take J = lf at *
              generalize ll.drop J = lr at *
              clear HA HB
              by_cases hcJ : c1 = J
              · subst hcJ
                have HD2 : Hid (BSS w2 a1 0 lr) := hide (by simpa using (HDR a1 (fun e => absurd rfl e) (fun _ => rfl)).out)
                have HDL : Hid (lr.length = 0) := hide (by have := HDL.out; omega)
                clear HDR
                go_wp2_with fail
                refine (totalLen_n _ _ _ lf _ (by exact hpJ) (by omega) (by exact HJL.out)).mono ?_
                rintro e w' ⟨rfl, hw⟩
                have hw := hw.symm
                subst hw
                go_wp2_with fail
                refine (sameList_q _ _ _ _ _ lf _ _ (by exact hF) (by exact hpJ) (by rfl) (by exact HJL.out)).mono ?_
                rintro e w3 ⟨rfl, m3, rfl⟩
                go_wp2_with fail
                refine (sameList_q _ _ _ _ _ lr _ _ (by exact hR.drewN _) (by exact HD2.out.drewN _) (by rfl) (by exact HDL.out)).mono ?_
                rintro e w4 ⟨rfl, m4, rfl⟩
                go_wp2_with fail
                go_ret
                exact ⟨rfl, hb2'.trans ⟨rfl, rfl, rfl, Nat.le_refl _, fun _ _ => rfl⟩⟩
              · have HD2 := HDR _ (fun _ => rfl) (fun e => absurd e hcJ)
                clear HDR
                go_wp2_with fail
                refine (totalLen_n _ _ _ lf _ (by exact hpJ) (by omega) (by exact HJL.out)).mono ?_
                rintro e w' ⟨rfl, hw⟩
                have hw := hw.symm
                subst hw
                go_wp2_with fail
                refine (sameList_q _ _ _ _ _ lf _ _ (by exact hF) (by exact hpJ) (by rfl) (by exact HJL.out)).mono ?_
                rintro e w3 ⟨rfl, m3, rfl⟩
                go_wp2_with fail
                refine (sameList_q _ _ _ _ _ lr _ _ (by exact hR.drewN _) (by exact HD2.out.drewN _) (by rfl) (by exact HDL.out)).mono ?_
                rintro e w4 ⟨rfl, m4, rfl⟩
                go_wp2_with fail
                go_ret
                exact ⟨rfl, hb2'.trans ⟨rfl, rfl, rfl, Nat.le_refl _, fun _ _ => rfl⟩⟩
            · obtain ⟨J', k, rfl, hJ'l, hk1, hk2, e1, e2⟩ := HB.out (by omega)
              clear HA HB
              -- the piece that is split
              obtain ⟨b, o, a5, c5, rfl, hc5, hx5⟩ := hp2.cells J' hJ'l
              have hlF : F.length = J' + 1 := by rw [e1]; simp; omega
              have hlR : R.length + J' = ll.length := by rw [e2]; simp; omega
              have hF1 := hF.take J' (by omega)
              have eF1 : F.take J' = ll.take J' := by rw [e1]; simp [Nat.min_eq_left (Nat.le_of_lt hJ'l)]
              rw [eF1] at hF1
              have eF2 : F.getD J' [] = (ll.getD J' []).take k := by
                rw [e1]; simp [List.getD, List.length_take, Nat.min_eq_left (Nat.le_of_lt hJ'l)]
              obtain ⟨b2, o2, a6, c6, rfl, hc6, hx6⟩ := hF.cells J' (by omega)
              rw [eF2] at hc6 hx6
              have eR2 : R.getD 0 [] = (ll.getD J' []).drop k := by rw [e2]; rfl
              obtain ⟨b3, o3, a7, c7, rfl, hc7, hx7⟩ := hR.cells 0 (by omega)
              rw [eR2] at hc7 hx7
              rw [Nat.add_zero] at hc7
              have HR1 := fun a' e1 e2 => hide (hR.drop (a' := a') 1 (by omega) e1 e2)
              have eR1 : R.drop 1 = ll.drop (J' + 1) := by rw [e2]; rfl
              rw [eR1] at HR1
              have hRl := hR.le
              have hRm := hR.max
              have hFl := hF.le
              have hFm := hF.max
              unfold maxLen at hRm hFm
              have hp3 := hp2.take J' (by omega)
              have HL3 : Hid ((ll.take J').length = J') := hide (List.length_take_of_le (by omega))
              obtain ⟨b5, o5, rfl, -⟩ := hx5.at (by omega)
              have hy1 := hx5.take k (by omega)
              have hy2 := hx5.drop (a' := some ⟨b5, o5 + k, none⟩) k (by omega) (fun _ => by simp [Addr.add_lit]) (fun e => by have := hx5.le; omega)
              have HY1 : Hid (((ll.getD J' []).take k).length = k) := hide (List.length_take_of_le (by omega))
              have HY2 : Hid (((ll.getD J' []).drop k).length = (ll.getD J' []).length - k) := hide (by simp)
              have hx5l := hx5.le
              have hx5m := hx5.max
              unfold maxLen at hx5m
              have hxt := len_le_tot ll J'
              generalize (ll.getD J' []).take k = y1 at *
              generalize (ll.getD J' []).drop k = y2 at *
              generalize ll.getD J' [] = x at *
              clear e1 e2 eF1 eF2 eR1 eR2 hx5 hF hR
              have hk3 : n - ((tot (ll.take (J' + 1)) : Int) - (x.length : Int)) = (k : Int) := hk1.symm
              have hk4 : (k : Int) ≤ (c5 : Int) := by omega
              have hk5 : (k : Int) ≤ (x.length : Int) := by omega
              have hk6 : ¬ c5 = k := by omega
              have hj1 : (J' : Int) ≤ (c2 : Int) := by omega
              have hj2 : (J' : Int) < (J' : Int) + 1 := by omega
              have hj3 : (J' : Int) < (ll.length : Int) := by omega
              have hj4 : (J' : Int) ≤ (c1 : Int) := by omega
              have hr1 : (0 : Int) < (R.length : Int) := by omega
              have hr2 : (1 : Int) ≤ (R.length : Int) := by omega
              have hwr : IntKind.i64.wrap ((J' : Nat) : Int) = (J' : Int) := by rw [IntKind.wrap_i64]; omega
              clear hk1
              generalize ll.take J' = lf at *
              generalize ll.drop (J' + 1) = lr at *
              generalize ll.take (J' + 1) = lt at *
              go_wp2_with fail
              refine (totalLen_n _ _ _ lt _ (by exact hpJ) (by omega) (by exact HJL.out)).mono ?_
              rintro e w' ⟨rfl, hw⟩
              have hw := hw.symm
              subst hw
              go_wp2_with fail
              go_quiet ((go_at_call 16; exact Calls.quiet_of (sameList_q _ _ _ _ _ lf _ _ (by exact hF1.drewN _) (by exact hp3.drewN _) (by exact HL3.out) (by exact HL3.out))))
              go_wp2_with fail
              go_quiet ((go_at_call 18; exact quiet2 (eqBytes_q _ _ _ _ _ y1 _ _ (by exact hx6.drewN _) (by exact hy1.drewN _) (by rfl) (by exact HY1.out))))
              go_wp2_with fail
              go_quiet ((go_at_call 18; exact quiet2 (eqBytes_q _ _ _ _ _ y2 _ _ (by exact hx7.drewN _) (by exact hy2.drewN _) (by rfl) (by exact HY2.out))))
              go_wp2_with fail
              have HLR : Hid (lr.length + (J' + 1) = ll.length) := hide (by have := HDL.out; omega)
              have hjj : (J' : Int) + 1 ≤ (ll.length : Int) := by omega
              have hjn : ((J' : Int) + 1).toNat = J' + 1 := by omega
              by_cases hc3 : c3 = 1
              · subst hc3
                have HA1 : Hid (BSS w2 (some ⟨b3, o3, none⟩) 0 lr) := hide (by simpa using (HR1 (some ⟨b3, o3, none⟩) (fun e => absurd rfl e) (fun _ => rfl)).out)
                by_cases hcJ : c1 = J' + 1
                · subst hcJ
                  have HA2 : Hid (BSS w2 (some ⟨b, o, none⟩) 0 lr) := hide (by simpa using (HDR (some ⟨b, o, none⟩) (fun e => absurd rfl e) (fun _ => rfl)).out)
                  clear HR1 HDR
                  go_quiet ((go_at_call 16; exact quiet2 (sameList_q _ _ _ _ _ lr _ _ (by exact HA1.out.drewN _) (by exact HA2.out.drewN _) (by have := HLR.out; omega) (by have := HLR.out; omega))))
                  go_wp2_with fail
                  go_ret
                  exact ⟨rfl, hb2'.trans ⟨rfl, rfl, rfl, Nat.le_refl _, fun _ _ => rfl⟩⟩
                · have HA2 := HDR (some ⟨b, o + (J' + 1), none⟩) (fun _ => by simp [Addr.add_lit]) (fun e => absurd e hcJ)
                  clear HR1 HDR
                  go_quiet ((go_at_call 16; exact quiet2 (sameList_q _ _ _ _ _ lr _ _ (by exact HA1.out.drewN _) (by exact HA2.out.drewN _) (by have := HLR.out; omega) (by have := HLR.out; omega))))
                  go_wp2_with fail
                  go_ret
                  exact ⟨rfl, hb2'.trans ⟨rfl, rfl, rfl, Nat.le_refl _, fun _ _ => rfl⟩⟩
              · have HA1 := HR1 (some ⟨b3, o3 + 1, none⟩) (fun _ => by simp [Addr.add_lit]) (fun e => absurd e hc3)
                by_cases hcJ : c1 = J' + 1
                · subst hcJ
                  have HA2 : Hid (BSS w2 (some ⟨b, o, none⟩) 0 lr) := hide (by simpa using (HDR (some ⟨b, o, none⟩) (fun e => absurd rfl e) (fun _ => rfl)).out)
                  clear HR1 HDR
                  go_quiet ((go_at_call 16; exact quiet2 (sameList_q _ _ _ _ _ lr _ _ (by exact HA1.out.drewN _) (by exact HA2.out.drewN _) (by have := HLR.out; omega) (by have := HLR.out; omega))))
                  go_wp2_with fail
                  go_ret
                  exact ⟨rfl, hb2'.trans ⟨rfl, rfl, rfl, Nat.le_refl _, fun _ _ => rfl⟩⟩
                · have HA2 := HDR (some ⟨b, o + (J' + 1), none⟩) (fun _ => by simp [Addr.add_lit]) (fun e => absurd e hcJ)
                  clear HR1 HDR
                  go_quiet ((go_at_call 16; exact quiet2 (sameList_q _ _ _ _ _ lr _ _ (by exact HA1.out.drewN _) (by exact HA2.out.drewN _) (by have := HLR.out; omega) (by have := HLR.out; omega))))
                  go_wp2_with fail
                  go_ret
                  exact ⟨rfl, hb2'.trans ⟨rfl, rfl, rfl, Nat.le_refl _, fun _ _ => rfl⟩⟩

end Go.Proofs.Qxb6600602a
