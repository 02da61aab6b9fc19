/-
  The walk of FnAddPartSplitsOnlyBetweenFrames (7).
-/
import Derived.Test.Qxb6600602aPlain7
import Derived.Test.Qxb6600602aAdd2
namespace Go.Proofs.Qxb6600602a
open Go.RowKit

theorem BSS.bytes {w : World} {a : Option Addr} {c : Nat} {ll : List (List Int)} (h : BSS w a c ll) (i j : Nat) : 0 ≤ (ll.getD i []).getD j 0 ∧ (ll.getD i []).getD j 0 ≤ 255 := by
  by_cases hi : i < ll.length
  · obtain ⟨_, _, _, _, _, _, hb⟩ := h.cells i hi
    exact hb.byte j
  · simp [List.getD, List.getElem?_eq_none (Nat.le_of_not_lt hi)]

/-- The intake has taken the first k frames. -/
def Fill (w1 : World) (ll : List (List Int)) (k : Nat) (wr : World) : Prop :=
  Below w1.heap.size w1 wr ∧ ∃ ps pv xs held, Intake wr w1.heap.size w1.heap.size ps pv xs held ∧ Grp (ll.take k) ps

theorem Fill.start (w1 : World) (ll : List (List Int)) : Fill w1 ll 0 (w1.alloc (.cells #[.int .i64 0, .slice none 0 0, .slice none 0 0, .int .i64 0, .int .i64 0] 43)) :=
  ⟨(Below.refl _ _).alloc (Nat.le_refl _) _, [], _, _, _, Intake.start w1, Grp.start⟩

theorem take_snoc (ll : List (List Int)) (k : Nat) (h : k < ll.length) : ll.take (k + 1) = ll.take k ++ [ll.getD k []] := by
  rw [List.take_succ_eq_append_getElem h]
  simp [List.getD, List.getElem?_eq_getElem h]

theorem Fill.size {ps : List (List Int)} {ll : List (List Int)} {k : Nat} (hg : Grp (ll.take k) ps) (hk : k < ll.length) (hsz : ll.length + tot ll ≤ 1048576) : ps.length + tot ps + (ll.getD k []).length ≤ 2097152 := by
  have h1 := hg.le
  have h2 := hg.tot
  have h3 := tot_snoc ll k hk
  have h4 := tot_take_le ll (k + 1)
  have h5 : (ll.take k).length ≤ k := List.length_take_le _ _
  omega

theorem Fill.step {w1 wr w' : World} {ll ps ps' : List (List Int)} {k : Nat} {pv' : Value} {xs' : List Value} {held' : Int} (hb : Below w1.heap.size w1 wr) (hk : k < ll.length) (hg : Grp (ll.take k) ps) (hb' : Below w1.heap.size wr w')
    (hi : Intake w' w1.heap.size w1.heap.size ps' pv' xs' held') (hs : Step ps (ll.getD k []) ps') : Fill w1 ll (k + 1) w' :=
  ⟨hb.trans hb', ps', pv', xs', held', hi, by rw [take_snoc ll k hk]; exact hg.step hs⟩

/-- The head of the loop over the parts. -/
def Ends (ll ps : List (List Int)) (fi fs s i : Value) : Prop :=
  ∃ k f : Nat, k ≤ ps.length ∧ f ≤ ll.length ∧ i = .int .i64 k ∧ s = .int .i64 (tot (ps.take k) : Nat) ∧ fi = .int .i64 f ∧ fs = .int .i64 (tot (ps.take k) : Nat) ∧ tot (ll.take f) = tot (ps.take k)
/-- The head of the loop that seeks the end S among the frames' ends. -/
def Seek (ll : List (List Int)) (S : Nat) (fi fs : Value) : Prop :=
  ∃ g : Nat, g ≤ ll.length ∧ fi = .int .i64 g ∧ fs = .int .i64 (tot (ll.take g) : Nat) ∧ tot (ll.take g) ≤ S

set_option maxRecDepth 20000 in
set_option maxHeartbeats 2000000 in
theorem law7_walk (w : World) (a : Option Addr) (c : Nat) (ll : List (List Int)) (h : BSS w a c ll) :
    Calls Try.prog 7 #[.slice a ll.length c] w fun e w' => e = .returned (.bool true) ∧ Below w.heap.size w w' := by
  go_enter Try.func7, Try.ntmps7
  go_wp2_with fail
  refine (zzBytes28_any _ _ _ ll h).mono ?_
  rintro e w' ⟨b, rfl, hw, hsz0⟩
  have hw := hw.symm
  subst hw
  cases b with
  | false =>
    go_wp2_with fail
    go_ret
    exact ⟨rfl, Below.refl _ _⟩
  | true =>
    have hsz := hsz0 rfl
    clear hsz0
    go_wp2_with fail
    refine (sizeOK_any _ _ _ ll h hsz).mono ?_
    rintro e w' ⟨b, rfl, hw, -⟩
    have hw := hw.symm
    subst hw
    cases b with
    | false =>
      go_wp2_with fail
      go_ret
      exact ⟨rfl, Below.refl _ _⟩
    | true =>
      go_wp2_with fail
      refine (cloneList_any _ _ _ ll h hsz).mono ?_
      rintro e w1 ⟨v, rfl, hol, hb1⟩
      obtain ⟨a1, c1, e1, hp1, -⟩ := hol.bss h.bytes
      subst e1
      clear hol h
      go_wp2_with fail
      refine (newIntake_any _).mono ?_
      rintro e w2 ⟨rfl, hw2⟩
      have HF0 : Fill w1 ll 0 w2 := by rw [hw2]; exact Fill.start w1 ll
      clear hw2
      have hmax := hp1.max
      have hle := hp1.le
      unfold maxLen at hmax
      go_wp2_with fail
      go_loopw [4] (fun i wr => ∃ k : Nat, k ≤ ll.length ∧ i = .int .i64 k ∧ Fill w1 ll k wr) (fun i _ => ll.length - (intOf i).toNat)
      case atStart => exact ⟨0, Nat.zero_le _, rfl, HF0⟩
      case round =>
        obtain ⟨k, hk, rfl, hbf, ps, pv, xs, held, hin, hgr⟩ := hrel
        clear HF0
        by_cases hkl : k < ll.length
        · obtain ⟨b, o, a', c', rfl, hc, hbs⟩ := (hp1.below hbf).cells k hkl
          have hsize := Fill.size hgr hkl hsz
          have HST := hide (fun w' ps' pv' xs' held' => @Fill.step w1 wr w' ll ps ps' k pv' xs' held' hbf hkl hgr)
          generalize ll.getD k [] = x at hc hbs hsize HST
          have hbz := hbf.size
          go_wp2_with (go_at_call 24; refine (addPartDoor_any _ _ _ ps x pv xs held _ _ (by exact hin) (by exact hbz) (by exact hbs) hsize).mono ?_; rintro e w3 ⟨rfl, hb3, ps', pv', xs', held', hin', hst'⟩)
          go_roundw
          case rel => exact ⟨k + 1, by omega, by go_num, HST.out _ _ _ _ _ hb3 hin' hst'⟩
          case measure => simp [intOf]; omega
        · obtain rfl : k = ll.length := by omega
          rw [List.take_length] at hgr
          have hpr := hp1.below hbf
          obtain ⟨a2, c2, rfl, hps⟩ := hin.bss
          have hbw : Below w.heap.size w wr := hb1.trans (hbf.mono hb1.size)
          clear hp1 hkl hk
          go_wp2_with fail
          refine (parts_any _ _ _ ps _ xs held hin).mono ?_
          rintro e w' ⟨rfl, hw⟩
          have hw := hw.symm
          subst hw
          have HG := hide hgr
          have hgle := hgr.le
          have hgt := hgr.tot
          have hpm := hps.max
          have hpl := hps.le
          unfold maxLen at hpm
          clear hin
          by_cases hl0 : ll.length = 0
          · have hp0 : ps.length = 0 := by omega
            clear hgr hgt
            go_wp2_with fail
            go_ret
            exact ⟨rfl, hbw⟩
          · have hp0 := hgr.pos (by omega)
            have HT := hide hgt
            have hq1 : (((ll.length : Nat) : Int) == 0) = false := beq_eq_false_iff_ne.2 (by omega)
            have hq2 : (((ps.length : Nat) : Int) == 0) = false := beq_eq_false_iff_ne.2 (by omega)
            have hq3 : decide (((ll.length : Nat) : Int) < ((ps.length : Nat) : Int)) = false := decide_eq_false (by omega)
            clear hgr hgt hl0
            go_wp2_with fail
            go_loop [6, 7, 8, 9] (fun fi fs s i => Ends ll ps fi fs s i) (fun _ _ _ i => ps.length - (intOf i).toNat)
            case atStart => exact ⟨0, 0, Nat.zero_le _, Nat.zero_le _, rfl, rfl, rfl, rfl, rfl⟩
            case round =>
              obtain ⟨k, f, hk, hf, rfl, rfl, rfl, rfl, hff⟩ := hrel
              by_cases hkl : k < ps.length
              · obtain ⟨b, o, a', c', rfl, hc, hbs⟩ := hps.cells k hkl
                have hts := tot_snoc ps k hkl
                have htl := tot_take_le ps (k + 1)
                have HE := hide (HG.out.ends (k + 1))
                have hin := HG.out.inner k
                have HTB : tot ps ≤ 1048576 := by have := HT.out; omega
                generalize ps.getD k [] = x at hc hbs hts hin
                rw [hts] at HE
                have HTS := hide hts
                have HFF := hide hff
                have hxb : tot (ps.take k) + x.length ≤ 1048576 := by omega
                have hxe : 0 < k → ((x.length : Int) == 0) = false := fun h0 => by have := hin h0 hkl; exact beq_eq_false_iff_ne.2 (by omega)
                clear hts hff hbs hin htl
                generalize tot (ps.take k) = t at *
                by_cases hk0 : 0 < k
                · have hxe := hxe hk0
                  go_wp2_with fail
                  go_loop [6, 7] (fun fi fs => Seek ll (t + x.length) fi fs) (fun fi _ => ll.length - (intOf fi).toNat)
                  case atStart => exact ⟨f, hf, rfl, by rw [HFF.out], by rw [HFF.out]; omega⟩
                  case round =>
                    obtain ⟨g, hg, rfl, rfl, hgS⟩ := hrel
                    clear HFF hf
                    by_cases hgl : g < ll.length
                    · by_cases hgt : tot (ll.take g) < t + x.length
                      · have hs2 := ends_step HE.out hgt
                        have hs3 := tot_snoc ll g hgl
                        obtain ⟨b', o', a3, c3, rfl, hc3, -⟩ := hpr.cells g hgl
                        generalize ll.getD g [] = y at hc3 hs3
                        have HS3 := hide hs3
                        have HS2 := hide hs2
                        have hyb : tot (ll.take g) + y.length ≤ 1048576 := by omega
                        clear hs2 hs3
                        generalize tot (ll.take g) = T at *
                        go_wp2_with fail
                        go_round
                        case rel => exact ⟨g + 1, by omega, by go_num, by rw [HS3.out]; go_num, HS2.out⟩
                        case measure => simp [intOf]; omega
                      · have HT2 : Hid (tot (ll.take g) = tot (ps.take (k + 1))) := hide (by rw [HTS.out]; omega)
                        have hT3 : t + x.length ≤ tot (ll.take g) := by omega
                        generalize hTg : tot (ll.take g) = T at *
                        have HTG := hide hTg
                        clear hTg
                        obtain rfl : T = t + x.length := by omega
                        clear hT3 hgS
                        go_wp2_with fail
                        go_round
                        case rel => (repeat apply Exists.intro); refine ⟨?_, rfl, rfl, rfl, rfl, rfl⟩; exact ⟨k + 1, g, by omega, hg, by go_num, by rw [HTS.out]; go_num, rfl, by rw [HTS.out]; go_num, by rw [← HT2.out]; exact HTG.out⟩
                        case measure => simp [intOf]; omega
                    · have hge : g = ll.length := by omega
                      have hT3 : t + x.length ≤ tot (ll.take g) := by
                        have := ends_all HE.out
                        rw [hge, List.take_length]
                        exact this
                      have HT2 : Hid (tot (ll.take g) = tot (ps.take (k + 1))) := hide (by rw [HTS.out]; omega)
                      clear hge
                      generalize hTg : tot (ll.take g) = T at *
                      have HTG := hide hTg
                      clear hTg
                      obtain rfl : T = t + x.length := by omega
                      clear hT3 hgS
                      go_wp2_with fail
                      go_round
                      case rel => (repeat apply Exists.intro); refine ⟨?_, rfl, rfl, rfl, rfl, rfl⟩; exact ⟨k + 1, g, by omega, hg, by go_num, by rw [HTS.out]; go_num, rfl, by rw [HTS.out]; go_num, by rw [← HT2.out]; exact HTG.out⟩
                      case measure => simp [intOf]; omega
                · clear hxe
                  go_wp2_with fail
                  go_loop [6, 7] (fun fi fs => Seek ll (t + x.length) fi fs) (fun fi _ => ll.length - (intOf fi).toNat)
                  case atStart => exact ⟨f, hf, rfl, by rw [HFF.out], by rw [HFF.out]; omega⟩
                  case round =>
                    obtain ⟨g, hg, rfl, rfl, hgS⟩ := hrel
                    clear HFF hf
                    by_cases hgl : g < ll.length
                    · by_cases hgt : tot (ll.take g) < t + x.length
                      · have hs2 := ends_step HE.out hgt
                        have hs3 := tot_snoc ll g hgl
                        obtain ⟨b', o', a3, c3, rfl, hc3, -⟩ := hpr.cells g hgl
                        generalize ll.getD g [] = y at hc3 hs3
                        have HS3 := hide hs3
                        have HS2 := hide hs2
                        have hyb : tot (ll.take g) + y.length ≤ 1048576 := by omega
                        clear hs2 hs3
                        generalize tot (ll.take g) = T at *
                        go_wp2_with fail
                        go_round
                        case rel => exact ⟨g + 1, by omega, by go_num, by rw [HS3.out]; go_num, HS2.out⟩
                        case measure => simp [intOf]; omega
                      · have HT2 : Hid (tot (ll.take g) = tot (ps.take (k + 1))) := hide (by rw [HTS.out]; omega)
                        have hT3 : t + x.length ≤ tot (ll.take g) := by omega
                        generalize hTg : tot (ll.take g) = T at *
                        have HTG := hide hTg
                        clear hTg
                        obtain rfl : T = t + x.length := by omega
                        clear hT3 hgS
                        go_wp2_with fail
                        go_round
                        case rel => (repeat apply Exists.intro); refine ⟨?_, rfl, rfl, rfl, rfl, rfl⟩; exact ⟨k + 1, g, by omega, hg, by go_num, by rw [HTS.out]; go_num, rfl, by rw [HTS.out]; go_num, by rw [← HT2.out]; exact HTG.out⟩
                        case measure => simp [intOf]; omega
                    · have hge : g = ll.length := by omega
                      have hT3 : t + x.length ≤ tot (ll.take g) := by
                        have := ends_all HE.out
                        rw [hge, List.take_length]
                        exact this
                      have HT2 : Hid (tot (ll.take g) = tot (ps.take (k + 1))) := hide (by rw [HTS.out]; omega)
                      clear hge
                      generalize hTg : tot (ll.take g) = T at *
                      have HTG := hide hTg
                      clear hTg
                      obtain rfl : T = t + x.length := by omega
                      clear hT3 hgS
                      go_wp2_with fail
                      go_round
                      case rel => (repeat apply Exists.intro); refine ⟨?_, rfl, rfl, rfl, rfl, rfl⟩; exact ⟨k + 1, g, by omega, hg, by go_num, by rw [HTS.out]; go_num, rfl, by rw [HTS.out]; go_num, by rw [← HT2.out]; exact HTG.out⟩
                      case measure => simp [intOf]; omega
              · obtain rfl : k = ps.length := by omega
                clear hff
                go_wp2_with fail
                refine (totalLen_any _ _ _ ll hpr (by omega)).mono ?_
                rintro e w' ⟨rfl, hw⟩
                have hw := hw.symm
                subst hw
                rw [HT.out]
                go_wp2_with fail
                go_ret
                exact ⟨rfl, hbw⟩

end Go.Proofs.Qxb6600602a
