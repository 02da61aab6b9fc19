/-
  decide (10).
-/
import Derived.Test.Qxb6602769aBase
namespace Go.Proofs.Qxb6602769a
open Go.RowKit Go.Maps

def DecP (w : World) (l : List Int) (f : Int → Option Int) (e : Ending) (w' : World) : Prop := e = .returned (.tuple #[.int .u8 (dec l f).1, .bool (dec l f).2]) ∧ w' = w

theorem DecP.of {w : World} {l : List Int} {f : Int → Option Int} {r : Int} {b : Bool} (h : dec l f = (r, b)) : DecP w l f (.returned (.tuple #[.int .u8 r, .bool b])) w := ⟨by rw [h], rfl⟩

def p5 (f : Int → Option Int) (x : Int) : Bool := val f x == 5
def p4 (f : Int → Option Int) (x : Int) : Bool := val f x == 4
def pn (f : Int → Option Int) (x : Int) : Bool := (f x).isNone

theorem dec_eq (l : List Int) (f : Int → Option Int) : dec l f = if l.any (p5 f) then (1, true) else if l.any (pn f) then (0, false) else if l.all (okV f) && l.any (p4 f) then (1, true) else (2, true) := rfl

def M1 (l : List Int) (f : Int → Option Int) (w : World) (bv iv : Value) (wr : World) : Prop :=
  ∃ k : Nat, k ≤ l.length ∧ iv = .int .i64 k ∧ bv = .bool ((l.take k).any (p4 f)) ∧ (l.take k).any (p5 f) = false ∧ wr = w
def M2 (l : List Int) (f : Int → Option Int) (w : World) (iv : Value) (wr : World) : Prop :=
  ∃ k : Nat, k ≤ l.length ∧ iv = .int .i64 k ∧ (l.take k).any (pn f) = false ∧ wr = w
def M3 (l : List Int) (f : Int → Option Int) (w : World) (iv : Value) (wr : World) : Prop :=
  ∃ k : Nat, k ≤ l.length ∧ iv = .int .i64 k ∧ (l.take k).all (okV f) = true ∧ wr = w

set_option maxHeartbeats 2000000 in
theorem decide_any (w : World) (a : Option Addr) (c : Nat) (l : List Int) (m : Option Nat) (f : Int → Option Int) (h : US w a c l) (hl : l.length ≤ 65536) (hL : Look w 35 (.map m) f) :
    Calls Try.prog 10 #[.slice a l.length c, .map m] w (DecP w l f) := by
  have HU := hide h
  have HL := hide hL
  clear h hL
  go_enter Try.func10, Try.ntmps10
  go_wp2_with fail
  go_loopw [6, 17] (fun bv iv wr => M1 l f w bv iv wr) (fun _ iv _ => l.length - (intOf iv).toNat)
  case atStart => exact ⟨0, Nat.zero_le _, rfl, rfl, rfl, rfl⟩
  case round =>
    obtain ⟨k, hk, rfl, rfl, h5, hw⟩ := hrel
    have hw := hw.symm
    subst hw
    by_cases hlt : k < l.length
    · obtain ⟨b, o, rfl, hc⟩ := HU.out.cells k hlt
      have hlk := HL.out _ (HU.out.word k hlt)
      have A4 := hide (any_take l (p4 f) k hlt)
      have A5 := hide (any_take l (p5 f) k hlt)
      have X5 := hide (any_of l (p5 f) k hlt)
      have H5 := hide h5
      have hlt' : (k : Int) < (l.length : Int) := by omega
      have hk0 : (0 : Int) ≤ (k : Int) := by omega
      have V4 : Hid (p4 f (l.getD k 0) = (((f (l.getD k 0)).getD 0) == 4)) := hide rfl
      have V5 : Hid (p5 f (l.getD k 0) = (((f (l.getD k 0)).getD 0) == 5)) := hide rfl
      generalize l.getD k 0 = x at hc hlk A4 A5 X5 V4 V5
      generalize (f x).getD 0 = v at hlk V4 V5
      obtain ⟨-, hl2⟩ := hlk
      clear h5
      by_cases v5 : v = 5
      · subst v5
        have HD : Hid (dec l f = (1, true)) := hide (by rw [dec_eq, X5.out (by rw [V5.out]; rfl)]; rfl)
        go_wp2_with fail
        go_ret2
        exact DecP.of HD.out
      · by_cases v4 : v = 4
        · subst v4
          go_wp2_with fail
          go_roundw
          case rel => exact ⟨k + 1, by omega, by go_num, by rw [A4.out, V4.out]; simp, by rw [A5.out, H5.out, V5.out]; rfl, rfl⟩
          case measure => simp [intOf]; omega
        · go_wp2_with fail
          go_roundw
          case rel => exact ⟨k + 1, by omega, by go_num, by rw [A4.out, V4.out, beq_eq_false_iff_ne.2 v4]; simp, by rw [A5.out, H5.out, V5.out, beq_eq_false_iff_ne.2 v5]; rfl, rfl⟩
          case measure => simp [intOf]; omega
    · obtain rfl : k = l.length := by omega
      rw [List.take_length] at *
      generalize hb4 : l.any (p4 f) = b4
      have H4 := hide hb4
      have H5 := hide h5
      clear hb4 h5
      go_wp2_with fail
      go_loopw [31] (fun iv wr => M2 l f w iv wr) (fun iv _ => l.length - (intOf iv).toNat)
      case atStart => exact ⟨0, Nat.zero_le _, rfl, rfl, rfl⟩
      case round =>
        obtain ⟨k, hk, rfl, hn, hw⟩ := hrel
        have hw := hw.symm
        subst hw
        by_cases hlt : k < l.length
        · obtain ⟨b, o, rfl, hc⟩ := HU.out.cells k hlt
          have hlk := HL.out _ (HU.out.word k hlt)
          have AN := hide (any_take l (pn f) k hlt)
          have XN := hide (any_of l (pn f) k hlt)
          have HN := hide hn
          have hlt' : (k : Int) < (l.length : Int) := by omega
          have hk0 : (0 : Int) ≤ (k : Int) := by omega
          have VN : Hid (pn f (l.getD k 0) = !(f (l.getD k 0)).isSome) := hide (by unfold pn; cases f (l.getD k 0) <;> rfl)
          generalize l.getD k 0 = x at hc hlk AN XN VN
          generalize (f x).getD 0 = v at hlk
          generalize (f x).isSome = s at hlk VN
          obtain ⟨hl1, -⟩ := hlk
          clear hn
          cases s with
          | true =>
            go_wp2_with fail
            go_roundw
            case rel => exact ⟨k + 1, by omega, by go_num, by rw [AN.out, HN.out, VN.out]; rfl, rfl⟩
            case measure => simp [intOf]; omega
          | false =>
            have HD : Hid (dec l f = (0, false)) := hide (by rw [dec_eq, H5.out, XN.out (by rw [VN.out]; rfl)]; rfl)
            go_wp2_with fail
            go_ret2
            exact DecP.of HD.out
        · obtain rfl : k = l.length := by omega
          rw [List.take_length] at hn
          have HN := hide hn
          clear hn
          go_wp2_with fail
          go_loopw [46] (fun iv wr => M3 l f w iv wr) (fun iv _ => l.length - (intOf iv).toNat)
          case atStart => exact ⟨0, Nat.zero_le _, rfl, rfl, rfl⟩
          case round =>
            obtain ⟨k, hk, rfl, ha, hw⟩ := hrel
            have hw := hw.symm
            subst hw
            by_cases hlt : k < l.length
            · obtain ⟨b, o, rfl, hc⟩ := HU.out.cells k hlt
              have hlk := HL.out _ (HU.out.word k hlt)
              have AO := hide (all_take l (okV f) k hlt)
              have HA := hide ha
              have hlt' : (k : Int) < (l.length : Int) := by omega
              have hk0 : (0 : Int) ≤ (k : Int) := by omega
              have VO : Hid (okV f (l.getD k 0) = ((f (l.getD k 0)).getD 0 == 3 || (f (l.getD k 0)).getD 0 == 4 || (f (l.getD k 0)).getD 0 == 1)) := hide rfl
              have XO : Hid (okV f (l.getD k 0) = false → l.all (okV f) = false) := hide (fun e => List.all_eq_false.2 ⟨_, getD_mem l k hlt, fun hh => by rw [e] at hh; cases hh⟩)
              generalize l.getD k 0 = x at hc hlk AO VO XO
              generalize (f x).getD 0 = v at hlk VO
              obtain ⟨-, hl2⟩ := hlk
              clear ha
              by_cases v3 : v = 3
              · subst v3
                go_wp2_with fail
                go_roundw
                case rel => exact ⟨k + 1, by omega, by go_num, by rw [AO.out, HA.out, VO.out]; rfl, rfl⟩
                case measure => simp [intOf]; omega
              · by_cases v4 : v = 4
                · subst v4
                  go_wp2_with fail
                  go_roundw
                  case rel => exact ⟨k + 1, by omega, by go_num, by rw [AO.out, HA.out, VO.out]; rfl, rfl⟩
                  case measure => simp [intOf]; omega
                · by_cases v1 : v = 1
                  · subst v1
                    go_wp2_with fail
                    go_roundw
                    case rel => exact ⟨k + 1, by omega, by go_num, by rw [AO.out, HA.out, VO.out]; rfl, rfl⟩
                    case measure => simp [intOf]; omega
                  · have HD : Hid (dec l f = (2, true)) := hide (by
                      have := XO.out (by rw [VO.out, beq_eq_false_iff_ne.2 v3, beq_eq_false_iff_ne.2 v4, beq_eq_false_iff_ne.2 v1]; rfl)
                      rw [dec_eq, H5.out, HN.out, this]; rfl)
                    go_wp2_with fail
                    go_ret2
                    exact DecP.of HD.out
            · obtain rfl : k = l.length := by omega
              rw [List.take_length] at ha
              cases b4 with
              | true =>
                have HD : Hid (dec l f = (1, true)) := hide (by rw [dec_eq, H5.out, HN.out, ha, H4.out]; rfl)
                clear ha
                go_wp2_with fail
                go_ret2
                exact DecP.of HD.out
              | false =>
                have HD : Hid (dec l f = (2, true)) := hide (by rw [dec_eq, H5.out, HN.out, ha, H4.out]; rfl)
                clear ha
                go_wp2_with fail
                go_ret2
                exact DecP.of HD.out

end Go.Proofs.Qxb6602769a
