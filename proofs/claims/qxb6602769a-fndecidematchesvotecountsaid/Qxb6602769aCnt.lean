/-
  decideByCount (8).
-/
import Derived.Test.Qxb6602769aDec
namespace Go.Proofs.Qxb6602769a
open Go.RowKit Go.Maps

def pr (f : Int → Option Int) (x : Int) : Bool := (f x).isSome && !(p5 f x || okV f x)

theorem any_count (l : List Int) (p : Int → Bool) : l.any p = decide (0 < l.countP p) := by
  rw [Bool.eq_iff_iff, List.any_eq_true, decide_eq_true_iff, List.countP_pos_iff]

theorem all_count (l : List Int) (f : Int → Option Int) (h5 : l.countP (p5 f) = 0) (hn : l.countP (pn f) = 0) : l.all (okV f) = decide (l.countP (pr f) = 0) := by
  rw [Bool.eq_iff_iff, List.all_eq_true, decide_eq_true_iff, List.countP_eq_zero]
  rw [List.countP_eq_zero] at h5 hn
  constructor
  · intro h x hx hp
    have := h x hx
    unfold pr at hp
    rw [this] at hp
    simp at hp
  · intro h x hx
    have a1 := h5 x hx
    have a2 := hn x hx
    have a3 := h x hx
    unfold pr at a3
    unfold pn at a2
    cases e5 : p5 f x with
    | true => exact absurd e5 a1
    | false =>
      cases ho : okV f x with
      | true => rfl
      | false =>
        cases hf : f x with
        | none => simp [hf] at a2
        | some v => simp [hf, e5, ho] at a3

theorem dec_count (l : List Int) (f : Int → Option Int) : dec l f = if 0 < l.countP (p5 f) then (1, true) else if 0 < l.countP (pn f) then (0, false) else if l.countP (pr f) = 0 ∧ 0 < l.countP (p4 f) then (1, true) else (2, true) := by
  rw [dec_eq, any_count l (p5 f), any_count l (pn f), any_count l (p4 f)]
  by_cases h1 : 0 < l.countP (p5 f)
  · simp [h1]
  · by_cases h2 : 0 < l.countP (pn f)
    · simp [h1, h2]
    · rw [all_count l f (by omega) (by omega)]
      simp [h1, h2]

def MC (l : List Int) (f : Int → Option Int) (w : World) (pv mv bv rv iv : Value) (wr : World) : Prop :=
  ∃ k : Nat, k ≤ l.length ∧ iv = .int .i64 k ∧ pv = .int .i64 ((l.take k).countP (p5 f)) ∧ mv = .int .i64 ((l.take k).countP (pn f)) ∧ bv = .int .i64 ((l.take k).countP (p4 f)) ∧ rv = .int .i64 ((l.take k).countP (pr f)) ∧ wr = w

theorem count_le (l : List Int) (p : Int → Bool) (k : Nat) : (l.take k).countP p ≤ k := by
  have := List.countP_le_length (p := p) (l := l.take k)
  simp at this
  omega

theorem MC.step {l : List Int} {f : Int → Option Int} {w : World} {k : Nat} {a b c d : Nat} {s5 sn s4 sr : Bool} (hlt : k < l.length)
    (A : (l.take (k + 1)).countP (p5 f) = a + (if s5 then 1 else 0)) (B : (l.take (k + 1)).countP (pn f) = b + (if sn then 1 else 0)) (C : (l.take (k + 1)).countP (p4 f) = c + (if s4 then 1 else 0)) (D : (l.take (k + 1)).countP (pr f) = d + (if sr then 1 else 0))
    {pv mv bv rv iv : Value} (hi : iv = .int .i64 ((k + 1 : Nat) : Int)) (hp : pv = .int .i64 ((a + (if s5 then 1 else 0) : Nat) : Int)) (hm : mv = .int .i64 ((b + (if sn then 1 else 0) : Nat) : Int)) (hb : bv = .int .i64 ((c + (if s4 then 1 else 0) : Nat) : Int)) (hr : rv = .int .i64 ((d + (if sr then 1 else 0) : Nat) : Int)) :
    MC l f w pv mv bv rv iv w := ⟨k + 1, by omega, hi, by rw [A]; exact hp, by rw [B]; exact hm, by rw [C]; exact hb, by rw [D]; exact hr, rfl⟩

set_option maxHeartbeats 2000000 in
theorem count_any (w : World) (a : Option Addr) (c : Nat) (l : List Int) (m : Option Nat) (f : Int → Option Int) (h : US w a c l) (hl : l.length ≤ 65536) (hL : Look w 23 (.map m) f) :
    Calls Try.prog 8 #[.slice a l.length c, .map m] w (DecP w l f) := by
  have HU := hide h
  have HL := hide hL
  clear h hL
  go_enter Try.func8, Try.ntmps8
  go_wp2_with fail
  go_loopw [6, 7, 8, 9, 10] (fun pv mv bv rv iv wr => MC l f w pv mv bv rv iv wr) (fun _ _ _ _ iv _ => l.length - (intOf iv).toNat)
  case atStart => exact ⟨0, Nat.zero_le _, rfl, rfl, rfl, rfl, rfl, rfl⟩
  case round =>
    obtain ⟨k, hk, rfl, rfl, rfl, rfl, rfl, hw⟩ := hrel
    have hw := hw.symm
    subst hw
    have c1 := count_le l (p5 f) k
    have c2 := count_le l (pn f) k
    have c3 := count_le l (p4 f) k
    have c4 := count_le l (pr f) k
    by_cases hlt : k < l.length
    · obtain ⟨b, o, rfl, hc⟩ := HU.out.cells k hlt
      have hlk := HL.out _ (HU.out.word k hlt)
      have A5 := hide (count_take l (p5 f) k hlt)
      have AN := hide (count_take l (pn f) k hlt)
      have A4 := hide (count_take l (p4 f) k hlt)
      have AR := hide (count_take l (pr f) k hlt)
      generalize (l.take k).countP (p5 f) = n5 at *
      generalize (l.take k).countP (pn f) = nn at *
      generalize (l.take k).countP (p4 f) = n4 at *
      generalize (l.take k).countP (pr f) = nr at *
      have hlt' : (k : Int) < (l.length : Int) := by omega
      have hk0 : (0 : Int) ≤ (k : Int) := by omega
      have V : Hid (p5 f (l.getD k 0) = ((f (l.getD k 0)).getD 0 == 5) ∧ p4 f (l.getD k 0) = ((f (l.getD k 0)).getD 0 == 4) ∧ pn f (l.getD k 0) = !(f (l.getD k 0)).isSome ∧
          pr f (l.getD k 0) = ((f (l.getD k 0)).isSome && !((f (l.getD k 0)).getD 0 == 5 || ((f (l.getD k 0)).getD 0 == 3 || (f (l.getD k 0)).getD 0 == 4 || (f (l.getD k 0)).getD 0 == 1))) ∧ ((f (l.getD k 0)).isSome = false → (f (l.getD k 0)).getD 0 = 0)) :=
        hide ⟨rfl, rfl, by unfold pn; cases f (l.getD k 0) <;> rfl, rfl, by cases f (l.getD k 0) <;> simp⟩
      generalize l.getD k 0 = x at hc hlk A5 AN A4 AR V
      generalize (f x).getD 0 = v at hlk V
      generalize (f x).isSome = s at hlk V
      obtain ⟨hl1, -⟩ := hlk
      generalize p5 f x = s5 at A5 V
      generalize p4 f x = s4 at A4 V
      generalize pn f x = sn at AN V
      generalize pr f x = sr at AR V
      cases s with
      | false =>
        obtain ⟨e1, e2, e3, e4, e5⟩ := V.out
        have e6 := e5 rfl
        subst e6
        subst e1 e2 e3 e4
        clear V e5
        go_wp2_with fail
        go_roundw
        case rel => exact MC.step hlt A5.out AN.out A4.out AR.out (by go_num) (by simp) (by go_num) (by simp) (by simp)
        case measure => simp [intOf]; omega
      | true =>
        obtain ⟨e1, e2, e3, e4, e5⟩ := V.out
        clear V e5
        by_cases v5 : v = 5
        · subst v5
          subst e1 e2 e3 e4
          go_wp2_with fail
          go_roundw
          case rel => exact MC.step hlt A5.out AN.out A4.out AR.out (by go_num) (by go_num) (by simp) (by simp) (by simp)
          case measure => simp [intOf]; omega
        · by_cases v4 : v = 4
          · subst v4
            subst e1 e2 e3 e4
            go_wp2_with fail
            go_roundw
            case rel => exact MC.step hlt A5.out AN.out A4.out AR.out (by go_num) (by simp) (by simp) (by go_num) (by simp)
            case measure => simp [intOf]; omega
          · by_cases v3 : v = 3
            · subst v3
              subst e1 e2 e3 e4
              go_wp2_with fail
              go_roundw
              case rel => exact MC.step hlt A5.out AN.out A4.out AR.out (by go_num) (by simp) (by simp) (by simp) (by simp)
              case measure => simp [intOf]; omega
            · by_cases v1 : v = 1
              · subst v1
                subst e1 e2 e3 e4
                go_wp2_with fail
                go_roundw
                case rel => exact MC.step hlt A5.out AN.out A4.out AR.out (by go_num) (by simp) (by simp) (by simp) (by simp)
                case measure => simp [intOf]; omega
              · rw [beq_eq_false_iff_ne.2 v5] at e1 e4
                rw [beq_eq_false_iff_ne.2 v4] at e2 e4
                rw [beq_eq_false_iff_ne.2 v3, beq_eq_false_iff_ne.2 v1] at e4
                subst e1 e2 e3 e4
                go_wp2_with fail
                go_roundw
                case rel => exact MC.step hlt A5.out AN.out A4.out AR.out (by go_num) (by simp) (by simp) (by simp) (by go_num)
                case measure => simp [intOf]; omega
    · obtain rfl : k = l.length := by omega
      have HD := hide (dec_count l f)
      rw [List.take_length] at *
      generalize l.countP (p5 f) = n5 at *
      generalize l.countP (pn f) = nn at *
      generalize l.countP (p4 f) = n4 at *
      generalize l.countP (pr f) = nr at *
      by_cases q5 : 0 < n5
      · have HE : Hid (dec l f = (1, true)) := hide (by rw [HD.out, if_pos q5])
        have q5' : (0 : Int) < (n5 : Int) := by omega
        go_wp2_with fail
        go_ret2
        exact DecP.of HE.out
      · have q5' : ¬ (0 : Int) < (n5 : Int) := by omega
        by_cases qn : 0 < nn
        · have HE : Hid (dec l f = (0, false)) := hide (by rw [HD.out, if_neg q5, if_pos qn])
          have qn' : (0 : Int) < (nn : Int) := by omega
          go_wp2_with fail
          go_ret2
          exact DecP.of HE.out
        · have qn' : ¬ (0 : Int) < (nn : Int) := by omega
          by_cases qr : nr = 0
          · subst qr
            by_cases q4 : 0 < n4
            · have HE : Hid (dec l f = (1, true)) := hide (by rw [HD.out, if_neg q5, if_neg qn, if_pos ⟨rfl, q4⟩])
              have q4' : (0 : Int) < (n4 : Int) := by omega
              go_wp2_with fail
              go_ret2
              exact DecP.of HE.out
            · have HE : Hid (dec l f = (2, true)) := hide (by rw [HD.out, if_neg q5, if_neg qn, if_neg (fun h => q4 h.2)])
              have q4' : ¬ (0 : Int) < (n4 : Int) := by omega
              go_wp2_with fail
              go_ret2
              exact DecP.of HE.out
          · have HE : Hid (dec l f = (2, true)) := hide (by rw [HD.out, if_neg q5, if_neg qn, if_neg (fun h => qr h.1)])
            have qr' : ¬ (nr : Int) = 0 := by omega
            go_wp2_with fail
            go_ret2
            exact DecP.of HE.out

end Go.Proofs.Qxb6602769a
