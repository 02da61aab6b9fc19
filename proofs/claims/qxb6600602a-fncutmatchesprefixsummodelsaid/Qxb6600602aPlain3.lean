/-
  The running sums of FnCutMatchesPrefixSumModel: how many pieces begin before octet n, and what cut answers by that number. No Go in sight.
-/
import Derived.Test.Qxb6600602aCut
namespace Go.Proofs.Qxb6600602a

/-- Of the first k pieces: how many begin before octet n. -/
def cj (ll : List (List Int)) (n : Int) : Nat → Nat
  | 0 => 0
  | k + 1 => cj ll n k + if (tot (ll.take k) : Int) < n then 1 else 0

def cntR : List (List Int) → Int → Nat
  | [], _ => 0
  | p :: r, n => if n ≤ 0 then 0 else 1 + cntR r (n - p.length)

theorem cj_le (ll : List (List Int)) (n : Int) (k : Nat) : cj ll n k ≤ k := by
  induction k with
  | zero => exact Nat.le_refl _
  | succ k ih => rw [cj]; split <;> omega

theorem cj_neg (ll : List (List Int)) (n : Int) (h : n ≤ 0) (k : Nat) : cj ll n k = 0 := by
  induction k with
  | zero => rfl
  | succ k ih => rw [cj, ih, if_neg (by omega)]

theorem cj_cons (p : List Int) (r : List (List Int)) (n : Int) (h : 0 < n) (k : Nat) : cj (p :: r) n (k + 1) = 1 + cj r (n - p.length) k := by
  induction k with
  | zero => rw [cj, cj, cj, if_pos (by simpa [tot] using h)]
  | succ k ih =>
    rw [cj, ih, cj, List.take_succ_cons, tot]
    by_cases hc : (tot (r.take k) : Int) < n - p.length
    · rw [if_pos (by omega), if_pos hc]; omega
    · rw [if_neg (by omega), if_neg hc]; omega

theorem cj_all (ll : List (List Int)) (n : Int) : cj ll n ll.length = cntR ll n := by
  induction ll generalizing n with
  | nil => rfl
  | cons p r ih =>
    rw [cntR]
    by_cases h : n ≤ 0
    · rw [if_pos h, cj_neg _ _ h]
    · rw [if_neg h, List.length_cons, cj_cons _ _ _ (by omega), ih]

theorem cntR_neg (ll : List (List Int)) (n : Int) (h : n ≤ 0) : cntR ll n = 0 := by
  cases ll with
  | nil => rfl
  | cons p r => rw [cntR, if_pos h]
theorem cutF_neg (ll : List (List Int)) (n : Int) (h : n ≤ 0) : cutF ll n = [] := by
  cases ll with
  | nil => rfl
  | cons p r => rw [cutF, if_pos h]
theorem cutR_neg (ll : List (List Int)) (n : Int) (h : n ≤ 0) : cutR ll n = ll := by
  cases ll with
  | nil => rfl
  | cons p r => rw [cutR, if_pos h]

/-- What cut answers, by the number J of the pieces that begin before octet n. -/
def CutBy (ll : List (List Int)) (n : Int) (J : Nat) : Prop :=
  J ≤ ll.length ∧ ((tot (ll.take J) : Int) ≤ n → cutF ll n = ll.take J ∧ cutR ll n = ll.drop J) ∧
  (n < tot (ll.take J) → ∃ J' k : Nat, J = J' + 1 ∧ J' < ll.length ∧ (k : Int) = n - (tot (ll.take J) - ((ll.getD J' []).length : Int)) ∧ k < (ll.getD J' []).length ∧
    cutF ll n = ll.take J' ++ [(ll.getD J' []).take k] ∧ cutR ll n = (ll.getD J' []).drop k :: ll.drop J)

theorem cut_by (ll : List (List Int)) (n : Int) (h : 0 < n) : CutBy ll n (cntR ll n) := by
  induction ll generalizing n with
  | nil => exact ⟨Nat.le_refl _, fun _ => ⟨rfl, rfl⟩, fun e => by simp [cntR, tot] at e; omega⟩
  | cons p r ih =>
    have hJ : cntR (p :: r) n = cntR r (n - p.length) + 1 := by rw [cntR, if_neg (by omega)]; omega
    rw [hJ]
    by_cases h1 : n < p.length
    · rw [cntR_neg _ _ (by omega)]
      refine ⟨by simp, fun e => by simp [tot] at e; omega, fun _ => ⟨0, n.toNat, rfl, by simp, ?_, ?_, ?_, ?_⟩⟩
      · simp [tot]; omega
      · simp; omega
      · rw [cutF, if_neg (by omega), if_pos h1]; rfl
      · rw [cutR, if_neg (by omega), if_pos h1]; rfl
    · have hF : cutF (p :: r) n = p :: cutF r (n - p.length) := by rw [cutF, if_neg (by omega), if_neg h1]
      have hR : cutR (p :: r) n = cutR r (n - p.length) := by rw [cutR, if_neg (by omega), if_neg h1]
      by_cases h2 : n - p.length = 0
      · rw [h2] at hF hR
        unfold CutBy
        rw [hF, hR, h2, cntR_neg _ _ (Int.le_refl _), cutF_neg _ _ (Int.le_refl _), cutR_neg _ _ (Int.le_refl _)]
        exact ⟨by simp, fun _ => ⟨by simp, by simp⟩, fun e => by simp [tot] at e; omega⟩
      · obtain ⟨i1, i2, i3⟩ := ih (n - p.length) (by omega)
        unfold CutBy
        rw [hF, hR]
        refine ⟨by simpa using i1, fun e => ?_, fun e => ?_⟩
        · rw [List.take_succ_cons, tot] at e
          obtain ⟨j1, j2⟩ := i2 (by omega)
          rw [j1, j2]
          exact ⟨by simp, by simp⟩
        · rw [List.take_succ_cons, tot] at e
          obtain ⟨J', k, e1, e2, e3, e4, e5, e6⟩ := i3 (by omega)
          refine ⟨J' + 1, k, by omega, by simpa using e2, ?_, by simpa using e4, ?_, ?_⟩
          · rw [List.take_succ_cons, tot, List.getD_cons_succ]; omega
          · rw [e5]; simp
          · rw [e6]; simp

end Go.Proofs.Qxb6600602a
