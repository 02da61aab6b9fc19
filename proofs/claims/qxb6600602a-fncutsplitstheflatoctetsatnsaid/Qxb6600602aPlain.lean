/-
  Plain facts on cutF and cutR: no Go in sight.
-/
import Derived.Test.Qxb6600602aCut
namespace Go.Proofs.Qxb6600602a

theorem cut_flat (ll : List (List Int)) (n : Int) : (cutF ll n).flatten = ll.flatten.take n.toNat ∧ (cutR ll n).flatten = ll.flatten.drop n.toNat := by
  induction ll generalizing n with
  | nil => simp [cutF, cutR]
  | cons p r ih =>
    rw [cutF, cutR]
    by_cases h0 : n ≤ 0
    · have e : n.toNat = 0 := by omega
      simp [h0, e]
    · by_cases h1 : n < p.length
      · have h2 : n.toNat ≤ p.length := by omega
        simp only [h0, h1, if_true, if_false, List.flatten_cons, List.flatten_nil, List.append_nil]
        exact ⟨(List.take_append_of_le_length h2).symm, (List.drop_append_of_le_length h2).symm⟩
      · simp only [h0, h1, if_false, List.flatten_cons]
        obtain ⟨i1, i2⟩ := ih (n - p.length)
        have e : n.toNat = p.length + (n - p.length).toNat := by omega
        rw [i1, i2, e, List.take_length_add_append, List.drop_length_add_append]
        exact ⟨rfl, rfl⟩

theorem cut_tot (ll : List (List Int)) (n : Int) : tot (cutF ll n) = min n.toNat (tot ll) ∧ tot (cutF ll n) + tot (cutR ll n) = tot ll := by
  obtain ⟨h1, h2⟩ := cut_flat ll n
  rw [← tot_flatten, ← tot_flatten, ← tot_flatten, h1, h2]
  simp
  omega

end Go.Proofs.Qxb6600602a
