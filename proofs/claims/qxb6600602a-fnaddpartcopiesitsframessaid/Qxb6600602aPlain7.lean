/-
  Parts as groups of frames: no Go in sight.
-/
import Derived.Test.Qxb6600602aIntake
namespace Go.Proofs.Qxb6600602a

/-- The parts ps are the frames fs, laid together in groups: no group empty; every group but the first holds an octet. -/
def Grp (fs ps : List (List Int)) : Prop :=
  ∃ gs : List (List (List Int)), gs.flatten = fs ∧ ps = gs.map List.flatten ∧ (∀ g ∈ gs, g ≠ []) ∧ ∀ i, 0 < i → i < gs.length → 0 < tot (gs.getD i [])

theorem Grp.start : Grp [] [] := ⟨[], rfl, rfl, by simp, by simp⟩

theorem tot_single (x : List Int) : tot [x] = x.length := by simp [tot]

theorem Grp.step {fs ps ps' : List (List Int)} {x : List Int} (h : Grp fs ps) (hs : Step ps x ps') : Grp (fs ++ [x]) ps' := by
  obtain ⟨gs, rfl, rfl, h1, h2⟩ := h
  rcases hs with ⟨pre, l, e1, rfl⟩ | ⟨hc, rfl⟩
  · rcases List.eq_nil_or_concat gs with rfl | ⟨gp, g, rfl⟩
    · simp at e1
    · rw [List.concat_eq_append] at *
      rw [List.map_append] at e1
      obtain ⟨e2, e3⟩ := List.append_inj' e1 rfl
      simp only [List.map_cons, List.map_nil, List.cons.injEq, and_true] at e3
      refine ⟨gp ++ [g ++ [x]], by simp, by simp [e2, e3], ?_, ?_⟩
      · intro g' hg'
        rcases List.mem_append.1 hg' with h | h
        · exact h1 g' (List.mem_append_left _ h)
        · simp at h; rw [h]; simp
      · intro i hi0 hi
        by_cases e : i < gp.length
        · have := h2 i hi0 (by simp; omega)
          simpa [List.getD, List.getElem?_append_left e] using this
        · obtain rfl : i = gp.length := by simp at hi; omega
          have := h2 gp.length hi0 (by simp)
          simp [List.getD] at this ⊢
          rw [tot_append]; omega
  · refine ⟨gs ++ [[x]], by simp, by simp, ?_, ?_⟩
    · intro g' hg'
      rcases List.mem_append.1 hg' with h | h
      · exact h1 g' h
      · simp at h; rw [h]; simp
    · intro i hi0 hi
      by_cases e : i < gs.length
      · have := h2 i hi0 e
        simpa [List.getD, List.getElem?_append_left e] using this
      · obtain rfl : i = gs.length := by simp at hi; omega
        rcases hc with hc | hc
        · simp at hc
          subst hc
          simp at hi0
        · simp [List.getD, tot_single]
          exact hc

theorem flat_map (gs : List (List (List Int))) : (gs.map List.flatten).flatten = gs.flatten.flatten := by
  induction gs with
  | nil => rfl
  | cons g r ih => simp [ih]

theorem tot_map (gs : List (List (List Int))) : tot (gs.map List.flatten) = tot gs.flatten := by
  rw [← tot_flatten, ← tot_flatten, flat_map]

theorem Grp.flat {fs ps : List (List Int)} (h : Grp fs ps) : ps.flatten = fs.flatten := by
  obtain ⟨gs, rfl, rfl, _, _⟩ := h
  exact flat_map gs

theorem Grp.tot {fs ps : List (List Int)} (h : Grp fs ps) : Qxb6600602a.tot ps = Qxb6600602a.tot fs := by
  rw [← tot_flatten, ← tot_flatten, h.flat]

theorem length_groups (gs : List (List (List Int))) (h : ∀ g ∈ gs, g ≠ []) : gs.length ≤ gs.flatten.length := by
  induction gs with
  | nil => simp
  | cons g r ih =>
    have h1 := ih fun g' hg => h g' (List.mem_cons_of_mem _ hg)
    have h2 : 0 < g.length := List.length_pos_iff.2 (h g List.mem_cons_self)
    rw [List.flatten_cons, List.length_append, List.length_cons]
    omega

theorem Grp.le {fs ps : List (List Int)} (h : Grp fs ps) : ps.length ≤ fs.length := by
  obtain ⟨gs, rfl, rfl, h1, _⟩ := h
  rw [List.length_map]
  exact length_groups gs h1

theorem Grp.pos {fs ps : List (List Int)} (h : Grp fs ps) (hf : 0 < fs.length) : 0 < ps.length := by
  obtain ⟨gs, rfl, rfl, h1, _⟩ := h
  cases gs with
  | nil => simp at hf
  | cons g r => simp

theorem Grp.inner {fs ps : List (List Int)} (h : Grp fs ps) (i : Nat) (hi0 : 0 < i) (hi : i < ps.length) : 0 < (ps.getD i []).length := by
  obtain ⟨gs, rfl, rfl, h1, h2⟩ := h
  rw [List.length_map] at hi
  have := h2 i hi0 hi
  have e : (gs.map List.flatten).getD i [] = (gs.getD i []).flatten := by simp [List.getD, hi]
  rw [e, tot_flatten]
  exact this

/-- Every end of a part is an end of a frame. -/
theorem Grp.ends {fs ps : List (List Int)} (h : Grp fs ps) (i : Nat) : ∃ e, e ≤ fs.length ∧ Qxb6600602a.tot (fs.take e) = Qxb6600602a.tot (ps.take i) := by
  obtain ⟨gs, rfl, rfl, h1, h2⟩ := h
  refine ⟨(gs.take i).flatten.length, ?_, ?_⟩
  · have : gs.flatten = (gs.take i).flatten ++ (gs.drop i).flatten := by rw [← List.flatten_append, List.take_append_drop]
    rw [this, List.length_append]
    omega
  · rw [← List.map_take, tot_map]
    congr 1
    have : gs.flatten = (gs.take i).flatten ++ (gs.drop i).flatten := by rw [← List.flatten_append, List.take_append_drop]
    rw [this]
    exact List.take_left

theorem tot_take_mono (x : List (List Int)) (a b : Nat) (h : a ≤ b) : tot (x.take a) ≤ tot (x.take b) := by
  have := tot_take_le (x.take b) a
  rw [List.take_take, Nat.min_eq_left h] at this
  exact this

/-- One round of the search for the end S: as long as the sum is below S, one frame more does not pass S. -/
theorem ends_step {fs : List (List Int)} {S f : Nat} (h : ∃ e, e ≤ fs.length ∧ tot (fs.take e) = S) (hf : tot (fs.take f) < S) : tot (fs.take (f + 1)) ≤ S := by
  obtain ⟨e, he, rfl⟩ := h
  have hfe : f < e := by
    by_cases c : f < e
    · exact c
    · have := tot_take_mono fs e f (by omega); omega
  exact tot_take_mono fs (f + 1) e hfe

theorem ends_all {fs : List (List Int)} {S : Nat} (h : ∃ e, e ≤ fs.length ∧ tot (fs.take e) = S) : S ≤ tot fs := by
  obtain ⟨e, he, rfl⟩ := h
  exact tot_take_le fs e

end Go.Proofs.Qxb6600602a
