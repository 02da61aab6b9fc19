/-
  The row's proof.
-/
import Derived.Test.Qxb6602769aLaw
import Derived.Test.Qxb6602769aRows
import Derived.WalkKit
import Derived.ProofKit
import Derived.OpenShut
import Derived.ShutString
import Derived.ChangeOld
import Derived.Below
namespace Go.Proofs.Qxb6602769a.fnDecideMatchesVoteCount
open Go.ChangeShapes Go.WideShapes Go.ChangeAt Go.RowKit Go.WideElems

theorem own : ownKnob Try.prog.godebug = none := by kernel_rfl
theorem laidOut : laidOutB Try.prog = true := by kernel_rfl

theorem open_us {H : Type} {enc : TypeId × Value → H} {w : World} {held : Bool} {fuel : Nat} {a : Option Addr} {len cap : Nat} {x : DataW H × List MemPlace}
    (h : DataW.trod enc Try.prog w 0 (fun _ => true) held fuel 22 [.slice a len cap] = some x) : ∃ l, len = l.length ∧ US w a cap l := by
  rcases open_ints Try.underlying22 Try.underlying27 (by kernel_rfl) h with ⟨hcs, _⟩ | ⟨ad, l', c', zs, hcs, _, hl, hm, hz, _, hcell, hwz⟩
  · simp at hcs
    obtain ⟨rfl, rfl, rfl⟩ := hcs
    exact ⟨[], rfl, ⟨Nat.zero_le _, Nat.zero_le _, fun _ => rfl, fun i hi => absurd hi (by simp), fun i hi => absurd hi (by simp)⟩⟩
  · simp at hcs
    obtain ⟨rfl, rfl, rfl⟩ := hcs
    have hz' : zs.length = cap := by simpa using hz
    have hlen : (zs.take len).length = len := by simp; omega
    have hg : ∀ i, i < (zs.take len).length → (zs.take len).getD i 0 = zs.getD i 0 := fun i hi => by
      rw [hlen] at hi
      simp [List.getD, hi]
    refine ⟨zs.take len, hlen.symm, by omega, hm, (fun e => by cases e), fun i hi => ?_, fun i hi => ?_⟩
    · rw [hg i hi]
      rw [hlen] at hi
      exact hwz _ (by simp [List.getD, List.getElem?_eq_getElem (show i < zs.length by omega)])
    · rw [hg i hi]
      rw [hlen] at hi
      have hc := hcell i (by omega)
      obtain ⟨b, o, spot⟩ := ad
      have hspot : spot = none := by simpa [Addr.add] using World.cell?_spot (hcell 0 (by omega))
      subst hspot
      rw [Addr.add_lit] at hc
      exact ⟨b, o, rfl, hc⟩

set_option maxRecDepth 100000 in
theorem lifted (os : Os) (started : os.Started) (H : Type) (enc : TypeId × Value → H) :
    ReturnsInHanded {} Try.checked os 3 .any (Rows.fnDecideMatchesVoteCountSpec.pre6 enc Try.prog Try.f3 Rows.fnDecideMatchesVoteCountRow.domain false) (Rows.fnDecideMatchesVoteCountSpec.post enc Try.prog Try.f3 false true false false) := by
  refine returnsInHanded_of_change (C := Try.checked) own started (by kernel_rfl) Try.func3
    (ChangeSpec.witness6 (enc := enc) (C := Try.checked) false ⟨#[], #[.slice none 0 0, .map none], []⟩ 8 (by kernel_rfl) (by kernel_rfl) (by kernel_rfl) (by kernel_rfl)) ?_
  intro W base args ds gs before hval0 hW hcnd _
  have hval : ∀ (j : Nat) t v, Try.f3.params[j]? = some t → args[j]? = some v → Value.okWide Try.prog W .any base t v := hval0
  have hW' := hW
  obtain ⟨p, q, hA0, hV, rfl, hfz, hnd⟩ := hW
  have hA : DataW.TrodAll enc Try.prog W 0 (fun _ => true) true Try.f3.params.toList args.toList ds p := hA0
  rw [Try.params3] at hA hval
  obtain ⟨v0, vs0, d0, ds0, p0, q0, hargs, rfl, rfl, h0, r0⟩ := trodAll_cons hA
  obtain ⟨v1, vs1, d1, ds1, p1, q1, rfl, rfl, rfl, h1, r1⟩ := trodAll_cons r0
  obtain ⟨rfl, rfl, rfl⟩ := trodAll_nil r1
  obtain rfl : args = #[v0, v1] := by cases args; simp_all
  obtain ⟨rfl, rfl⟩ := trodVars_none hV
  obtain ⟨a0, len0, cap0, rfl⟩ := okWide_slice Try.underlying22 (hval 0 22 v0 rfl rfl)
  obtain ⟨m1, rfl⟩ := okWide_map Try.underlying23 (hval 1 23 v1 rfl rfl)
  have k0 := h0
  have lt0 : ∀ x ∈ p0, x.block < W.heap.size := by obtain ⟨m, hm⟩ := k0; exact DataW.trod_lt m _ _ _ hm
  have k1 := h1
  have lt1 : ∀ x ∈ p1, x.block < W.heap.size := by obtain ⟨m, hm⟩ := k1; exact DataW.trod_lt m _ _ _ hm
  obtain ⟨l, rfl, hu⟩ : ∃ l, len0 = l.length ∧ US W a0 cap0 l := by
    obtain ⟨fuel, hf⟩ := h0
    exact open_us hf
  have hwalk : Calls Try.prog 3 #[.slice a0 l.length cap0, .map m1] W (Fine W) := by
    obtain ⟨fuel, hf⟩ := h1
    rcases open_map Try.underlying23 hf with ⟨hcs, hx⟩ | ⟨bm, es, clock, m, rfl, hcs, hb, _, F, hx⟩
    · simp [Value.cells] at hcs
      subst hcs
      exact law_nil W a0 cap0 l hu
    · simp [Value.cells] at hcs
      subst hcs
      have hown := World.ownsMap_of_fit (R := plainElem Try.prog 5) hb F (fun x _ z hz => elemAt_plainElem_int Try.underlying5 hz)
      exact law_some W a0 cap0 l bm _ _ hu hown
  clear hA0 hval0
  refine hwalk.mono fun e W' ⟨he, bel⟩ => ?_
  subst he
  exact ⟨_, rfl, _, _, _, [], _, [], hW', trodAll_mk1 (shut_bool Try.underlying4 _), (trodAll_cons_mk (Below.trod laidOut (by kernel_rfl) (of_decide_eq_true (by kernel_rfl)) k0 bel lt0) (trodAll_cons_mk (Below.trod laidOut (by kernel_rfl) (of_decide_eq_true (by kernel_rfl)) k1 bel lt1) trodAll_mk0)), rfl, bel.frame _, fun h => by cases h⟩

theorem over : Rows.fnDecideMatchesVoteCountRow.holds Try.pinned (OpenSpec.ofChange Rows.fnDecideMatchesVoteCountSpec) :=
  OpenClaim.holds_of_wide 3 Try.f3 rfl rfl rfl rfl rfl rfl rfl ⟨rfl, rfl, rfl, rfl, rfl⟩ rfl rfl rfl rfl rfl (by kernel_rfl) Try.func3 (by kernel_rfl)
    (of_decide_eq_true (by kernel_rfl)) (by unfold Func.isWrapper; first | (rw [if_pos (by decide +kernel)]; kernel_rfl) | (rw [if_neg (by decide +kernel)]; exact ⟨rfl, rfl⟩))
    (fun os started H enc _ => lifted os started H enc)

theorem proved : Rows.FnDecideMatchesVoteCountSaid := over
#print axioms proved
end Go.Proofs.Qxb6602769a.fnDecideMatchesVoteCount
