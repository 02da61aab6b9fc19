/-
  A [][]byte that came in, opened into 'BSS'.
-/
import Derived.Test.Qxb6600602aHeap
import Derived.Test.Qxb6600602aRows
import Derived.WalkKit
import Derived.ProofKit
import Derived.OpenShut
import Derived.ShutString
import Derived.ChangeOld
import Derived.Below
import Derived.Deep.Matrix
namespace Go.Proofs.Qxb6600602a
open Go.ChangeShapes Go.WideShapes Go.ChangeAt Go.RowKit

theorem own : ownKnob Try.prog.godebug = none := by kernel_rfl
theorem laidOut : laidOutB Try.prog = true := by kernel_rfl

theorem byte_of_wf {zs : List Int} (h : ∀ n ∈ zs, (Lit.int .u8 n).wf = true) (i : Nat) : 0 ≤ zs.getD i 0 ∧ zs.getD i 0 ≤ 255 := by
  by_cases hi : i < zs.length
  · have := h (zs.getD i 0) (by simp [List.getD, hi])
    exact bounds_u8 this
  · simp [List.getD, List.getElem?_eq_none (Nat.le_of_not_lt hi)]

theorem open_bss {H : Type} {enc : TypeId × Value → H} {w : World} {held : Bool} {fuel : Nat} {a : Option Addr} {len cap : Nat} {x : DataW H × List MemPlace}
    (h : DataW.trod enc Try.prog w 0 (fun _ => true) held fuel 22 [.slice a len cap] = some x) : ∃ ll, len = ll.length ∧ BSS w a cap ll := by
  rcases Deep.open_int_rows Try.underlying22 Try.underlying29 Try.underlying5 (by kernel_rfl) (by kernel_rfl) h with ⟨hcs, _⟩ | ⟨ad, len', cap', A, L, C, Z, hcs, _, hl, hm, _, hx⟩
  · simp at hcs
    obtain ⟨rfl, rfl, rfl⟩ := hcs
    exact ⟨[], rfl, BSS.empty (Nat.zero_le _) fun _ => rfl⟩
  · simp at hcs
    obtain ⟨rfl, rfl, rfl⟩ := hcs
    refine ⟨(List.range len).map fun r => (Z r).take (L r), by simp, by simpa using hl, hm, (fun e => by cases e), fun i hi => ?_⟩
    have hi' : i < len := by simpa using hi
    obtain ⟨h1, h2, h3, h4, h5, h6, h7⟩ := hx i (by omega)
    have e : ((List.range len).map fun r => (Z r).take (L r)).getD i [] = (Z i).take (L i) := by simp [List.getD, hi']
    rw [e]
    have hlen : ((Z i).take (L i)).length = L i := by simp; omega
    obtain ⟨b, o, spot⟩ := ad
    have hspot : spot = none := by simpa [Addr.add] using World.cell?_spot (hx 0 (by omega)).1
    subst hspot
    refine ⟨b, o, A i, C i, rfl, ?_, by rw [hlen]; exact h2, h3, h6, byte_of_wf fun n hn => h5 n (List.mem_of_mem_take hn), fun j hj => ?_⟩
    · rw [hlen, ← h1, Addr.add_lit]
    · rw [hlen] at hj
      cases hA : A i with
      | none => have := h6 hA; omega
      | some a' =>
        have hc := (h7 a' hA).2 j (by omega)
        obtain ⟨b', o', spot'⟩ := a'
        have hspot : spot' = none := by simpa [Addr.add] using World.cell?_spot ((h7 _ hA).2 0 (by omega))
        subst hspot
        refine ⟨b', o', rfl, ?_⟩
        rw [Addr.add_lit] at hc
        rw [getD_take _ _ _ hj]
        exact hc

end Go.Proofs.Qxb6600602a
