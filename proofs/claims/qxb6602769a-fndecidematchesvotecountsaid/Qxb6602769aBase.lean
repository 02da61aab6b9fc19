/-
  A slice of u32 as a list, a map from u32 to byte as a function, the decision as a plain function. Own work for this seat.
-/
import Derived.Test.Qxb6602769aRows
import Derived.Maps.OwnSet
import Derived.WalkKit
import Derived.WalkSpells
import Derived.Below
namespace Go.Proofs.Qxb6602769a
open Go.RowKit Go.Maps

theorem hide {p : Prop} (h : p) : Hid p := h
def intOf : Value → Int | .int _ q => q | _ => 0

/-- The slice value '.slice a l.length c' reads in w as the numbers l. -/
structure US (w : World) (a : Option Addr) (c : Nat) (l : List Int) : Prop where
  le : l.length ≤ c
  max : c ≤ maxLen
  nil : a = none → c = 0
  word : ∀ i, i < l.length → (Lit.int .u32 (l.getD i 0)).wf = true
  cells : ∀ i, i < l.length → ∃ b o, a = some ⟨b, o, none⟩ ∧ w.cell? ⟨b, o + i, none⟩ = some (.int .u32 (l.getD i 0))

theorem US.later {w w' : World} {a : Option Addr} {c : Nat} {l : List Int} (h : US w a c l) (hb : ∀ p v, w.cell? p = some v → w'.cell? p = some v) : US w' a c l :=
  ⟨h.le, h.max, h.nil, h.word, fun i hi => by
    obtain ⟨b, o, e, hc⟩ := h.cells i hi
    exact ⟨b, o, e, hb _ _ hc⟩⟩

theorem Below.keeps {w w' : World} (hb : Below w.heap.size w w') : ∀ p v, w.cell? p = some v → w'.cell? p = some v :=
  fun _ _ h => (hb.cell (World.block_lt_of_cell? _ _ h)).trans h
theorem US.below {w w' : World} {a : Option Addr} {c : Nat} {l : List Int} (h : US w a c l) (hb : Below w.heap.size w w') : US w' a c l := h.later (Below.keeps hb)

/-! ### maps -/
theorem law27 : Keyed Try.prog 27 := int_keyed Try.underlying27
theorem law36 : Keyed Try.prog 36 := int_keyed Try.underlying36
theorem zero5 (w : World) : (zeroValue 5).run Try.prog w = .ok (.int .u8 0) w := by kernel_rfl

def litInt {H : Type} : DataW H → Int
  | .lit (.int _ c) => c
  | _ => 0
/-- What a map's datum answers. -/
def fnOf {H : Type} (D : DataW H) (a : Int) : Option Int := if Maps.has D (.int .u32 a) then some (litInt (D.atKey (.int .u32 a) (.lit (.int .u8 0)))) else none

/-- The map value mv, of type t, answers as f. -/
def Look (w : World) (t : TypeId) (mv : Value) (f : Int → Option Int) : Prop := ∀ a, (Lit.int .u32 a).wf = true →
  (Instr.lookup t mv (.int .u32 a) true).run Try.prog w = .ok (.tuple #[.int .u8 ((f a).getD 0), .bool (f a).isSome]) w ∧
  (Instr.lookup t mv (.int .u32 a) false).run Try.prog w = .ok (.int .u8 ((f a).getD 0)) w

theorem fnOf_at {H : Type} {D : DataW H} {a c : Int} (hat : D.atKey (.int .u32 a) (.lit (.int .u8 0)) = .lit (.int .u8 c)) : (fnOf D a).getD 0 = c ∧ (fnOf D a).isSome = Maps.has D (.int .u32 a) := by
  unfold fnOf
  cases hh : Maps.has D (.int .u32 a) with
  | true => simp [hat, litInt]
  | false =>
    have := Maps.atKey_of_not_has hh (.lit (.int .u8 0))
    rw [hat] at this
    simp at this
    simp [this]

theorem look_own {H : Type} {w : World} {t k : TypeId} {b n : Nat} {D : DataW H} (K : Keyed Try.prog k) (hk : Try.prog.underlying k = some (.int .u32)) (ht : Try.prog.underlying t = some (.map k 5)) (h : w.ownsMap Try.prog k (plainElem Try.prog 5) b n D) : Look w t (.map (some b)) (fnOf D) ∧ ∀ a, (Lit.int .u32 a).wf = true → (Lit.int .u8 ((fnOf D a).getD 0)).wf = true := by
  have key : ∀ a, (Lit.int .u32 a).wf = true → ((Instr.lookup t (.map (some b)) (.int .u32 a) true).run Try.prog w = .ok (.tuple #[.int .u8 ((fnOf D a).getD 0), .bool (fnOf D a).isSome]) w ∧
      (Instr.lookup t (.map (some b)) (.int .u32 a) false).run Try.prog w = .ok (.int .u8 ((fnOf D a).getD 0)) w) ∧ (Lit.int .u8 ((fnOf D a).getD 0)).wf = true := by
    intro a ha
    have hkey := keyOf_int_mk hk ha
    obtain ⟨c, hrun, hat, hwc⟩ := h.lookup_int K ht Try.underlying5 (zero5 w) hkey
    obtain ⟨v, ps, hrun2, hv⟩ := h.look_ok K ht (zero5 w) (plainElem_int Try.underlying5 (by decide)) hkey
    rw [hat] at hv
    obtain ⟨c', rfl, hc', _⟩ := plainElem_int_inv Try.underlying5 hv
    simp only [Prod.mk.injEq, DataW.lit.injEq, Lit.int.injEq, true_and] at hc'
    obtain ⟨rfl, _⟩ := hc'
    obtain ⟨e1, e2⟩ := fnOf_at hat
    rw [e1, e2]
    exact ⟨⟨hrun2, hrun⟩, hwc⟩
  exact ⟨fun a ha => (key a ha).1, fun a ha => (key a ha).2⟩

theorem look_nil' {w : World} {t k : TypeId} (K : Keyed Try.prog k) (hk : Try.prog.underlying k = some (.int .u32)) (ht : Try.prog.underlying t = some (.map k 5)) : Look w t (.map none) (fun _ => none) := fun a ha => by
  have h1 := Maps.look_nil (w := w) true K ht (zero5 w) (keyOf_int_mk hk ha)
  have h2 := Maps.look_nil (w := w) false K ht (zero5 w) (keyOf_int_mk hk ha)
  exact ⟨by simpa using h1, by simpa using h2⟩

theorem fnOf_put {H : Type} {D : DataW H} (hD : Maps.IsMap D) (x c a : Int) : fnOf (D.put (.int .u32 x) (.lit (.int .u8 c))) a = if a = x then some c else fnOf D a := by
  unfold fnOf
  by_cases h : a = x
  · subst h
    have hk : WideAt.IsKeyLit (.int .u32 a) := True.intro
    rw [Maps.has_put_same hD hk, Maps.atKey_put_same hD hk]
    simp [litInt]
  · have hne : Lit.int .u32 a ≠ Lit.int .u32 x := fun e => h (by simpa using e)
    rw [Maps.has_put_other hne, Maps.atKey_put_other hne, if_neg h]

theorem fnOf_empty {H : Type} (a : Int) : fnOf (.map [] : DataW H) a = none := by simp [fnOf, Maps.has]

/-! ### the decision -/
def val (f : Int → Option Int) (x : Int) : Int := (f x).getD 0
def okV (f : Int → Option Int) (x : Int) : Bool := val f x == 3 || val f x == 4 || val f x == 1
def dec (l : List Int) (f : Int → Option Int) : Int × Bool :=
  if l.any (fun x => val f x == 5) then (1, true) else if l.any (fun x => (f x).isNone) then (0, false) else if l.all (okV f) && l.any (fun x => val f x == 4) then (1, true) else (2, true)

theorem any_take (l : List Int) (p : Int → Bool) (k : Nat) (h : k < l.length) : (l.take (k + 1)).any p = ((l.take k).any p || p (l.getD k 0)) := by
  rw [List.take_succ_eq_append_getElem h, List.any_append]
  simp [List.getD, List.getElem?_eq_getElem h]
theorem all_take (l : List Int) (p : Int → Bool) (k : Nat) (h : k < l.length) : (l.take (k + 1)).all p = ((l.take k).all p && p (l.getD k 0)) := by
  rw [List.take_succ_eq_append_getElem h, List.all_append]
  simp [List.getD, List.getElem?_eq_getElem h]
theorem count_take (l : List Int) (p : Int → Bool) (k : Nat) (h : k < l.length) : (l.take (k + 1)).countP p = (l.take k).countP p + (if p (l.getD k 0) then 1 else 0) := by
  rw [List.take_succ_eq_append_getElem h, List.countP_append]
  simp [List.getD, List.getElem?_eq_getElem h, List.countP_cons]
theorem getD_mem (l : List Int) (k : Nat) (h : k < l.length) : l.getD k 0 ∈ l := by
  simp [List.getD, List.getElem?_eq_getElem h]
theorem any_of (l : List Int) (p : Int → Bool) (k : Nat) (h : k < l.length) (hp : p (l.getD k 0) = true) : l.any p = true := List.any_eq_true.2 ⟨_, getD_mem l k h, hp⟩

theorem dec_congr (l : List Int) (f g : Int → Option Int) (h : ∀ x ∈ l, f x = g x) : dec l f = dec l g := by
  have e1 : ∀ (p : Option Int → Bool), l.any (fun x => p (f x)) = l.any (fun x => p (g x)) := fun p => by
    rw [Bool.eq_iff_iff, List.any_eq_true, List.any_eq_true]
    constructor <;> rintro ⟨x, hx, hp⟩ <;> exact ⟨x, hx, by simpa [h x hx] using hp⟩
  have e2 : ∀ (p : Option Int → Bool), l.all (fun x => p (f x)) = l.all (fun x => p (g x)) := fun p => by
    rw [Bool.eq_iff_iff, List.all_eq_true, List.all_eq_true]
    constructor <;> intro hh x hx <;> have := hh x hx <;> simpa [h x hx] using this
  have a1 : l.any (fun x => val f x == 5) = l.any (fun x => val g x == 5) := e1 (fun o => o.getD 0 == 5)
  have a2 : l.any (fun x => (f x).isNone) = l.any (fun x => (g x).isNone) := e1 (fun o => o.isNone)
  have a3 : l.any (fun x => val f x == 4) = l.any (fun x => val g x == 4) := e1 (fun o => o.getD 0 == 4)
  have a4 : l.all (okV f) = l.all (okV g) := e2 (fun o => o.getD 0 == 3 || o.getD 0 == 4 || o.getD 0 == 1)
  unfold dec
  rw [a1, a2, a3, a4]

end Go.Proofs.Qxb6602769a
