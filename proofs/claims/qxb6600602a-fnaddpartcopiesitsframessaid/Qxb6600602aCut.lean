/-
  cut (37) and its door ZZCutB1 (15).
-/
import Derived.Test.Qxb6600602aClone
import Derived.Deep.RegionLaw
import Derived.Deep.Slices
namespace Go.Proofs.Qxb6600602a
open Go.RowKit

/-- What cut computes: the front and the rest. -/
def cutF : List (List Int) → Int → List (List Int)
  | [], _ => []
  | p :: r, n => if n ≤ 0 then [] else if n < p.length then [p.take n.toNat] else p :: cutF r (n - p.length)
def cutR : List (List Int) → Int → List (List Int)
  | [], _ => []
  | p :: r, n => if n ≤ 0 then p :: r else if n < p.length then p.drop n.toNat :: r else cutR r (n - p.length)

theorem cutF_go (p : List Int) (r : List (List Int)) (m : Nat) (h0 : 0 < m) (h : ¬ m < p.length) : cutF (p :: r) m = p :: cutF r ((m : Int) - p.length) := by
  rw [cutF, if_neg (by omega), if_neg (by omega)]
theorem cutR_go (p : List Int) (r : List (List Int)) (m : Nat) (h0 : 0 < m) (h : ¬ m < p.length) : cutR (p :: r) m = cutR r ((m : Int) - p.length) := by
  rw [cutR, if_neg (by omega), if_neg (by omega)]
theorem cutF_split (p : List Int) (r : List (List Int)) (m : Nat) (h0 : 0 < m) (h : m < p.length) : cutF (p :: r) m = [p.take m] := by
  rw [cutF, if_neg (by omega), if_pos (by omega)]; rfl
theorem cutR_split (p : List Int) (r : List (List Int)) (m : Nat) (h0 : 0 < m) (h : m < p.length) : cutR (p :: r) m = p.drop m :: r := by
  rw [cutR, if_neg (by omega), if_pos (by omega)]; rfl

def lenOfV : Value → Nat
  | .slice _ n _ => n
  | _ => 0

/-- A row of the call's own that holds headers of slices that lay in w0. -/
def OwnF (w0 wr : World) (v : Value) (fl : List (List Int)) : Prop :=
  ∃ xs, wr.ownsRow w0.heap.size 29 1 v fl.length xs ∧ ∀ i, i < fl.length → ∃ a c, xs.getD i undef = .slice a (fl.getD i []).length c ∧ BS w0 a c (fl.getD i [])

theorem OwnF.bss {w0 wr : World} {v : Value} {fl : List (List Int)} (h : OwnF w0 wr v fl) (hb : Below w0.heap.size w0 wr) : ∃ a c, v = .slice a fl.length c ∧ BSS wr a c fl := by
  obtain ⟨xs, h, hx⟩ := h
  rcases h.2 with ⟨rfl, h0⟩ | ⟨g, cap, cur, rfl, hg, hh, hn, hm, hs, ht⟩
  · rw [h0]
    refine ⟨none, 0, rfl, ?_⟩
    rw [List.eq_nil_of_length_eq_zero h0]
    exact BSS.empty (Nat.zero_le _) fun _ => rfl
  · refine ⟨some ⟨g, 0, none⟩, cap, rfl, hn, hm, (fun h => by cases h), fun i hi => ?_⟩
    obtain ⟨a', c', e1, e2⟩ := hx i hi
    refine ⟨g, 0, a', c', rfl, ?_, e2.below hb⟩
    have hlx : i < xs.length := by rw [h.1]; omega
    have := World.ownsRow.cells (w := wr) (base := w0.heap.size) (e := 29) (size := 1) (n := fl.length) (xs := xs) h rfl i (xs.getD i undef) (by simp [List.getD, hlx])
    rw [e1] at this
    simpa [Addr.add_lit] using this

theorem OwnF.snoc {w0 w' : World} {v' : Value} {fl : List (List Int)} {xs : List Value} {x : List Int} {a : Option Addr} {c : Nat}
    (hl : xs.length = fl.length) (hx : ∀ i, i < fl.length → ∃ a c, xs.getD i undef = .slice a (fl.getD i []).length c ∧ BS w0 a c (fl.getD i []))
    (hb : BS w0 a c x) (ho : w'.ownsRow w0.heap.size 29 1 v' (fl.length + 1) (xs ++ [.slice a x.length c])) : OwnF w0 w' v' (fl ++ [x]) := by
  refine ⟨xs ++ [.slice a x.length c], by simpa using ho, fun i hi => ?_⟩
  by_cases e : i < fl.length
  · have e1 : (xs ++ [Value.slice a x.length c]).getD i undef = xs.getD i undef := by
      simp [List.getD, List.getElem?_append_left (show i < xs.length by omega)]
    have e2 : (fl ++ [x]).getD i [] = fl.getD i [] := by simp [List.getD, List.getElem?_append_left e]
    rw [e1, e2]
    exact hx i e
  · obtain rfl : i = fl.length := by simp at hi; omega
    have e1 : (xs ++ [Value.slice a x.length c]).getD fl.length undef = .slice a x.length c := by rw [← hl]; simp [List.getD]
    have e2 : (fl ++ [x]).getD fl.length [] = x := by simp [List.getD]
    rw [e1, e2]
    exact ⟨a, c, rfl, hb⟩

/-- The middle of cut's loop. -/
def CutMid (w : World) (ll : List (List Int)) (n : Int) (pv nv fv : Value) (wr : World) : Prop :=
  ∃ done rest a c n', ll = done ++ rest ∧ pv = .slice a rest.length c ∧ BSS w a c rest ∧ nv = .int .i64 n' ∧ n' ≤ 9223372036854775807 ∧ OwnF w wr fv done ∧ Below w.heap.size w wr ∧
    cutF ll n = done ++ cutF rest n' ∧ cutR ll n = cutR rest n'

/-- What cut leaves. -/
def CutP (w : World) (ll : List (List Int)) (n : Int) (e : Ending) (w' : World) : Prop :=
  ∃ a c a' c', e = .returned (.tuple #[.slice a (cutF ll n).length c, .slice a' (cutR ll n).length c']) ∧ BSS w' a c (cutF ll n) ∧ BSS w' a' c' (cutR ll n) ∧ Below w.heap.size w w'

theorem CutP.of {w w' : World} {ll F R : List (List Int)} {n : Int} {fv rv : Value} (hF : cutF ll n = F) (hR : cutR ll n = R) (hf : ∃ a c, fv = .slice a F.length c ∧ BSS w' a c F) (hr : ∃ a c, rv = .slice a R.length c ∧ BSS w' a c R) (hb : Below w.heap.size w w') :
    CutP w ll n (.returned (.tuple #[fv, rv])) w' := by
  subst hF; subst hR
  obtain ⟨a, c, rfl, h1⟩ := hf
  obtain ⟨a', c', rfl, h2⟩ := hr
  exact ⟨a, c, a', c', rfl, h1, h2, hb⟩

theorem CutMid.more {w wr w1 : World} {ll done r : List (List Int)} {p : List Int} {n n' : Int} {a' a2 : Option Addr} {c' c2 : Nat} {v v' : Value} {xs : List Value} {o : Obj} (HLL : ll = done ++ p :: r) (hbs : BSS w a' c' r) (hn' : n' ≤ 9223372036854775807)
    (hbel : Below w.heap.size w wr) (hown : wr.ownsRow w.heap.size 29 1 v done.length xs) (hxs : ∀ i, i < done.length → ∃ a c, xs.getD i undef = .slice a (done.getD i []).length c ∧ BS w a c (done.getD i []))
    (hb2 : BS w a2 c2 p) (hown' : w1.ownsRow w.heap.size 29 1 v' (done.length + 1) (xs ++ [.slice a2 p.length c2])) (hgrow : (wr.alloc o).grownBy w1 v.ownBlock)
    (HF : cutF ll n = (done ++ [p]) ++ cutF r n') (HR : cutR ll n = cutR r n') : CutMid w ll n (.slice a' r.length c') (.int .i64 n') v' w1 :=
  ⟨done ++ [p], r, a', c', n', by rw [HLL]; simp, rfl, hbs, rfl, hn', OwnF.snoc (by have := hown.1; omega) hxs hb2 hown',
    (hbel.alloc hbel.size o).grown hgrow (by have := hbel.size; simp; omega) (fun k e => (hown.lt k e).1), HF, HR⟩

/-- The headers of a slice of slices, as a list. -/
theorem BSS.hdrs {w : World} {a : Option Addr} {c : Nat} {ll : List (List Int)} (h : BSS w a c ll) : ∃ ys : List Value, ys.length = ll.length ∧ (∀ ad, a = some ad → ∀ j u, ys[j]? = some u → w.cell? (ad.add j) = some u) ∧
    (∀ i, i < ll.length → ∃ a c, ys.getD i undef = .slice a (ll.getD i []).length c ∧ BS w a c (ll.getD i [])) ∧ ∀ u ∈ ys, u.oneCell' = true := by
  obtain ⟨f, hf⟩ := Deep.choose_lt (α := Value) (n := ll.length) (p := fun i u => (∃ b o, a = some ⟨b, o, none⟩ ∧ w.cell? ⟨b, o + i, none⟩ = some u) ∧ ∃ a c, u = .slice a (ll.getD i []).length c ∧ BS w a c (ll.getD i []))
    (fun i hi => by obtain ⟨b, o, a', c', e, h1, h2⟩ := h.cells i hi; exact ⟨_, ⟨b, o, e, h1⟩, a', c', rfl, h2⟩)
  refine ⟨(List.range ll.length).map f, by simp, fun ad e j u hu => ?_, fun i hi => ?_, fun u hu => ?_⟩
  · simp only [List.getElem?_map, Option.map_eq_some_iff] at hu
    obtain ⟨j', hj', rfl⟩ := hu
    obtain ⟨hj, rfl⟩ : j < ll.length ∧ j = j' := by
      obtain ⟨h1, h2⟩ := List.getElem?_eq_some_iff.1 hj'
      simp at h1 h2
      exact ⟨h1, h2⟩
    obtain ⟨⟨b, o, e', h1⟩, _⟩ := hf j hj
    rw [e] at e'
    cases e'
    rw [Addr.add_lit]
    exact h1
  · have e : ((List.range ll.length).map f).getD i undef = f i := by simp [List.getD, hi]
    rw [e]
    exact (hf i hi).2
  · simp only [List.mem_map, List.mem_range] at hu
    obtain ⟨i, hi, rfl⟩ := hu
    obtain ⟨_, a', c', e, _⟩ := hf i hi
    rw [e]
    rfl

theorem ownsRow_mono {w : World} {B B' : Nat} {e : TypeId} {sz : Nat} {v : Value} {n : Nat} {xs : List Value} (h : w.ownsRow B e sz v n xs) (hb : B' ≤ B) : w.ownsRow B' e sz v n xs := by
  refine ⟨h.1, ?_⟩
  rcases h.2 with h0 | ⟨g, cap, cur, hv, hg, r⟩
  · exact .inl h0
  · exact .inr ⟨g, cap, cur, hv, Nat.le_trans hb hg, r⟩

theorem ownsRow_lit (w : World) (e : TypeId) (u : Value) : (w.alloc (.cells #[u] e)).ownsRow w.heap.size e 1 (.slice (some ⟨w.heap.size, 0, none⟩) 1 1) 1 [u] :=
  ⟨rfl, .inr ⟨w.heap.size, 1, #[u], rfl, Nat.le_refl _, heap_alloc_new w _, Nat.le_refl _, by unfold maxLen; omega, rfl, rfl⟩⟩

theorem OwnF.cons {w0 w' : World} {v' : Value} {fl : List (List Int)} {xs : List Value} {x : List Int} {a : Option Addr} {c : Nat}
    (hx : ∀ i, i < fl.length → ∃ a c, xs.getD i undef = .slice a (fl.getD i []).length c ∧ BS w0 a c (fl.getD i []))
    (hb : BS w0 a c x) (ho : w'.ownsRow w0.heap.size 29 1 v' (1 + fl.length) ([.slice a x.length c] ++ xs)) : OwnF w0 w' v' (x :: fl) := by
  refine ⟨.slice a x.length c :: xs, by rw [List.length_cons, Nat.add_comm]; exact ho, fun i hi => ?_⟩
  cases i with
  | zero => exact ⟨a, c, rfl, hb⟩
  | succ i =>
    rw [List.getD_cons_succ, List.getD_cons_succ]
    exact hx i (by simpa using hi)

theorem CutP.split {w w1 w2 : World} {ll done r : List (List Int)} {p : List Int} {n : Int} {m c2 c3 : Nat} {a2 a3 : Option Addr} {v' v2 : Value} {xs ys : List Value} {o : Obj}
    (hm : m < p.length) (HF : cutF ll n = done ++ [p.take m]) (HR : cutR ll n = p.drop m :: r) (hb2 : BS w a2 c2 (p.take m)) (hb3 : BS w a3 c3 (p.drop m)) (hbel1 : Below w.heap.size w w1)
    (hxl : xs.length = done.length) (hxs : ∀ i, i < done.length → ∃ a c, xs.getD i undef = .slice a (done.getD i []).length c ∧ BS w a c (done.getD i []))
    (hys : ∀ i, i < r.length → ∃ a c, ys.getD i undef = .slice a (r.getD i []).length c ∧ BS w a c (r.getD i []))
    (hown' : w1.ownsRow w.heap.size 29 1 v' (done.length + 1) (xs ++ [.slice a2 m c2])) (hgrow2 : (w1.alloc o).drew.grownBy w2 (Value.ownBlock (.slice (some ⟨w1.heap.size, 0, none⟩) 1 1)))
    (hown2 : w2.ownsRow w1.heap.size 29 1 v2 (1 + r.length) ([.slice a3 (p.length - m) c3] ++ ys)) : CutP w ll n (.returned (.tuple #[v', v2])) w2 := by
  have e1 : (p.take m).length = m := by simp; omega
  have e2 : (p.drop m).length = p.length - m := by simp
  have hbel2 : Below w.heap.size w w2 := (((hbel1.alloc hbel1.size o).drew).grown hgrow2 (by have := hbel1.size; simp; omega) (fun k e => by cases e; exact hbel1.size))
  have hk : w2.ownsRow w.heap.size 29 1 v' (done.length + 1) (xs ++ [.slice a2 m c2]) := by
    refine ((hown'.alloc o).drew).kept hgrow2 ?_
    by_cases hv : v'.ownBlock = none
    · exact .inl hv
    · refine .inr fun e => ?_
      have : w1.heap.size < w1.heap.size := (hown'.lt _ e).2
      omega
  rw [← e1] at hk
  rw [← e2] at hown2
  exact CutP.of HF HR ((OwnF.snoc hxl hxs hb2 hk).bss hbel2) ((OwnF.cons hys hb3 (ownsRow_mono hown2 hbel1.size)).bss hbel2) hbel2

/-- append to a row of the call's own, as one step of a region that draws. -/
theorem step_append_own {P : Program} {ops : Array Oper} {o : Oper} {a : Act} {w : World} {K : Act → World → Prop} {Q : Exit → Act → World → Prop} {E : Prop} (hgd : o.guard = none) (s x : Operand) (t : TypeId)
    (ho : o.op = .call { callee := .builtin .append, args := #[s, x], argTypes := #[t, t] })
    (base : Nat) (e : TypeId) (i : TypeInfo) (z : Value) (size bytes : Nat) (ht : P.underlying t = some (.slice e)) (hi : P.info? e = some i) (hz : i.zero = some z)
    (hsize : i.size = size) (hby : i.bytes = bytes) (hzs : z.cells.size = size) (hsz : 0 < size)
    (v : Value) (n : Nat) (xs : List Value) (hs : a.eval s = v) (hown : w.ownsRow base e size v n xs)
    (ad : Addr) (m c : Nat) (news : List Value) (hx : a.eval x = .slice (some ad) m c) (hl : news.length = m * size) (hnews : ∀ j u, news[j]? = some u → w.cell? (ad.add j) = some u) (h1 : ∀ u ∈ news, u.oneCell' = true)
    (h63 : n + m ≤ maxLen) (hbytes : (n + m) * bytes ≤ 140737488355328) (hbase : base ≤ w.heap.size)
    (h : ∀ v' w', w'.ownsRow base e size v' (n + m) (xs ++ news) → w.grownBy w' v.ownBlock → (v' = .slice none 0 0 ↔ v = .slice none 0 0 ∧ m = 0) → K (a.put o.dst v') w') :
    if Region.wanted o (yielded ops a.tmps) = true then Oper.wp P o a w K Q else E := by
  have hw : Region.wanted o (yielded ops a.tmps) = true := by simp [Region.wanted, hgd]
  rw [if_pos hw]
  exact wp_append_own w s x t ho base e i z size bytes ht hi hz hsize hby hzs hsz v n xs hs hown ad m c news hx hl hnews h1 h63 hbytes hbase h

set_option maxHeartbeats 1000000 in
theorem cut_any (w : World) (a : Option Addr) (c : Nat) (ll : List (List Int)) (n : Int) (h : BSS w a c ll) (hb : ll.length ≤ 1048576) (hn : n ≤ 9223372036854775807) :
    Calls Try.prog 37 #[.slice a ll.length c, .int .i64 n] w (CutP w ll n) := by
  obtain ⟨i0, hi, hz0, hz1, hz2⟩ := info_parts info29
  have HC : CutMid w ll n (.slice a ll.length c) (.int .i64 n) (.slice none 0 0) w :=
    ⟨[], ll, a, c, n, rfl, rfl, h, rfl, hn, ⟨[], World.ownsRow_nil _ _ _ _, fun i hi => by simp at hi⟩, Below.refl _ _, rfl, rfl⟩
  go_enter Try.func37, Try.ntmps37
  go_wp2
  go_loopw [0, 1, 4] (fun pv nv fv wr => CutMid w ll n pv nv fv wr) (fun pv _ _ _ => lenOfV pv)
  case atStart => exact HC
  case round =>
    obtain ⟨done, rest, a1, c1, n1, hll, rfl, hbs, rfl, hn1, hof, hbel, hF, hR⟩ := hrel
    clear HC h
    have hle := hbs.le
    have hmax := hbs.max
    unfold maxLen at hmax
    have HLL := hide hll
    have hdl : done.length + rest.length ≤ 1048576 := by rw [hll] at hb; simpa using hb
    clear hll
    cases rest with
    | nil =>
      have H1 : Hid (cutF ll n = done) := hide (by rw [hF]; simp [cutF])
      have H2 : Hid (cutR ll n = []) := hide (by rw [hR]; rfl)
      have H3 := hide (hof.bss hbel)
      have h4 := hbs.below hbel
      clear hF hR hof
      go_wp2
      go_ret2
      exact CutP.of H1.out H2.out H3.out ⟨a1, c1, rfl, h4⟩ hbel
    | cons p r =>
      rw [List.length_cons] at *
      obtain ⟨b, o, rfl, hcs⟩ := hbs.at (by simp)
      obtain ⟨a2, c2, hc0, hb2⟩ := hcs 0 (by simp)
      simp only [Nat.add_zero, List.getD_cons_zero] at hc0 hb2
      have hc0 := Below.keeps hbel _ _ hc0
      clear hcs
      by_cases hn2 : n1 ≤ 0
      · have H1 : Hid (cutF ll n = done) := hide (by rw [hF]; simp [cutF, hn2])
        have H2 : Hid (cutR ll n = p :: r) := hide (by rw [hR]; simp [cutR, hn2])
        have H3 := hide (hof.bss hbel)
        have h4 := hbs.below hbel
        clear hF hR hof
        go_wp2
        go_ret2
        exact CutP.of H1.out H2.out H3.out ⟨_, c1, rfl, h4⟩ hbel
      obtain ⟨m, rfl⟩ := Int.eq_ofNat_of_zero_le (show 0 ≤ n1 by omega)
      obtain ⟨xs, hown, hxs⟩ := hof
      have HXL : Hid (xs.length = done.length) := hide (by have := hown.1; omega)
      have HXS := hide hxs
      have hp1 := hb2.le
      have hp2 := hb2.max
      unfold maxLen at hp2
      have hbz := hbel.size
      clear hxs
      by_cases hlt : m < p.length
      · have HF : Hid (cutF ll n = done ++ [p.take m]) := hide (by rw [hF, cutF_split p r m (by omega) hlt])
        have HR : Hid (cutR ll n = p.drop m :: r) := hide (by rw [hR, cutR_split p r m (by omega) hlt])
        obtain ⟨b2, o2, rfl, -⟩ := hb2.at (by omega)
        have HB1 := hide (hb2.take m (by omega))
        have HB2 := hide (hb2.drop (a' := some ⟨b2, o2 + m, none⟩) m (by omega) (fun _ => by simp [Addr.add_lit]) (fun e => by omega))
        have hmp : (m : Int) ≤ (c2 : Int) := by omega
        have hmp1 : (m : Int) ≤ (p.length : Int) := by omega
        have hcm : ¬ c2 = m := by omega
        have hr1 : (1 : Int) ≤ (r.length : Int) + 1 := by omega
        clear hF hR
        by_cases hc1 : c1 = 1
        · subst hc1
          obtain rfl : r = [] := List.eq_nil_of_length_eq_zero (by omega)
          have hd1 : BSS w (some ⟨b, o, none⟩) 0 [] := by simpa using hbs.drop (a' := some ⟨b, o, none⟩) 1 (by simp) (fun e => absurd rfl e) (fun e => rfl)
          obtain ⟨ys, hy1, hy2, hy3, hy4⟩ := hd1.hdrs
          have HY1 := hide hy1
          have HY2 := hide (hy2 _ rfl)
          have HY3 := hide hy3
          have HY4 := hide hy4
          clear hy1 hy2 hy3 hy4
          go_wp2_with (at_builtin; refine wpList_append_own _ rfl (.tmp 21) (.tmp 25) 22 rfl w.heap.size 29 i0 (.slice none 0 0) 1 24 Try.underlying22 hi hz0 hz1 hz2 rfl (by decide) u4 _ xs rfl (hown.alloc _) ⟨wr.heap.size, 0, none⟩ 1 1 [.slice (some ⟨b2, o2, none⟩) m c2] rfl rfl (cell_one_new _ _ _) (by simp [Value.oneCell']) (by unfold maxLen; omega) (by omega) (by simp; omega) ?_; intro v' w1 hown' hgrow _)
          have hbel1 : Below w.heap.size w w1 := (hbel.alloc hbel.size _).grown hgrow (by simp; omega) (fun k e => (hown.lt k e).1)
          have HOWN2 := hide (fun u => ownsRow_lit w1 29 u)
          have hsz := hbel1.size
          go_region_law (refine step_append_own rfl (.tmp 30) (.tmp 32) 22 rfl w1.heap.size 29 i0 (.slice none 0 0) 1 24 Try.underlying22 hi hz0 hz1 hz2 rfl (by decide) (.slice (some ⟨w1.heap.size, 0, none⟩) 1 1) 1 [.slice (some ⟨b2, o2 + m, none⟩) (p.length - m) (c2 - m)] (by simp [Act.eval]) (by exact HOWN2.out _) ⟨b, o, none⟩ 0 0 ys (by simp [Act.eval]) (by rw [HY1.out]; rfl) (by exact fun j u e => Below.keeps (hbel1.alloc hbel1.size _) _ _ (HY2.out j u e)) HY4.out (by unfold maxLen; omega) (by omega) (by simp) ?_; intro v2 w2 hown2 hgrow2 _)
          go_wp2
          go_ret2
          exact CutP.split hlt HF.out HR.out HB1.out HB2.out hbel1 HXL.out HXS.out HY3.out hown' hgrow2 hown2
        · have hd1 : BSS w (some ⟨b, o + 1, none⟩) (c1 - 1) r := by simpa using hbs.drop (a' := some ⟨b, o + 1, none⟩) 1 (by simp) (fun _ => by simp [Addr.add_lit]) (fun e => by omega)
          obtain ⟨ys, hy1, hy2, hy3, hy4⟩ := hd1.hdrs
          have HY1 := hide hy1
          have HY2 := hide (hy2 _ rfl)
          have HY3 := hide hy3
          have HY4 := hide hy4
          clear hy1 hy2 hy3 hy4
          go_wp2_with (at_builtin; refine wpList_append_own _ rfl (.tmp 21) (.tmp 25) 22 rfl w.heap.size 29 i0 (.slice none 0 0) 1 24 Try.underlying22 hi hz0 hz1 hz2 rfl (by decide) u4 _ xs rfl (hown.alloc _) ⟨wr.heap.size, 0, none⟩ 1 1 [.slice (some ⟨b2, o2, none⟩) m c2] rfl rfl (cell_one_new _ _ _) (by simp [Value.oneCell']) (by unfold maxLen; omega) (by omega) (by simp; omega) ?_; intro v' w1 hown' hgrow _)
          have hbel1 : Below w.heap.size w w1 := (hbel.alloc hbel.size _).grown hgrow (by simp; omega) (fun k e => (hown.lt k e).1)
          have HOWN2 := hide (fun u => ownsRow_lit w1 29 u)
          have hsz := hbel1.size
          go_region_law (refine step_append_own rfl (.tmp 30) (.tmp 32) 22 rfl w1.heap.size 29 i0 (.slice none 0 0) 1 24 Try.underlying22 hi hz0 hz1 hz2 rfl (by decide) (.slice (some ⟨w1.heap.size, 0, none⟩) 1 1) 1 [.slice (some ⟨b2, o2 + m, none⟩) (p.length - m) (c2 - m)] (by simp [Act.eval]) (by exact HOWN2.out _) ⟨b, o + 1, none⟩ r.length (c1 - 1) ys (by simp [Act.eval]) (by rw [HY1.out]; omega) (by exact fun j u e => Below.keeps (hbel1.alloc hbel1.size _) _ _ (HY2.out j u e)) HY4.out (by unfold maxLen; omega) (by omega) (by simp) ?_; intro v2 w2 hown2 hgrow2 _)
          go_wp2
          go_ret2
          exact CutP.split hlt HF.out HR.out HB1.out HB2.out hbel1 HXL.out HXS.out HY3.out hown' hgrow2 hown2
      · have HF : Hid (cutF ll n = (done ++ [p]) ++ cutF r ((m : Int) - p.length)) := hide (by rw [hF, cutF_go p r m (by omega) hlt]; simp)
        have HR : Hid (cutR ll n = cutR r ((m : Int) - p.length)) := hide (by rw [hR, cutR_go p r m (by omega) hlt])
        clear hF hR
        by_cases hc1 : c1 = 1
        · subst hc1
          obtain rfl : r = [] := List.eq_nil_of_length_eq_zero (by omega)
          have hd1 : BSS w (some ⟨b, o, none⟩) 0 [] := by simpa using hbs.drop (a' := some ⟨b, o, none⟩) 1 (by simp) (fun e => absurd rfl e) (fun e => rfl)
          go_wp2_with (at_builtin; refine wpList_append_own _ rfl (.tmp 36) (.tmp 38) 22 rfl w.heap.size 29 i0 (.slice none 0 0) 1 24 Try.underlying22 hi hz0 hz1 hz2 rfl (by decide) u4 _ xs rfl (hown.alloc _) ⟨wr.heap.size, 0, none⟩ 1 1 [.slice a2 p.length c2] rfl rfl (cell_one_new _ _ _) (by simp [Value.oneCell']) (by unfold maxLen; omega) (by omega) (by simp; omega) ?_; intro v' w1 hown' hgrow _)
          go_roundw
          case rel => exact CutMid.more HLL.out hd1 (by omega) hbel hown HXS.out hb2 hown' hgrow HF.out HR.out
          case measure => simp [lenOfV]
        · have hd1 := hbs.drop (a' := some ⟨b, o + 1, none⟩) 1 (by simp) (fun _ => by simp [Addr.add_lit]) (fun e => by omega)
          go_wp2_with (at_builtin; refine wpList_append_own _ rfl (.tmp 36) (.tmp 38) 22 rfl w.heap.size 29 i0 (.slice none 0 0) 1 24 Try.underlying22 hi hz0 hz1 hz2 rfl (by decide) u4 _ xs rfl (hown.alloc _) ⟨wr.heap.size, 0, none⟩ 1 1 [.slice a2 p.length c2] rfl rfl (cell_one_new _ _ _) (by simp [Value.oneCell']) (by unfold maxLen; omega) (by omega) (by simp; omega) ?_; intro v' w1 hown' hgrow _)
          go_roundw
          case rel => exact CutMid.more HLL.out hd1 (by omega) hbel hown HXS.out hb2 hown' hgrow HF.out HR.out
          case measure => simp [lenOfV]

set_option maxHeartbeats 400000 in
theorem ZZCut_any (w : World) (a : Option Addr) (c : Nat) (ll : List (List Int)) (n : Int) (h : BSS w a c ll) (hb : ll.length ≤ 1048576) (hn : n ≤ 9223372036854775807) :
    Calls Try.prog 15 #[.slice a ll.length c, .int .i64 n] w (CutP w ll n) := by
  go_enter Try.func15, Try.ntmps15
  go_wp2_with (go_at_call 37; refine (cut_any _ _ _ ll n h hb hn).mono ?_; rintro e w1 ⟨a1, c1, a2, c2, rfl, h1, h2, h3⟩)
  go_ret2
  exact ⟨a1, c1, a2, c2, rfl, h1, h2, h3⟩

end Go.Proofs.Qxb6600602a
