/-
  addPart (38): into the room of the last part, or as a part of its own; its door (24); Parts (27).
-/
import Derived.Test.Qxb6600602aIntake
import Derived.Deep.RegionLaw
namespace Go.Proofs.Qxb6600602a
open Go.RowKit

/-- append WHERE THERE IS ROOM, to a row of the call's own (a nil one with room for nothing, too), from whatever source, as one step of a region that draws. -/
theorem step_append_inplace {P : Program} {ops : Array Oper} {o : Oper} {a : Act} {w : World} {K : Act → World → Prop} {Q : Exit → Act → World → Prop} {E : Prop} (hgd : o.guard = none) (s x : Operand) (t : TypeId)
    (ho : o.op = .call { callee := .builtin .append, args := #[s, x], argTypes := #[t, t] })
    (base : Nat) (e : TypeId) (i : TypeInfo) (z : Value) (bytes : Nat) (ht : P.underlying t = some (.slice e)) (hi : P.info? e = some i) (hz : i.zero = some z) (hsize : i.size = 1) (hby : i.bytes = bytes) (hzs : z.cells.size = 1)
    (ua : Option Addr) (n cap : Nat) (xs : List Value) (hs : a.eval s = .slice ua n cap) (hown : w.ownsRow base e 1 (.slice ua n cap) n xs)
    (ao : Option Addr) (m c : Nat) (news : List Value) (hx : a.eval x = .slice ao m c) (hl : news.length = m) (hnone : ao = none → m = 0 ∧ c = 0) (hnews : ∀ ad, ao = some ad → ∀ j u, news[j]? = some u → w.cell? (ad.add j) = some u) (h1 : ∀ u ∈ news, u.oneCell' = true)
    (hroom : n + m ≤ cap) (hbase : base ≤ w.heap.size)
    (h : ∀ w', w'.ownsRow base e 1 (.slice ua (n + m) cap) (n + m) (xs ++ news) → w.grownBy w' (Value.ownBlock (.slice ua n cap)) → K (a.put o.dst (.slice ua (n + m) cap)) w') :
    if Region.wanted o (yielded ops a.tmps) = true then Oper.wp P o a w K Q else E := by
  have hw : Region.wanted o (yielded ops a.tmps) = true := by simp [Region.wanted, hgd]
  rw [if_pos hw]
  have fin : ∀ w', (Builtin.append_ #[t, t] o.type #[.slice ua n cap, .slice ao m c]).run P w = .ok (.slice ua (n + m) cap) w' → w'.ownsRow base e 1 (.slice ua (n + m) cap) (n + m) (xs ++ news) → w.grownBy w' (Value.ownBlock (.slice ua n cap)) → Oper.wp P o a w K Q := by
    intro w' hr h2 h3
    unfold Oper.wp execOp
    simp only [ho, resolve, invoke, builtin, Sem.run_bind, Sem.run_pure, Result.andThen_ok, List.map_toArray, List.map_cons, List.map_nil, hs, hx, hr]
    exact h w' h2 h3
  cases ao with
  | none =>
    obtain ⟨rfl, rfl⟩ := hnone rfl
    have hn : news = [] := List.eq_nil_of_length_eq_zero hl
    subst hn
    refine fin w ?_ (by simpa using hown) (World.grownBy.refl _ _)
    have := run_append_owned_none (P := P) w base t o.type e i 1 ht hi _ n xs hown
    simpa using this
  | some ad =>
    cases ua with
    | none =>
      rcases hown.2 with ⟨e1, e2⟩ | ⟨g, cap', cur, e1, _⟩
      · simp at e1
        obtain ⟨rfl, rfl⟩ := e1
        have hm0 : m = 0 := by omega
        obtain ⟨v', w', hr, h2, h3, h4⟩ := run_append_own (P := P) w base t o.type e i z 1 bytes ht hi hz hsize hby hzs (by decide) (.slice none 0 0) 0 xs hown ad m c news (by omega) (hnews ad rfl) h1 (by unfold maxLen; omega) (by subst hm0; simp) hbase
        have h5 := h4.2 ⟨rfl, hm0⟩
        subst h5
        subst hm0
        exact fin w' hr h2 h3
      · simp at e1
    | some up =>
      have hup : ∃ g, up = ⟨g, 0, none⟩ := by
        rcases hown.2 with ⟨e1, _⟩ | ⟨g, cap', cur, e1, _⟩
        · simp at e1
        · simp at e1; exact ⟨g, e1.1⟩
      obtain ⟨g, rfl⟩ := hup
      obtain ⟨w', hr, h2, h3⟩ := run_append_fits (P := P) w base t o.type e i 1 ht hi hsize g n cap xs hown ad m c news (by omega) (hnews ad rfl) h1 hroom
      exact fin w' hr h2 h3

/-- The last part, and what the walk asks of it. -/
theorem Intake.last {w : World} {B q : Nat} {pre : List (List Int)} {l : List Int} {pv : Value} {xs : List Value} {held : Int} (h : Intake w B q (pre ++ [l]) pv xs held) :
    ∃ pg pcap ua ucap, pv = .slice (some ⟨pg, 0, none⟩) (pre.length + 1) pcap ∧ B ≤ pg ∧ (∃ cur, w.heap[pg]? = some (.cells cur 29 (0, 0))) ∧ w.cell? ⟨pg, pre.length, none⟩ = some (.slice ua l.length ucap) ∧ w.frozen? ⟨pg, pre.length, none⟩ = false ∧
      xs.getD pre.length undef = .slice ua l.length ucap ∧ OwnB w B (.slice ua l.length ucap) l ∧ l.length ≤ ucap ∧ ucap ≤ maxLen := by
  have ho := h.own
  have hlast := h.each pre.length (by simp)
  have e4 : (pre ++ [l]).getD pre.length [] = l := by simp [List.getD]
  rw [e4] at hlast
  obtain ⟨ua, ucap, e1, hbs, -⟩ := hlast.bs (by have := h.byte pre.length; rw [e4] at this; exact this)
  rw [List.length_append] at ho
  rcases ho.2 with ⟨_, e2⟩ | ⟨pg, pcap, cur, hv, hg, hh, hn, hm, hs, htk⟩
  · simp at e2
  · have hv' : pv = .slice (some ⟨pg, 0, none⟩) (pre.length + 1) pcap := hv
    subst hv'
    refine ⟨pg, pcap, ua, ucap, rfl, hg, ⟨cur, hh⟩, ?_, ho.frozenAt _, e1, by rw [← e1]; exact hlast, hbs.le, hbs.max⟩
    have hxl : pre.length < xs.length := by have := ho.1; simp at this; omega
    rw [ho.cellAt pre.length (by simp), ← e1]
    simp [List.getD, hxl]

/-- Behind an append in place into the last part: what the walk asks of that world. -/
theorem own_mid {w w1 : World} {B : Nat} {u : Value} {l : List Int} (hu : OwnB w B u l) (hg : w.grownBy w1 u.ownBlock) : Keeps 43 w w1 ∧ Keeps 29 w w1 :=
  ⟨Keeps.grown hg fun k e => by obtain ⟨c, hc⟩ := ownsRow_block hu k e; exact ⟨c, 5, hc, by decide⟩, Keeps.grown hg fun k e => by obtain ⟨c, hc⟩ := ownsRow_block hu k e; exact ⟨c, 5, hc, by decide⟩⟩

theorem Intake.fill {w w1 : World} {B q : Nat} {pre : List (List Int)} {l x : List Int} {pg pcap : Nat} {u u' : Value} {xs : List Value} {held : Int} (h : Intake w B q (pre ++ [l]) (.slice (some ⟨pg, 0, none⟩) (pre.length + 1) pcap) xs held)
    (hB : B ≤ w.heap.size) (hu : xs.getD pre.length undef = u) (hou : OwnB w B u l) (hg : w.grownBy w1 u.ownBlock) (hu' : OwnB w1 B u' (l ++ x)) (he : u'.ownBlock = u.ownBlock) (hby : ∀ j, 0 ≤ x.getD j 0 ∧ x.getD j 0 ≤ 255) :
    Intake ((w1.setCell ⟨pg, pre.length, none⟩ u').setCell ⟨q, 3, none⟩ (.int .i64 ((tot (pre ++ [l]) : Nat) + (x.length : Nat) : Int))) B q (pre ++ [l ++ x]) (.slice (some ⟨pg, 0, none⟩) (pre.length + 1) pcap) (xs.set pre.length u') held ∧
    Below B w ((w1.setCell ⟨pg, pre.length, none⟩ u').setCell ⟨q, 3, none⟩ (.int .i64 ((tot (pre ++ [l]) : Nat) + (x.length : Nat) : Int))) := by
  obtain ⟨k43, k29⟩ := own_mid hou hg
  have hblk := k43 _ _ h.blk
  have hrow := k29.own h.own
  rw [List.length_append] at hrow
  obtain ⟨st1, st2⟩ := hrow.stored pre.length u'
  obtain ⟨cur, hcur⟩ := ownsRow_block hrow pg rfl
  have hpgB : B ≤ pg := (hrow.lt pg rfl).1
  have m43 : Keeps 43 w1 (w1.setCell ⟨pg, pre.length, none⟩ u') := Keeps.setCell (p := ⟨pg, pre.length, none⟩) hcur (by decide) u'
  have m5 : Keeps 5 w1 (w1.setCell ⟨pg, pre.length, none⟩ u') := Keeps.setCell (p := ⟨pg, pre.length, none⟩) hcur (by decide) u'
  have hblk2 := m43 _ _ hblk
  have s3 := heap_setCell_self (o := 3) hblk2 (.int .i64 ((tot (pre ++ [l]) : Nat) + (x.length : Nat) : Int))
  have n29 := Keeps.setCell (t := 29) (p := ⟨q, 3, none⟩) hblk2 (by decide) (.int .i64 ((tot (pre ++ [l]) : Nat) + (x.length : Nat) : Int))
  have n5 := Keeps.setCell (t := 5) (p := ⟨q, 3, none⟩) hblk2 (by decide) (.int .i64 ((tot (pre ++ [l]) : Nat) + (x.length : Nat) : Int))
  have hxl : pre.length < xs.length := by have := h.own.1; simp at this; omega
  have g1 : ∀ i, i < pre.length → (xs.set pre.length u').getD i undef = xs.getD i undef := fun i hi => by simp [List.getD, show ¬ pre.length = i by omega]
  have g2 : (xs.set pre.length u').getD pre.length undef = u' := by simp [List.getD, hxl]
  have g3 : ∀ i, i < pre.length → (pre ++ [l ++ x]).getD i [] = (pre ++ [l]).getD i [] := fun i hi => by simp [List.getD, List.getElem?_append_left hi]
  have g4 : (pre ++ [l ++ x]).getD pre.length [] = l ++ x := by simp [List.getD]
  have g5 : (pre ++ [l]).getD pre.length [] = l := by simp [List.getD]
  refine ⟨⟨h.hq, ?_, ?_, ?_, ?_, ?_⟩, ?_⟩
  · rw [s3]
    simp [tot_append, tot, Int.add_assoc]
  · rw [List.length_append]
    exact n29.own st1
  · intro i hi
    by_cases e : i < pre.length
    · rw [g1 i e, g3 i e]
      have hk : OwnB w1 B (xs.getD i undef) ((pre ++ [l]).getD i []) := by
        have ha := h.each i (by simp; omega)
        refine ha.kept hg ?_
        by_cases hv : (xs.getD i undef).ownBlock = none
        · exact .inl hv
        · refine .inr fun e2 => ?_
          obtain ⟨k, hk⟩ := Option.ne_none_iff_exists'.1 hv
          have := h.apart i pre.length k e (by simp) hk
          rw [hu, ← e2] at this
          exact this hk
      exact n5.ownB (m5.ownB hk)
    · obtain rfl : i = pre.length := by simp at hi; omega
      rw [g2, g4]
      exact n5.ownB (m5.ownB hu')
  · intro i j k hij hj h3
    have hj' : j ≤ pre.length := by simp at hj; omega
    rw [g1 i (by omega)] at h3
    by_cases e : j < pre.length
    · rw [g1 j e]
      exact h.apart i j k hij (by simp; omega) h3
    · obtain rfl : j = pre.length := by omega
      rw [g2, he, ← hu]
      exact h.apart i _ k hij (by simp) h3
  · intro i j
    by_cases e : i < pre.length
    · rw [g3 i e]; exact h.byte i j
    · by_cases e2 : i = pre.length
      · rw [e2, g4]
        by_cases hj : j < l.length
        · have := h.byte pre.length j
          rw [g5] at this
          simpa [List.getD, List.getElem?_append_left hj] using this
        · have := hby (j - l.length)
          simpa [List.getD, List.getElem?_append_right (Nat.le_of_not_lt hj)] using this
      · simp [List.getD, List.getElem?_eq_none (show (pre ++ [l ++ x]).length ≤ i by simp; omega)]
  · have hb1 : Below B w w1 := (Below.refl B w).grown hg hB (fun k e => (World.ownsRow.lt hou k e).1)
    exact (hb1.setCell (p := ⟨pg, pre.length, none⟩) hpgB _).setCell (p := ⟨q, 3, none⟩) h.hq _

theorem grown_of_drew {w w1 : World} {k : Nat} {row : Option Nat} (h : (w.drewN k).grownBy w1 row) : w.grownBy w1 row := ⟨h.os, h.tape, h.output, h.size, h.block⟩

theorem Intake.mid_cells {w w1 : World} {B q : Nat} {pre : List (List Int)} {l : List Int} {pg pcap : Nat} {u : Value} {xs : List Value} {held : Int} (h : Intake w B q (pre ++ [l]) (.slice (some ⟨pg, 0, none⟩) (pre.length + 1) pcap) xs held)
    (hu : xs.getD pre.length undef = u) (hou : OwnB w B u l) (hg : w.grownBy w1 u.ownBlock) :
    w1.cell? ⟨q, 2, none⟩ = some (.slice (some ⟨pg, 0, none⟩) (pre.length + 1) pcap) ∧ w1.cell? ⟨q, 3, none⟩ = some (.int .i64 (tot (pre ++ [l]) : Nat)) ∧ w1.frozen? ⟨q, 3, none⟩ = false ∧
    w1.cell? ⟨pg, pre.length, none⟩ = some u ∧ w1.frozen? ⟨pg, pre.length, none⟩ = false := by
  obtain ⟨k43, k29⟩ := own_mid hou hg
  have hblk := k43 _ _ h.blk
  have hrow := k29.own h.own
  rw [List.length_append] at hrow
  have hxl : pre.length < xs.length := by have := h.own.1; simp at this; omega
  refine ⟨by simp [World.cell?, hblk], by simp [World.cell?, hblk], by simp [World.frozen?, hblk], ?_, hrow.frozenAt _⟩
  rw [hrow.cellAt pre.length (by simp), ← hu]
  simp [List.getD, hxl]

set_option maxHeartbeats 2000000 in
theorem addPart_room (w : World) (B q : Nat) (pre : List (List Int)) (l x : List Int) (pv : Value) (xs : List Value) (held : Int) (a : Option Addr) (c : Nat) (h : Intake w B q (pre ++ [l]) pv xs held) (hB : B ≤ w.heap.size)
    (hx : BS w a c x) (hsz : (pre ++ [l]).length + tot (pre ++ [l]) + x.length ≤ 2097152) (ua : Option Addr) (ucap : Nat) (hua : xs.getD pre.length undef = .slice ua l.length ucap) (hroom : l.length + x.length ≤ ucap) :
    Calls Try.prog 38 #[.pointer (some ⟨q, 0, none⟩), .slice a x.length c] w (AddOut w B q (pre ++ [l]) x) := by
  obtain ⟨i0, hi, hz0, hz1, hz2⟩ := info_parts info5
  obtain ⟨hc2, hc3, -, hfq⟩ := h.cell
  obtain ⟨pg, pcap, ua', ucap', rfl, hpgB, ⟨cur, hpg⟩, hcu, hfu, hu, hou, hul, hum⟩ := h.last
  rw [hua] at hu
  simp only [Value.slice.injEq, true_and] at hu
  obtain ⟨rfl, rfl⟩ := hu
  unfold maxLen at hum
  have hsz1 : pre.length + 1 ≤ 2097152 := by simp at hsz; omega
  have hsz2 : tot (pre ++ [l]) + x.length ≤ 2097152 := by omega
  have hne : ¬ pg = q := fun e => by rw [e, h.blk] at hpg; simp at hpg
  have HIN := hide h
  have HOU := hide hou
  have HUA := hide hua
  have HNS : Hid (∀ ad, a = some ad → ∀ j u, (cellsB x)[j]? = some u → w.cell? (ad.add j) = some u) := hide (by
    intro ad e j u hu
    obtain ⟨hj, _⟩ := cellsB_get x j u hu
    obtain ⟨ad', e', hs⟩ := hx.src (by omega)
    rw [e] at e'
    cases e'
    exact hs j u hu)
  have HN0 : Hid (a = none → x.length = 0 ∧ c = 0) := hide (fun e => ⟨by have := hx.nil e; have := hx.le; omega, hx.nil e⟩)
  have HBY := hide hx.byte
  have hf3 := hfq 3
  have HMID := hide (fun w1 hg => h.mid_cells (w1 := w1) hua hou hg)
  have HFILL := hide (fun w1 u' hg hu' he => h.fill (w1 := w1) (u' := u') (x := x) hB hua hou hg hu' he hx.byte)
  clear h hou hua hx hsz hpg hfq HIN HUA HBY
  generalize tot (pre ++ [l]) = tp at *
  generalize pre.length = n' at *
  have hr1 : (x.length : Int) ≤ (ucap : Int) - (l.length : Int) := by omega
  have hwr : IntKind.i64.wrap ((ucap : Int) - (l.length : Int)) = (ucap : Int) - (l.length : Int) := by rw [IntKind.wrap_i64]; omega
  have hn1 : (n' : Int) < (n' : Int) + 1 := by omega
  go_enter Try.func38, Try.ntmps38
  go_wp2_with fail
  go_quiet (fail)
  go_wp2_with fail
  go_region_law (refine step_append_inplace rfl (.tmp 48) (.tmp 49) 29 rfl B 5 i0 (.int .u8 0) 1 Try.underlying29 hi hz0 hz1 hz2 rfl ua l.length ucap (cellsB l) (by simp [Act.eval]) (by exact HOU.out) a x.length c (cellsB x) (by simp [Act.eval]) (length_cellsB x) HN0.out (by exact HNS.out) (cellsB_one x) hroom (by exact hB) ?_; intro w1 hown1 hgrow1; have hg1 := grown_of_drew hgrow1; obtain ⟨hd1, hd2, hd3, hd4, hd5⟩ := HMID.out w1 hg1; have HG1 := hide hg1; have HO1 := hide hown1; clear hgrow1 hg1 hown1)
  all_goals go_wp2_with fail
  all_goals go_end0
  all_goals
    have hown' : OwnB w1 B (.slice ua (l.length + x.length) ucap) (l ++ x) := by
      unfold OwnB
      rw [List.length_append, cellsB_append]
      exact HO1.out
    obtain ⟨f1, f2⟩ := HFILL.out w1 _ HG1.out hown' (by cases ua <;> rfl)
    exact ⟨rfl, f2, _, _, _, _, f1, .inl ⟨pre, l, rfl, rfl⟩⟩

theorem own_form {w : World} {B sz : Nat} {t : TypeId} {v : Value} {n : Nat} {xs : List Value} (h : w.ownsRow B t sz v n xs) : ∃ ao cap, v = .slice ao n cap := by
  rcases h.2 with ⟨rfl, rfl⟩ | ⟨g, cap, cur, rfl, _⟩
  · exact ⟨none, 0, rfl⟩
  · exact ⟨_, _, rfl⟩

/-- Behind the append of the new part to the parts: the intake's own cells. -/
theorem Intake.push_cells {w w1 w2 : World} {B q : Nat} {ps : List (List Int)} {pv : Value} {xs : List Value} {held : Int} {o : Obj} (h : Intake w B q ps pv xs held) (hb1 : Below w.heap.size w w1) (hg : (w1.alloc o).grownBy w2 pv.ownBlock) :
    w2.cell? ⟨q, 2, none⟩ = some pv ∧ w2.cell? ⟨q, 3, none⟩ = some (.int .i64 (tot ps : Nat)) ∧ w2.cell? ⟨q, 4, none⟩ = some (.int .i64 held) ∧ w2.frozen? ⟨q, 2, none⟩ = false ∧ w2.frozen? ⟨q, 3, none⟩ = false ∧ w2.frozen? ⟨q, 4, none⟩ = false := by
  have h1' := (h.below hb1).below ((Below.refl _ _).alloc (Nat.le_refl _) o)
  have k43 : Keeps 43 (w1.alloc o) w2 := Keeps.grown hg fun k e => by obtain ⟨c, hc⟩ := ownsRow_block h1'.own k e; exact ⟨c, 29, hc, by decide⟩
  have hblk := k43 _ _ h1'.blk
  simp [World.cell?, World.frozen?, hblk]

theorem below_of_drew {w w1 : World} {k B : Nat} (h : Below B (w.drewN k) w1) : Below B w w1 := ⟨h.os, h.tape, h.output, h.size, h.block⟩

/-- make, then an append within the room: the new part. -/
theorem made_part {w W w1 : World} {R : Nat} {x : List Int} {o : Obj} {k : Nat} (hW : W = (w.alloc o).drewN k) (ho : w1.ownsRow w.heap.size 5 1 (.slice (some ⟨w.heap.size, 0, none⟩) (0 + x.length) R) (0 + x.length) ([] ++ cellsB x)) (hg : W.grownBy w1 (some w.heap.size)) :
    OwnB w1 w.heap.size (.slice (some ⟨w.heap.size, 0, none⟩) x.length R) x ∧ Below w.heap.size w w1 := by
  subst hW
  refine ⟨?_, ((Below.refl _ _).alloc (Nat.le_refl _) o).grown (grown_of_drew hg) (by simp) (fun k e => by cases e; exact Nat.le_refl _)⟩
  simpa [OwnB] using ho

set_option maxHeartbeats 2000000 in
theorem addPart_tp (w : World) (B q : Nat) (pre : List (List Int)) (l x : List Int) (pv : Value) (xs : List Value) (held : Int) (a : Option Addr) (c : Nat) (h : Intake w B q (pre ++ [l]) pv xs held) (hB : B ≤ w.heap.size)
    (hx : BS w a c x) (hsz : (pre ++ [l]).length + tot (pre ++ [l]) + x.length ≤ 2097152) (ua : Option Addr) (ucap : Nat) (hua : xs.getD pre.length undef = .slice ua l.length ucap) (hroom : ¬ l.length + x.length ≤ ucap) (h1 : tot (pre ++ [l]) ≤ 4096) (h2 : x.length < tot (pre ++ [l])) :
    Calls Try.prog 38 #[.pointer (some ⟨q, 0, none⟩), .slice a x.length c] w (AddOut w B q (pre ++ [l]) x) := by
  obtain ⟨i5, hj, hy0, hy1, hy2⟩ := info_parts info5
  obtain ⟨i0, hi, hz0, hz1, hz2⟩ := info_parts info29
  obtain ⟨hc2, hc3, hc4, hfq⟩ := h.cell
  obtain ⟨pg, pcap, ua', ucap', rfl, hpgB, -, hcu, hfu, hu, hou, hul, hum⟩ := h.last
  rw [hua] at hu
  simp only [Value.slice.injEq, true_and] at hu
  obtain ⟨rfl, rfl⟩ := hu
  unfold maxLen at hum
  have hsz1 : pre.length + 1 ≤ 2097152 := by simp at hsz; omega
  have hx0 : 0 < x.length := by omega
  have hsz2 : tot (pre ++ [l]) + x.length ≤ 2097152 := by omega
  have hf2 := hfq 2
  have hf3 := hfq 3
  have hf4 := hfq 4
  have HOWN : Hid (∀ w1, Below w.heap.size w w1 → w1.ownsRow B 29 1 (.slice (some ⟨pg, 0, none⟩) (pre.length + 1) pcap) (pre.length + 1) xs) := hide (fun w1 hb => by simpa using (h.below hb).own)
  have HCELL := hide (fun w1 hb => (h.below (w' := w1) hb).cell)
  have HPC := hide (fun w1 w2 o hb hg => h.push_cells (w1 := w1) (w2 := w2) (o := o) hb hg)
  have HPUSH := hide (fun w1 w2 v' part held' o hb hp hown hg => h.push (w1 := w1) (w2 := w2) (v' := v') (part := part) (held' := held') (o := o) (x := x) hB hb hp hx.byte hown hg)
  have HX := hide hx
  have HBY := hide hx.byte
  have hmk : ∀ W : World, (Instr.makeSlice 29 (.int .i64 0) (.int .i64 ((tot (pre ++ [l]) : Nat) : Int))).run Try.prog W = .ok (.slice (some ⟨W.heap.size, 0, none⟩) 0 (tot (pre ++ [l]))) (W.alloc (.cells (madeCells #[.int .u8 0] (tot (pre ++ [l]))) 5)) := fun W => by
    have := run_make (P := Try.prog) W 29 5 i5 (.int .u8 0) Try.underlying29 hj hy0 .i64 .i64 0 ((tot (pre ++ [l]) : Nat) : Int) (by omega) (by omega) (by rw [hy2]; omega) (by omega)
    simpa [hy1, Value.cells] using this
  have HM := hide (World.ownsRow_made (base := w.heap.size) (e := 5) (size := 1) w (madeCells #[.int .u8 0] (tot (pre ++ [l]))) (tot (pre ++ [l])) (Nat.le_refl _) (by unfold maxLen; omega) (by rw [size_madeCells]; omega))
  have HNS : Hid (∀ ad, a = some ad → ∀ j u, (cellsB x)[j]? = some u → w.cell? (ad.add j) = some u) := hide (by
    intro ad e j u hu
    obtain ⟨hj, _⟩ := cellsB_get x j u hu
    obtain ⟨ad', e', hs⟩ := hx.src (by omega)
    rw [e] at e'
    cases e'
    exact hs j u hu)
  have HN0 : Hid (a = none → x.length = 0 ∧ c = 0) := hide (fun e => ⟨by have := hx.nil e; have := hx.le; omega, hx.nil e⟩)
  clear h hx hsz hfq hou hua
  generalize tot (pre ++ [l]) = tp at *
  rw [List.length_append, List.length_singleton] at HPUSH
  generalize pre.length = n' at *
  have hr1 : decide ((x.length : Int) ≤ (ucap : Int) - (l.length : Int)) = false := decide_eq_false (by omega)
  have hwr : IntKind.i64.wrap ((ucap : Int) - (l.length : Int)) = (ucap : Int) - (l.length : Int) := by rw [IntKind.wrap_i64]; omega
  have hn1 : (n' : Int) < (n' : Int) + 1 := by omega
  go_enter Try.func38, Try.ntmps38
  go_wp2_with fail
  go_quiet (fail)
  go_wp2_with (first | (at_builtin; refine wpList_append_fits_any _ rfl (.tmp 71) (.tmp 72) 29 rfl w.heap.size 5 i5 1 Try.underlying29 hj hy1 w.heap.size 0 tp [] rfl (by exact HM.out) _ _ _ (cellsB x) rfl (by rw [length_cellsB]; omega) (by exact HN0.out) (by exact fun ad e j u hu => Below.keeps ((Below.refl _ _).alloc (Nat.le_refl _) _) _ _ (HNS.out ad e j u hu)) (cellsB_one x) (by omega) ?_; intro w1 hown1 hgrow1; obtain ⟨hpart, hb1⟩ := made_part rfl hown1 hgrow1; clear hown1 hgrow1; rw [Nat.zero_add]; obtain ⟨hd2, hd3, hd4, hdf⟩ := HCELL.out w1 hb1; have HP := hide hpart; clear hpart) | (at_builtin; refine wpList_append_own _ rfl (.tmp 80) (.tmp 82) 22 rfl B 29 i0 (.slice none 0 0) 1 24 Try.underlying22 hi hz0 hz1 hz2 rfl (by decide) (.slice (some ⟨pg, 0, none⟩) (n' + 1) pcap) (n' + 1) xs rfl (by exact (HOWN.out w1 hb1).alloc _) ⟨w1.heap.size, 0, none⟩ 1 1 [Value.slice (some ⟨w.heap.size, 0, none⟩) x.length tp] rfl rfl (cell_one_new _ _ _) (by simp [Value.oneCell']) (by unfold maxLen; omega) (by omega) (by simp; have := hb1.size; omega) ?_; intro v' w2 hown2 hgrow2 _; obtain ⟨vo, vcap, e2⟩ := own_form hown2; subst e2; obtain ⟨hq2, hq3, hq4, hg2, hg3, hg4⟩ := HPC.out w1 w2 _ hb1 hgrow2; have HO2 := hide hown2; have HG2 := hide hgrow2; clear hown2 hgrow2))
  go_end0
  obtain ⟨f1, f2⟩ := HPUSH.out w1 w2 _ _ _ _ hb1 (by exact HP.out) HO2.out HG2.out
  exact ⟨rfl, f2, _, _, _, _, f1, .inr ⟨.inr hx0, rfl⟩⟩

set_option maxRecDepth 100000 in
set_option maxHeartbeats 2000000 in
theorem addPart_lit (w : World) (B q : Nat) (pre : List (List Int)) (l x : List Int) (pv : Value) (xs : List Value) (held : Int) (a : Option Addr) (c : Nat) (h : Intake w B q (pre ++ [l]) pv xs held) (hB : B ≤ w.heap.size)
    (hx : BS w a c x) (hsz : (pre ++ [l]).length + tot (pre ++ [l]) + x.length ≤ 2097152) (ua : Option Addr) (ucap : Nat) (hua : xs.getD pre.length undef = .slice ua l.length ucap) (hroom : ¬ l.length + x.length ≤ ucap) (h1 : ¬ tot (pre ++ [l]) ≤ 4096) (h2 : x.length < 4096) :
    Calls Try.prog 38 #[.pointer (some ⟨q, 0, none⟩), .slice a x.length c] w (AddOut w B q (pre ++ [l]) x) := by
  obtain ⟨i5, hj, hy0, hy1, hy2⟩ := info_parts info5
  obtain ⟨i0, hi, hz0, hz1, hz2⟩ := info_parts info29
  obtain ⟨hc2, hc3, hc4, hfq⟩ := h.cell
  obtain ⟨pg, pcap, ua', ucap', rfl, hpgB, -, hcu, hfu, hu, hou, hul, hum⟩ := h.last
  rw [hua] at hu
  simp only [Value.slice.injEq, true_and] at hu
  obtain ⟨rfl, rfl⟩ := hu
  unfold maxLen at hum
  have hsz1 : pre.length + 1 ≤ 2097152 := by simp at hsz; omega
  have hx0 : 0 < x.length := by omega
  have hsz2 : tot (pre ++ [l]) + x.length ≤ 2097152 := by omega
  have hf2 := hfq 2
  have hf3 := hfq 3
  have hf4 := hfq 4
  have HOWN : Hid (∀ w1, Below w.heap.size w w1 → w1.ownsRow B 29 1 (.slice (some ⟨pg, 0, none⟩) (pre.length + 1) pcap) (pre.length + 1) xs) := hide (fun w1 hb => by simpa using (h.below hb).own)
  have HCELL := hide (fun w1 hb => (h.below (w' := w1) hb).cell)
  have HPC := hide (fun w1 w2 o hb hg => h.push_cells (w1 := w1) (w2 := w2) (o := o) hb hg)
  have HPUSH := hide (fun w1 w2 v' part held' o hb hp hown hg => h.push (w1 := w1) (w2 := w2) (v' := v') (part := part) (held' := held') (o := o) (x := x) hB hb hp hx.byte hown hg)
  have HX := hide hx
  have HBY := hide hx.byte
  obtain ⟨R, hR⟩ : ∃ R : Nat, R = 4096 := ⟨_, rfl⟩
  have hmk : ∀ W : World, (Instr.makeSlice 29 (.int .i64 0) (.int .i64 4096)).run Try.prog W = .ok (.slice (some ⟨W.heap.size, 0, none⟩) 0 R) (W.alloc (.cells (madeCells #[.int .u8 0] R) 5)) := fun W => by
    have := run_make (P := Try.prog) W 29 5 i5 (.int .u8 0) Try.underlying29 hj hy0 .i64 .i64 0 (R : Int) (by omega) (by omega) (by rw [hy2]; omega) (by omega)
    have e : (R : Int) = 4096 := by omega
    rw [e] at this
    have e2 : (4096 : Int).toNat = R := by omega
    rw [e2] at this
    simpa [hy1, Value.cells] using this
  have HM := hide (World.ownsRow_made (base := w.heap.size) (e := 5) (size := 1) w (madeCells #[.int .u8 0] R) R (Nat.le_refl _) (by unfold maxLen; omega) (by rw [size_madeCells]; omega))
  have hxR : x.length < R := by omega
  have hRb : R ≤ 65536 := by omega
  clear hR
  have HNS : Hid (∀ ad, a = some ad → ∀ j u, (cellsB x)[j]? = some u → w.cell? (ad.add j) = some u) := hide (by
    intro ad e j u hu
    obtain ⟨hj, _⟩ := cellsB_get x j u hu
    obtain ⟨ad', e', hs⟩ := hx.src (by omega)
    rw [e] at e'
    cases e'
    exact hs j u hu)
  have HN0 : Hid (a = none → x.length = 0 ∧ c = 0) := hide (fun e => ⟨by have := hx.nil e; have := hx.le; omega, hx.nil e⟩)
  clear h hx hsz hfq hou hua
  generalize tot (pre ++ [l]) = tp at *
  rw [List.length_append, List.length_singleton] at HPUSH
  generalize pre.length = n' at *
  have hr1 : decide ((x.length : Int) ≤ (ucap : Int) - (l.length : Int)) = false := decide_eq_false (by omega)
  have hwr : IntKind.i64.wrap ((ucap : Int) - (l.length : Int)) = (ucap : Int) - (l.length : Int) := by rw [IntKind.wrap_i64]; omega
  have hn1 : (n' : Int) < (n' : Int) + 1 := by omega
  go_enter Try.func38, Try.ntmps38
  go_wp2_with fail
  go_quiet (fail)
  go_wp2_with (first | (at_builtin; refine wpList_append_fits_any _ rfl (.tmp 71) (.tmp 72) 29 rfl w.heap.size 5 i5 1 Try.underlying29 hj hy1 w.heap.size 0 R [] rfl (by exact HM.out) _ _ _ (cellsB x) rfl (by rw [length_cellsB]; omega) (by exact HN0.out) (by exact fun ad e j u hu => Below.keeps ((Below.refl _ _).alloc (Nat.le_refl _) _) _ _ (HNS.out ad e j u hu)) (cellsB_one x) (by omega) ?_; intro w1 hown1 hgrow1; obtain ⟨hpart, hb1⟩ := made_part rfl hown1 hgrow1; clear hown1 hgrow1; rw [Nat.zero_add]; obtain ⟨hd2, hd3, hd4, hdf⟩ := HCELL.out w1 hb1; have HP := hide hpart; clear hpart) | (at_builtin; refine wpList_append_own _ rfl (.tmp 80) (.tmp 82) 22 rfl B 29 i0 (.slice none 0 0) 1 24 Try.underlying22 hi hz0 hz1 hz2 rfl (by decide) (.slice (some ⟨pg, 0, none⟩) (n' + 1) pcap) (n' + 1) xs rfl (by exact (HOWN.out w1 hb1).alloc _) ⟨w1.heap.size, 0, none⟩ 1 1 [Value.slice (some ⟨w.heap.size, 0, none⟩) x.length R] rfl rfl (cell_one_new _ _ _) (by simp [Value.oneCell']) (by unfold maxLen; omega) (by omega) (by simp; have := hb1.size; omega) ?_; intro v' w2 hown2 hgrow2 _; obtain ⟨vo, vcap, e2⟩ := own_form hown2; subst e2; obtain ⟨hq2, hq3, hq4, hg2, hg3, hg4⟩ := HPC.out w1 w2 _ hb1 hgrow2; have HO2 := hide hown2; have HG2 := hide hgrow2; clear hown2 hgrow2))
  go_end0
  obtain ⟨f1, f2⟩ := HPUSH.out w1 w2 _ _ _ _ hb1 (by exact HP.out) HO2.out HG2.out
  exact ⟨rfl, f2, _, _, _, _, f1, .inr ⟨.inr hx0, rfl⟩⟩

set_option maxHeartbeats 2000000 in
theorem addPart_clone1 (w : World) (B q : Nat) (pre : List (List Int)) (l x : List Int) (pv : Value) (xs : List Value) (held : Int) (a : Option Addr) (c : Nat) (h : Intake w B q (pre ++ [l]) pv xs held) (hB : B ≤ w.heap.size)
    (hx : BS w a c x) (hsz : (pre ++ [l]).length + tot (pre ++ [l]) + x.length ≤ 2097152) (ua : Option Addr) (ucap : Nat) (hua : xs.getD pre.length undef = .slice ua l.length ucap) (hroom : ¬ l.length + x.length ≤ ucap) (h1 : tot (pre ++ [l]) ≤ 4096) (h2 : ¬ x.length < tot (pre ++ [l])) :
    Calls Try.prog 38 #[.pointer (some ⟨q, 0, none⟩), .slice a x.length c] w (AddOut w B q (pre ++ [l]) x) := by
  obtain ⟨i0, hi, hz0, hz1, hz2⟩ := info_parts info29
  obtain ⟨hc2, hc3, hc4, hfq⟩ := h.cell
  obtain ⟨pg, pcap, ua', ucap', rfl, hpgB, -, hcu, hfu, hu, hou, hul, hum⟩ := h.last
  rw [hua] at hu
  simp only [Value.slice.injEq, true_and] at hu
  obtain ⟨rfl, rfl⟩ := hu
  unfold maxLen at hum
  have hsz1 : pre.length + 1 ≤ 2097152 := by simp at hsz; omega
  have hx0 : 0 < x.length := by omega
  have hsz2 : tot (pre ++ [l]) + x.length ≤ 2097152 := by omega
  have hf2 := hfq 2
  have hf3 := hfq 3
  have hf4 := hfq 4
  have HOWN : Hid (∀ w1, Below w.heap.size w w1 → w1.ownsRow B 29 1 (.slice (some ⟨pg, 0, none⟩) (pre.length + 1) pcap) (pre.length + 1) xs) := hide (fun w1 hb => by simpa using (h.below hb).own)
  have HCELL := hide (fun w1 hb => (h.below (w' := w1) hb).cell)
  have HPC := hide (fun w1 w2 o hb hg => h.push_cells (w1 := w1) (w2 := w2) (o := o) hb hg)
  have HPUSH := hide (fun w1 w2 v' part held' o hb hp hown hg => h.push (w1 := w1) (w2 := w2) (v' := v') (part := part) (held' := held') (o := o) (x := x) hB hb hp hx.byte hown hg)
  have HX := hide hx
  have HBY := hide hx.byte
  clear h hx hsz hfq hou hua
  generalize tot (pre ++ [l]) = tp at *
  rw [List.length_append, List.length_singleton] at HPUSH
  generalize pre.length = n' at *
  have hr1 : decide ((x.length : Int) ≤ (ucap : Int) - (l.length : Int)) = false := decide_eq_false (by omega)
  have hwr : IntKind.i64.wrap ((ucap : Int) - (l.length : Int)) = (ucap : Int) - (l.length : Int) := by rw [IntKind.wrap_i64]; omega
  have hn1 : (n' : Int) < (n' : Int) + 1 := by omega
  go_enter Try.func38, Try.ntmps38
  go_wp2_with fail
  go_quiet (fail)
  go_wp2_with (first | (go_at_call 40; refine (clone_any _ _ _ x (by exact HX.out.drewN _) (by omega)).mono ?_; rintro e w1 ⟨part, rfl, hpart, hb0⟩; have hb1 := below_of_drew hb0; obtain ⟨pa, pc, e1, -, -⟩ := hpart.bs HBY.out; subst e1; clear hb0; obtain ⟨hd2, hd3, hd4, hdf⟩ := HCELL.out w1 hb1; have HP := hide hpart; clear hpart) | (at_builtin; refine wpList_append_own _ rfl (.tmp 80) (.tmp 82) 22 rfl B 29 i0 (.slice none 0 0) 1 24 Try.underlying22 hi hz0 hz1 hz2 rfl (by decide) (.slice (some ⟨pg, 0, none⟩) (n' + 1) pcap) (n' + 1) xs rfl (by exact (HOWN.out w1 hb1).alloc _) ⟨w1.heap.size, 0, none⟩ 1 1 [Value.slice pa x.length pc] rfl rfl (cell_one_new _ _ _) (by simp [Value.oneCell']) (by unfold maxLen; omega) (by omega) (by simp; have := hb1.size; omega) ?_; intro v' w2 hown2 hgrow2 _; obtain ⟨vo, vcap, e2⟩ := own_form hown2; subst e2; obtain ⟨hq2, hq3, hq4, hg2, hg3, hg4⟩ := HPC.out w1 w2 _ hb1 hgrow2; have HO2 := hide hown2; have HG2 := hide hgrow2; clear hown2 hgrow2))
  go_end0
  obtain ⟨f1, f2⟩ := HPUSH.out w1 w2 _ _ _ _ hb1 (by exact HP.out) HO2.out HG2.out
  exact ⟨rfl, f2, _, _, _, _, f1, .inr ⟨.inr hx0, rfl⟩⟩

set_option maxRecDepth 100000 in
set_option maxHeartbeats 2000000 in
theorem addPart_clone2 (w : World) (B q : Nat) (pre : List (List Int)) (l x : List Int) (pv : Value) (xs : List Value) (held : Int) (a : Option Addr) (c : Nat) (h : Intake w B q (pre ++ [l]) pv xs held) (hB : B ≤ w.heap.size)
    (hx : BS w a c x) (hsz : (pre ++ [l]).length + tot (pre ++ [l]) + x.length ≤ 2097152) (ua : Option Addr) (ucap : Nat) (hua : xs.getD pre.length undef = .slice ua l.length ucap) (hroom : ¬ l.length + x.length ≤ ucap) (h1 : ¬ tot (pre ++ [l]) ≤ 4096) (h2 : ¬ x.length < 4096) :
    Calls Try.prog 38 #[.pointer (some ⟨q, 0, none⟩), .slice a x.length c] w (AddOut w B q (pre ++ [l]) x) := by
  obtain ⟨i0, hi, hz0, hz1, hz2⟩ := info_parts info29
  obtain ⟨hc2, hc3, hc4, hfq⟩ := h.cell
  obtain ⟨pg, pcap, ua', ucap', rfl, hpgB, -, hcu, hfu, hu, hou, hul, hum⟩ := h.last
  rw [hua] at hu
  simp only [Value.slice.injEq, true_and] at hu
  obtain ⟨rfl, rfl⟩ := hu
  unfold maxLen at hum
  have hsz1 : pre.length + 1 ≤ 2097152 := by simp at hsz; omega
  have hx0 : 0 < x.length := by omega
  have hsz2 : tot (pre ++ [l]) + x.length ≤ 2097152 := by omega
  have hf2 := hfq 2
  have hf3 := hfq 3
  have hf4 := hfq 4
  have HOWN : Hid (∀ w1, Below w.heap.size w w1 → w1.ownsRow B 29 1 (.slice (some ⟨pg, 0, none⟩) (pre.length + 1) pcap) (pre.length + 1) xs) := hide (fun w1 hb => by simpa using (h.below hb).own)
  have HCELL := hide (fun w1 hb => (h.below (w' := w1) hb).cell)
  have HPC := hide (fun w1 w2 o hb hg => h.push_cells (w1 := w1) (w2 := w2) (o := o) hb hg)
  have HPUSH := hide (fun w1 w2 v' part held' o hb hp hown hg => h.push (w1 := w1) (w2 := w2) (v' := v') (part := part) (held' := held') (o := o) (x := x) hB hb hp hx.byte hown hg)
  have HX := hide hx
  have HBY := hide hx.byte
  clear h hx hsz hfq hou hua
  generalize tot (pre ++ [l]) = tp at *
  rw [List.length_append, List.length_singleton] at HPUSH
  generalize pre.length = n' at *
  have hr1 : decide ((x.length : Int) ≤ (ucap : Int) - (l.length : Int)) = false := decide_eq_false (by omega)
  have hwr : IntKind.i64.wrap ((ucap : Int) - (l.length : Int)) = (ucap : Int) - (l.length : Int) := by rw [IntKind.wrap_i64]; omega
  have hn1 : (n' : Int) < (n' : Int) + 1 := by omega
  go_enter Try.func38, Try.ntmps38
  go_wp2_with fail
  go_quiet (fail)
  go_wp2_with (first | (go_at_call 40; refine (clone_any _ _ _ x (by exact HX.out.drewN _) (by omega)).mono ?_; rintro e w1 ⟨part, rfl, hpart, hb0⟩; have hb1 := below_of_drew hb0; obtain ⟨pa, pc, e1, -, -⟩ := hpart.bs HBY.out; subst e1; clear hb0; obtain ⟨hd2, hd3, hd4, hdf⟩ := HCELL.out w1 hb1; have HP := hide hpart; clear hpart) | (at_builtin; refine wpList_append_own _ rfl (.tmp 80) (.tmp 82) 22 rfl B 29 i0 (.slice none 0 0) 1 24 Try.underlying22 hi hz0 hz1 hz2 rfl (by decide) (.slice (some ⟨pg, 0, none⟩) (n' + 1) pcap) (n' + 1) xs rfl (by exact (HOWN.out w1 hb1).alloc _) ⟨w1.heap.size, 0, none⟩ 1 1 [Value.slice pa x.length pc] rfl rfl (cell_one_new _ _ _) (by simp [Value.oneCell']) (by unfold maxLen; omega) (by omega) (by simp; have := hb1.size; omega) ?_; intro v' w2 hown2 hgrow2 _; obtain ⟨vo, vcap, e2⟩ := own_form hown2; subst e2; obtain ⟨hq2, hq3, hq4, hg2, hg3, hg4⟩ := HPC.out w1 w2 _ hb1 hgrow2; have HO2 := hide hown2; have HG2 := hide hgrow2; clear hown2 hgrow2))
  go_end0
  obtain ⟨f1, f2⟩ := HPUSH.out w1 w2 _ _ _ _ hb1 (by exact HP.out) HO2.out HG2.out
  exact ⟨rfl, f2, _, _, _, _, f1, .inr ⟨.inr hx0, rfl⟩⟩

end Go.Proofs.Qxb6600602a
