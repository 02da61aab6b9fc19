/-
  The functions that only read: totalLenB1 (17), eqBytesB1 (18), sameListB1 (16), sizeOKB1 (13), the zzBytes tests (12, 19, 22, 28, 29).
-/
import Derived.Test.Qxb6600602aRows
import Derived.Test.Qxb6600602aHeap
import Derived.Deep.QuietTactic
import Derived.BigQuiet
namespace Go.Proofs.Qxb6600602a
open Go.RowKit

set_option maxHeartbeats 400000 in
theorem totalLen_any (w : World) (a : Option Addr) (c : Nat) (ll : List (List Int)) (h : BSS w a c ll) (ht : tot ll ≤ 1099511627776) :
    Calls Try.prog 17 #[.slice a ll.length c] w fun e w' => e = .returned (.int .i64 (tot ll)) ∧ w' = w := by
  have hmax := h.max
  have hle := h.le
  unfold maxLen at hmax
  go_enter Try.func17, Try.ntmps17
  go_wp2
  go_loop [3, 4] (fun n i => ∃ k : Nat, k ≤ ll.length ∧ i = .int .i64 k ∧ n = .int .i64 (tot (ll.take k))) (fun _ i => ll.length - (intOf i).toNat)
  case atStart => exact ⟨0, Nat.zero_le _, rfl, rfl⟩
  case round =>
    obtain ⟨k, hk, rfl, rfl⟩ := hrel
    by_cases hlt : k < ll.length
    · have HS := tot_snoc ll k hlt
      have h1 := tot_take_le ll (k + 1)
      have h2 := len_le_tot ll k
      obtain ⟨b, o, a', c', rfl, hc, hbs⟩ := h.cells k hlt
      generalize ll.getD k [] = x at HS h2 hc hbs
      have HS' : Hid (tot (ll.take (k + 1)) = tot (ll.take k) + x.length) := HS
      have hb1 : tot (ll.take k) + x.length ≤ 1099511627776 := by omega
      clear HS h1 h2 hbs h
      go_wp2
      go_round
      case rel => exact ⟨k + 1, by omega, by go_num, by rw [HS'.out]; go_num⟩
      case measure => simp [intOf]; omega
    · go_wp2
      go_ret
      rw [List.take_of_length_le (by omega)]
      exact ⟨rfl, rfl⟩

theorem drewN_two (w : World) (n m : Nat) : ∃ k, (w.drewN n).drewN m = w.drewN k := ⟨_, World.drewN_drewN _ _ _⟩
theorem drewN_more {w wr : World} (h : ∃ n, wr = w.drewN n) (m : Nat) : ∃ k, wr.drewN m = w.drewN k := by
  obtain ⟨n, rfl⟩ := h
  exact drewN_two w n m
theorem ret_bool {a b : Bool} (h : a = b) : Ending.returned (.bool a) = .returned (.bool b) := by rw [h]

theorem take_getD_eq {α : Type} [Inhabited α] {l l' : List α} {k : Nat} {d : α} (hl : l.length = l'.length) (hk : k < l.length) (h : l.take k = l'.take k) (he : l.getD k d = l'.getD k d) : l.take (k + 1) = l'.take (k + 1) := by
  have hk' : k < l'.length := by omega
  rw [List.take_succ_eq_append_getElem hk, List.take_succ_eq_append_getElem hk', h]
  simp [List.getD, List.getElem?_eq_getElem hk, List.getElem?_eq_getElem hk'] at he
  rw [he]

theorem ne_of_getD {α : Type} {l l' : List α} {k : Nat} {d : α} (he : ¬ l.getD k d = l'.getD k d) : ¬ l = l' := fun h => he (by rw [h])

set_option maxHeartbeats 400000 in
theorem eqBytes_any (w : World) (a a' : Option Addr) (c c' : Nat) (l l' : List Int) (h : BS w a c l) (h' : BS w a' c' l') :
    Calls Try.prog 18 #[.slice a l.length c, .slice a' l'.length c'] w fun e w' => e = .returned (.bool (decide (l = l'))) ∧ ∃ n, w' = w.drewN n := by
  have hmax := h.max
  have hle := h.le
  unfold maxLen at hmax
  by_cases hll : l.length = l'.length
  · rw [← hll]
    have hl2 : Hid (l.length = l'.length) := hll
    have hn : ∀ k, k < l.length → k < l'.length := fun k hk => by omega
    clear hll
    go_enter Try.func18, Try.ntmps18
    go_wp2
    go_loopw [5] (fun i wr => ∃ k n : Nat, k ≤ l.length ∧ i = .int .i64 k ∧ wr = w.drewN n ∧ l.take k = l'.take k) (fun i _ => l.length - (intOf i).toNat)
    case atStart => exact ⟨0, 0, Nat.zero_le _, rfl, rfl, rfl⟩
    case round =>
      obtain ⟨k, n, hk, rfl, rfl, ht⟩ := hrel
      have HT : Hid (l.take k = l'.take k) := ht
      clear ht
      by_cases hlt : k < l.length
      · obtain ⟨b, o, rfl, hc⟩ := h.cells k hlt
        obtain ⟨b', o', rfl, hc'⟩ := h'.cells k (hn k hlt)
        have ht2 := @take_getD_eq Int _ l l' k 0 hl2.out hlt HT.out
        have hne := @ne_of_getD Int l l' k 0
        have hk0 : (0 : Int) ≤ (k : Int) := by omega
        have hk1 : (k : Int) < (l.length : Int) := by omega
        generalize l.getD k 0 = x at hc ht2 hne
        generalize l'.getD k 0 = x' at hc' ht2 hne
        have HT2 : Hid (x = x' → l.take (k + 1) = l'.take (k + 1)) := ht2
        have HNE : Hid (¬ x = x' → ¬ l = l') := hne
        clear ht2 hne h h' hn HT
        go_wp2
        go_quiet (fail)
        go_wp2
        · go_ret
          have hx : ¬ x = x' := by simpa using (show (x != x') = true by assumption)
          exact ⟨ret_bool (by simpa using HNE.out hx), drewN_two _ _ _⟩
        · have hx : x = x' := by simpa using (show (x != x') = false by assumption)
          go_roundw
          case rel => exact ⟨k + 1, _, by omega, by go_num, rfl, HT2.out hx⟩
          case measure => simp [intOf]; omega
      · have hfin : l = l' := by
          have e1 : l.take k = l := List.take_of_length_le (by omega)
          have e2 : l'.take k = l' := List.take_of_length_le (by have := hl2.out; omega)
          rw [← e1, ← e2]; exact HT.out
        have HF : Hid (l = l') := hfin
        clear hfin
        go_wp2
        go_ret
        exact ⟨ret_bool (by simpa using HF.out), _, rfl⟩
  · have hll' : ((l.length : Int) != (l'.length : Int)) = true := by rw [bne_iff_ne]; omega
    have HF : Hid (¬ l = l') := fun h => hll (by rw [h])
    clear hll
    go_enter Try.func18, Try.ntmps18
    go_wp2
    go_ret
    exact ⟨ret_bool (by simpa using HF.out), 0, rfl⟩

set_option maxHeartbeats 400000 in
theorem sameList_any (w : World) (a a' : Option Addr) (c c' : Nat) (l l' : List (List Int)) (h : BSS w a c l) (h' : BSS w a' c' l') :
    Calls Try.prog 16 #[.slice a l.length c, .slice a' l'.length c'] w fun e w' => e = .returned (.bool (decide (l = l'))) ∧ ∃ n, w' = w.drewN n := by
  have hmax := h.max
  have hle := h.le
  unfold maxLen at hmax
  by_cases hll : l.length = l'.length
  · rw [← hll]
    have hl2 : Hid (l.length = l'.length) := hll
    have hn : ∀ k, k < l.length → k < l'.length := fun k hk => by omega
    clear hll
    go_enter Try.func16, Try.ntmps16
    go_wp2
    go_loopw [5] (fun i wr => ∃ k : Nat, k ≤ l.length ∧ i = .int .i64 k ∧ (∃ n, wr = w.drewN n) ∧ l.take k = l'.take k) (fun i _ => l.length - (intOf i).toNat)
    case atStart => exact ⟨0, Nat.zero_le _, rfl, ⟨0, rfl⟩, rfl⟩
    case round =>
      obtain ⟨k, hk, rfl, hw, ht⟩ := hrel
      have HT : Hid (l.take k = l'.take k) := ht
      have HW : Hid (∃ n, wr = w.drewN n) := hw
      clear ht hw
      by_cases hlt : k < l.length
      · have hr : BSS wr a c l := by obtain ⟨n, e⟩ := HW.out; rw [e]; exact h.drewN n
        have hr' : BSS wr a' c' l' := by obtain ⟨n, e⟩ := HW.out; rw [e]; exact h'.drewN n
        obtain ⟨b, o, a1, c1, rfl, hc, hb1⟩ := hr.cells k hlt
        obtain ⟨b', o', a1', c1', rfl, hc', hb1'⟩ := hr'.cells k (hn k hlt)
        have ht2 := @take_getD_eq (List Int) _ l l' k [] hl2.out hlt HT.out
        have hne := @ne_of_getD (List Int) l l' k []
        have hk0 : (0 : Int) ≤ (k : Int) := by omega
        have hk1 : (k : Int) < (l.length : Int) := by omega
        generalize l.getD k [] = x at hc ht2 hne hb1
        generalize l'.getD k [] = x' at hc' ht2 hne hb1'
        have HT2 : Hid (x = x' → l.take (k + 1) = l'.take (k + 1)) := ht2
        have HNE : Hid (¬ x = x' → ¬ l = l') := hne
        clear ht2 hne h h' hn HT hr hr'
        go_wp2
        go_quiet ((go_at_call 18; exact Calls.quiet_of (eqBytes_any _ _ _ _ _ x x' (hb1.drewN _) (hb1'.drewN _))))
        go_wp2
        · go_ret
          have hx : ¬ x = x' := by simpa using (show (!decide (x = x')) = true by assumption)
          exact ⟨ret_bool (by simpa using HNE.out hx), drewN_more HW.out _⟩
        · have hx : x = x' := by simpa using (show (!decide (x = x')) = false by assumption)
          go_roundw
          case rel => exact ⟨k + 1, by omega, by go_num, drewN_more HW.out _, HT2.out hx⟩
          case measure => simp [intOf]; omega
      · have hfin : l = l' := by
          have e1 : l.take k = l := List.take_of_length_le (by omega)
          have e2 : l'.take k = l' := List.take_of_length_le (by have := hl2.out; omega)
          rw [← e1, ← e2]; exact HT.out
        have HF : Hid (l = l') := hfin
        clear hfin
        go_wp2
        go_ret
        exact ⟨ret_bool (by simpa using HF.out), HW.out⟩
  · have hll' : ((l.length : Int) != (l'.length : Int)) = true := by rw [bne_iff_ne]; omega
    have HF : Hid (¬ l = l') := fun h => hll (by rw [h])
    clear hll
    go_enter Try.func16, Try.ntmps16
    go_wp2
    go_ret
    exact ⟨ret_bool (by simpa using HF.out), 0, rfl⟩

/-- A test on sizes: it answers some bool, turns nothing, and where it says yes the lengths add up to at most 2^20. -/
def SizedPost (w : World) (ll : List (List Int)) (e : Ending) (w' : World) : Prop :=
  ∃ b, e = .returned (.bool b) ∧ w' = w ∧ (b = true → ll.length + tot ll ≤ 1048576)

set_option maxHeartbeats 400000 in
theorem zzBytes12_any (w : World) (a : Option Addr) (c : Nat) (ll : List (List Int)) (n : Int) (h : BSS w a c ll) :
    Calls Try.prog 12 #[.slice a ll.length c, .int .i64 n] w (SizedPost w ll) := by
  have hmax := h.max
  have hle := h.le
  unfold maxLen at hmax
  by_cases hs : ll.length ≤ 1048576
  · go_enter Try.func12, Try.ntmps12
    go_wp2
    go_loop [4, 5, 6] (fun _ z i => ∃ k : Nat, k ≤ ll.length ∧ i = .int .i64 k ∧ z = .int .i64 ((ll.length + tot (ll.take k) : Nat) : Int) ∧ ll.length + tot (ll.take k) ≤ 1048576) (fun _ _ i => ll.length - (intOf i).toNat)
    case atStart => exact ⟨0, Nat.zero_le _, rfl, by simp [tot], by simpa [tot] using hs⟩
    case round =>
      obtain ⟨k, hk, rfl, rfl, hz⟩ := hrel
      by_cases hlt : k < ll.length
      · have HS := tot_snoc ll k hlt
        obtain ⟨b, o, a', c', rfl, hc, hbs⟩ := h.cells k hlt
        generalize ll.getD k [] = x at HS hc hbs
        have hxl := hbs.le
        have hxm := hbs.max
        unfold maxLen at hxm
        have HS' : Hid (tot (ll.take (k + 1)) = tot (ll.take k) + x.length) := HS
        clear HS hbs h
        generalize tot (ll.take k) = t at HS' hz ⊢
        go_wp2
        · go_ret
          exact ⟨false, rfl, rfl, by simp⟩
        · go_ret
          exact ⟨false, rfl, rfl, by simp⟩
        · go_round
          case rel => exact ⟨k + 1, by omega, by go_num, by rw [HS'.out]; go_num, by rw [HS'.out]; omega⟩
          case measure => simp [intOf]; omega
      · go_wp2
        go_ret
        exact ⟨true, rfl, rfl, fun _ => by rw [List.take_of_length_le (by omega)] at hz; exact hz⟩
  · go_enter Try.func12, Try.ntmps12
    go_wp2
    go_ret
    exact ⟨false, rfl, rfl, by simp⟩

set_option maxHeartbeats 400000 in
theorem zzBytes19_any (w : World) (a : Option Addr) (c : Nat) (ll : List (List Int)) (n : Int) (h : BSS w a c ll) :
    Calls Try.prog 19 #[.slice a ll.length c, .int .i64 n] w (SizedPost w ll) := by
  have hmax := h.max
  have hle := h.le
  unfold maxLen at hmax
  by_cases hs : ll.length ≤ 1048576
  · go_enter Try.func19, Try.ntmps19
    go_wp2
    go_loop [4, 5, 6] (fun _ z i => ∃ k : Nat, k ≤ ll.length ∧ i = .int .i64 k ∧ z = .int .i64 ((ll.length + tot (ll.take k) : Nat) : Int) ∧ ll.length + tot (ll.take k) ≤ 1048576) (fun _ _ i => ll.length - (intOf i).toNat)
    case atStart => exact ⟨0, Nat.zero_le _, rfl, by simp [tot], by simpa [tot] using hs⟩
    case round =>
      obtain ⟨k, hk, rfl, rfl, hz⟩ := hrel
      by_cases hlt : k < ll.length
      · have HS := tot_snoc ll k hlt
        obtain ⟨b, o, a', c', rfl, hc, hbs⟩ := h.cells k hlt
        generalize ll.getD k [] = x at HS hc hbs
        have hxl := hbs.le
        have hxm := hbs.max
        unfold maxLen at hxm
        have HS' : Hid (tot (ll.take (k + 1)) = tot (ll.take k) + x.length) := HS
        clear HS hbs h
        generalize tot (ll.take k) = t at HS' hz ⊢
        go_wp2
        · go_ret
          exact ⟨false, rfl, rfl, by simp⟩
        · go_ret
          exact ⟨false, rfl, rfl, by simp⟩
        · go_round
          case rel => exact ⟨k + 1, by omega, by go_num, by rw [HS'.out]; go_num, by rw [HS'.out]; omega⟩
          case measure => simp [intOf]; omega
      · go_wp2
        go_ret
        exact ⟨true, rfl, rfl, fun _ => by rw [List.take_of_length_le (by omega)] at hz; exact hz⟩
  · go_enter Try.func19, Try.ntmps19
    go_wp2
    go_ret
    exact ⟨false, rfl, rfl, by simp⟩

set_option maxHeartbeats 400000 in
theorem zzBytes22_any (w : World) (a : Option Addr) (c : Nat) (ll : List (List Int)) (h : BSS w a c ll) :
    Calls Try.prog 22 #[.slice a ll.length c] w (SizedPost w ll) := by
  have hmax := h.max
  have hle := h.le
  unfold maxLen at hmax
  by_cases hs : ll.length ≤ 1048576
  · go_enter Try.func22, Try.ntmps22
    go_wp2
    go_loop [2, 3, 4] (fun _ z i => ∃ k : Nat, k ≤ ll.length ∧ i = .int .i64 k ∧ z = .int .i64 ((ll.length + tot (ll.take k) : Nat) : Int) ∧ ll.length + tot (ll.take k) ≤ 1048576) (fun _ _ i => ll.length - (intOf i).toNat)
    case atStart => exact ⟨0, Nat.zero_le _, rfl, by simp [tot], by simpa [tot] using hs⟩
    case round =>
      obtain ⟨k, hk, rfl, rfl, hz⟩ := hrel
      by_cases hlt : k < ll.length
      · have HS := tot_snoc ll k hlt
        obtain ⟨b, o, a', c', rfl, hc, hbs⟩ := h.cells k hlt
        generalize ll.getD k [] = x at HS hc hbs
        have hxl := hbs.le
        have hxm := hbs.max
        unfold maxLen at hxm
        have HS' : Hid (tot (ll.take (k + 1)) = tot (ll.take k) + x.length) := HS
        clear HS hbs h
        generalize tot (ll.take k) = t at HS' hz ⊢
        go_wp2
        · go_ret
          exact ⟨false, rfl, rfl, by simp⟩
        · go_ret
          exact ⟨false, rfl, rfl, by simp⟩
        · go_round
          case rel => exact ⟨k + 1, by omega, by go_num, by rw [HS'.out]; go_num, by rw [HS'.out]; omega⟩
          case measure => simp [intOf]; omega
      · go_wp2
        go_ret
        exact ⟨true, rfl, rfl, fun _ => by rw [List.take_of_length_le (by omega)] at hz; exact hz⟩
  · go_enter Try.func22, Try.ntmps22
    go_wp2
    go_ret
    exact ⟨false, rfl, rfl, by simp⟩

set_option maxHeartbeats 400000 in
theorem zzBytes28_any (w : World) (a : Option Addr) (c : Nat) (ll : List (List Int)) (h : BSS w a c ll) :
    Calls Try.prog 28 #[.slice a ll.length c] w (SizedPost w ll) := by
  have hmax := h.max
  have hle := h.le
  unfold maxLen at hmax
  by_cases hs : ll.length ≤ 1048576
  · go_enter Try.func28, Try.ntmps28
    go_wp2
    go_loop [2, 3, 4] (fun _ z i => ∃ k : Nat, k ≤ ll.length ∧ i = .int .i64 k ∧ z = .int .i64 ((ll.length + tot (ll.take k) : Nat) : Int) ∧ ll.length + tot (ll.take k) ≤ 1048576) (fun _ _ i => ll.length - (intOf i).toNat)
    case atStart => exact ⟨0, Nat.zero_le _, rfl, by simp [tot], by simpa [tot] using hs⟩
    case round =>
      obtain ⟨k, hk, rfl, rfl, hz⟩ := hrel
      by_cases hlt : k < ll.length
      · have HS := tot_snoc ll k hlt
        obtain ⟨b, o, a', c', rfl, hc, hbs⟩ := h.cells k hlt
        generalize ll.getD k [] = x at HS hc hbs
        have hxl := hbs.le
        have hxm := hbs.max
        unfold maxLen at hxm
        have HS' : Hid (tot (ll.take (k + 1)) = tot (ll.take k) + x.length) := HS
        clear HS hbs h
        generalize tot (ll.take k) = t at HS' hz ⊢
        go_wp2
        · go_ret
          exact ⟨false, rfl, rfl, by simp⟩
        · go_ret
          exact ⟨false, rfl, rfl, by simp⟩
        · go_round
          case rel => exact ⟨k + 1, by omega, by go_num, by rw [HS'.out]; go_num, by rw [HS'.out]; omega⟩
          case measure => simp [intOf]; omega
      · go_wp2
        go_ret
        exact ⟨true, rfl, rfl, fun _ => by rw [List.take_of_length_le (by omega)] at hz; exact hz⟩
  · go_enter Try.func28, Try.ntmps28
    go_wp2
    go_ret
    exact ⟨false, rfl, rfl, by simp⟩

set_option maxHeartbeats 400000 in
theorem zzBytes29_any (w : World) (a : Option Addr) (c : Nat) (ll : List (List Int)) (h : BSS w a c ll) :
    Calls Try.prog 29 #[.slice a ll.length c] w (SizedPost w ll) := by
  have hmax := h.max
  have hle := h.le
  unfold maxLen at hmax
  by_cases hs : ll.length ≤ 1048576
  · go_enter Try.func29, Try.ntmps29
    go_wp2
    go_loop [2, 3, 4] (fun _ z i => ∃ k : Nat, k ≤ ll.length ∧ i = .int .i64 k ∧ z = .int .i64 ((ll.length + tot (ll.take k) : Nat) : Int) ∧ ll.length + tot (ll.take k) ≤ 1048576) (fun _ _ i => ll.length - (intOf i).toNat)
    case atStart => exact ⟨0, Nat.zero_le _, rfl, by simp [tot], by simpa [tot] using hs⟩
    case round =>
      obtain ⟨k, hk, rfl, rfl, hz⟩ := hrel
      by_cases hlt : k < ll.length
      · have HS := tot_snoc ll k hlt
        obtain ⟨b, o, a', c', rfl, hc, hbs⟩ := h.cells k hlt
        generalize ll.getD k [] = x at HS hc hbs
        have hxl := hbs.le
        have hxm := hbs.max
        unfold maxLen at hxm
        have HS' : Hid (tot (ll.take (k + 1)) = tot (ll.take k) + x.length) := HS
        clear HS hbs h
        generalize tot (ll.take k) = t at HS' hz ⊢
        go_wp2
        · go_ret
          exact ⟨false, rfl, rfl, by simp⟩
        · go_ret
          exact ⟨false, rfl, rfl, by simp⟩
        · go_round
          case rel => exact ⟨k + 1, by omega, by go_num, by rw [HS'.out]; go_num, by rw [HS'.out]; omega⟩
          case measure => simp [intOf]; omega
      · go_wp2
        go_ret
        exact ⟨true, rfl, rfl, fun _ => by rw [List.take_of_length_le (by omega)] at hz; exact hz⟩
  · go_enter Try.func29, Try.ntmps29
    go_wp2
    go_ret
    exact ⟨false, rfl, rfl, by simp⟩

set_option maxHeartbeats 400000 in
theorem sizeOK_any (w : World) (a : Option Addr) (c : Nat) (ll : List (List Int)) (h : BSS w a c ll) (hb : ll.length + tot ll ≤ 1048576) :
    Calls Try.prog 13 #[.slice a ll.length c] w (SizedPost w ll) := by
  have hmax := h.max
  have hle := h.le
  unfold maxLen at hmax
  by_cases hs : ll.length ≤ 43690
  · go_enter Try.func13, Try.ntmps13
    go_wp2
    go_loop [2, 3, 4] (fun _ z i => ∃ k : Nat, k ≤ ll.length ∧ i = .int .i64 k ∧ z = .int .i64 (24 * (ll.length : Int) + ((tot (ll.take k) : Nat) : Int))) (fun _ _ i => ll.length - (intOf i).toNat)
    case atStart => exact ⟨0, Nat.zero_le _, rfl, by simp [tot]⟩
    case round =>
      obtain ⟨k, hk, rfl, rfl⟩ := hrel
      by_cases hlt : k < ll.length
      · have HS := tot_snoc ll k hlt
        have h1 := tot_take_le ll (k + 1)
        obtain ⟨b, o, a', c', rfl, hc, hbs⟩ := h.cells k hlt
        generalize ll.getD k [] = x at HS hc hbs
        have HS' : Hid (tot (ll.take (k + 1)) = tot (ll.take k) + x.length) := HS
        have hx1 : tot (ll.take k) + x.length ≤ 1048576 := by omega
        clear HS hbs h h1
        generalize tot (ll.take k) = t at HS' hx1 ⊢
        go_wp2
        · go_ret
          exact ⟨false, rfl, rfl, by simp⟩
        · go_round
          case rel => exact ⟨k + 1, by omega, by go_num, by rw [HS'.out]; go_num⟩
          case measure => simp [intOf]; omega
      · go_wp2
        go_ret
        exact ⟨true, rfl, rfl, fun _ => hb⟩
  · go_enter Try.func13, Try.ntmps13
    go_wp2
    go_ret
    exact ⟨false, rfl, rfl, by simp⟩

end Go.Proofs.Qxb6600602a
