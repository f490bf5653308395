import Derived.Test.Qxb6621615aParts
import Derived.Laws.CopyOwn
import Derived.Deep.DeepCutAuto
namespace Go.Proofs.Qxb6621615a
open Go.ChangeShapes Go.WideShapes Go.ChangeAt Go.RowKit

theorem info9 : (Try.prog.info? 9).map (fun i => (i.zero, i.size, i.bytes)) = some (some (.string ByteArray.empty), 1, 16) := by kernel_rfl

/-- What 'make' laid: the whole row. -/
theorem made_row {w1 : World} {base g n : Nat} {xs : List Value} (h : w1.ownsRow base 9 1 (.slice (some ⟨g, 0, none⟩) n n) n xs) : w1.heap[g]? = some (.cells xs.toArray 9 (0, 0)) ∧ xs.length = n ∧ base ≤ g := by
  obtain ⟨hl, h2⟩ := h
  rcases h2 with ⟨h2, _⟩ | ⟨g', cap, cur, hv, hg, hh, _, _, hs, ht⟩
  · simp at h2
  · simp at hv
    obtain ⟨rfl, rfl⟩ := hv
    simp at hs ht hl
    have e : cur.toList = xs := by rw [← ht, List.take_of_length_le (by simp [hs])]
    refine ⟨?_, hl, hg⟩
    rw [hh, ← e]

theorem copy_src {w1 w2 : World} {a : Addr} {len : Nat} {ss : List ByteArray} (h : Shows w1 (some a) len ss) (hg : w1.grownBy w2 none) :
    ∀ (j : Nat) (v : Value), (ss.map Value.string)[j]? = some v → w2.cell? (a.add j) = some v := by
  intro j v hv
  have hj : j < ss.length := by
    have := (List.getElem?_eq_some_iff.1 hv).1
    simpa using this
  obtain ⟨a', e, hc⟩ := h.cells j (by rw [← h.num]; exact hj)
  simp only [Option.some.injEq] at e
  subst e
  have hvv : v = .string (ss.getD j ByteArray.empty) := by
    simp [hj] at hv
    simp [List.getD, hj, ← hv]
  rw [hvv]
  exact hg.cell hc (by simp)

theorem strs_one (ss : List ByteArray) : ∀ v ∈ ss.map Value.string, v.oneCell' = true := by
  intro v hv
  obtain ⟨s, _, rfl⟩ := List.mem_map.1 hv
  rfl

theorem copied {w w3 : World} {g len : Nat} {ao : Option Addr} {ss : List ByteArray} {cur : List Value} (hh : Hid (w3.heap[g]? = some (.cells (splice cur 0 (ss.map Value.string)).toArray 9 (0, 0)))) (h : Shows w ao len ss) :
    Shows w3 (some ⟨g, 0, none⟩) len ss := by
  have h2 := hh.out
  have e : splice cur 0 (ss.map Value.string) = ss.map Value.string ++ cur.drop (0 + (ss.map Value.string).length) := by simp [splice]
  rw [e] at h2
  have := shows_of_block h2 (by rw [h.num]; exact h.top) h.small
  rw [h.num] at this
  exact this

/-- Strings as values: a name that the walk leaves standing. -/
def vs (ss : List ByteArray) : List Value := ss.map Value.string

theorem vs_nil : vs [] = [] := rfl
theorem vs_snoc (ss : List ByteArray) (s : ByteArray) : vs ss ++ [.string s] = vs (ss ++ [s]) := by simp [vs]
theorem take_snoc (ss : List ByteArray) (k : Nat) (h : k < ss.length) : ss.take (k + 1) = ss.take k ++ [ss.getD k ByteArray.empty] := by
  rw [List.take_succ_eq_append_getElem h]; simp [List.getD, h]

/-- 'Own wC wr g n cap ss': the slice at the head of block g owns the strings ss in wr; wr is, below wC's size, as wC. -/
structure Own (wC wr : World) (g n cap : Nat) (ss : List ByteArray) : Prop where
  row : wr.ownsRow wC.heap.size 9 1 (.slice (some ⟨g, 0, none⟩) n cap) n (vs ss)
  below : Below wC.heap.size wC wr
  high : wC.heap.size ≤ g

theorem Own.push {wC wr w3 : World} {g n cap : Nat} {ss : List ByteArray} {s : ByteArray} {o : Obj} (h : Own wC wr g n cap ss)
    (h3 : w3.ownsRow wC.heap.size 9 1 (.slice (some ⟨g, 0, none⟩) (n + 1) cap) (n + 1) (vs ss ++ [.string s])) (hg : (wr.alloc o).grownBy w3 (some g)) : Own wC w3 g (n + 1) cap (ss ++ [s]) := by
  refine ⟨by rw [vs_snoc] at h3; exact h3, ?_, h.high⟩
  refine (h.below.alloc h.below.size o).grown hg ?_ ?_
  · have := h.below.size; simp; omega
  · intro k hk; simp at hk; subst hk; exact h.high

theorem Own.shows {wC wr : World} {g n cap : Nat} {ss : List ByteArray} (h : Own wC wr g n cap ss) (ht : n ≤ maxLen) (hs : ∀ i, (ss.getD i ByteArray.empty).size ≤ maxLen) : Shows wr (some ⟨g, 0, none⟩) n ss := by
  have hn : ss.length = n := by have := h.row.1; simpa [vs] using this
  refine ⟨hn, ht, fun i hi => ⟨_, rfl, ?_⟩, hs⟩
  have := h.row.cells (g := g) rfl i (.string (ss.getD i ByteArray.empty))
  exact this (by simp [vs, List.getD, hn, hi])

theorem small_append {s1 s2 : List ByteArray} (h1 : ∀ i, (s1.getD i ByteArray.empty).size ≤ maxLen) (h2 : ∀ i, (s2.getD i ByteArray.empty).size ≤ maxLen) : ∀ i, ((s1 ++ s2).getD i ByteArray.empty).size ≤ maxLen := by
  intro i
  by_cases hi : i < s1.length
  · have := h1 i
    simpa [List.getD, List.getElem?_append_left hi] using this
  · have := h2 (i - s1.length)
    simpa [List.getD, List.getElem?_append_right (Nat.le_of_not_lt hi)] using this

theorem blank_append (s1 s2 : List ByteArray) : blank (s1 ++ s2) = (blank s1 || blank s2) := by simp [blank]

theorem short_append (b : Int) (s1 s2 : List ByteArray) : short (short b s1) s2 = short b (s1 ++ s2) := by simp [short]

/-- From a best that is at least 0 on: the least is 0 just where the best is 0 or a string is blank; it stays at least 0. -/
theorem short_zero (ss : List ByteArray) : ∀ b : Int, 0 ≤ b → 0 ≤ short b ss ∧ (short b ss = 0 ↔ b = 0 ∨ blank ss = true) := by
  induction ss with
  | nil => intro b hb; simp [short, blank, hb]
  | cons s ss ih =>
    intro b hb
    have e : short b (s :: ss) = short (if b < 0 ∨ (s.size : Int) < b then s.size else b) ss := rfl
    have eb : (blank (s :: ss) = true) ↔ s.size = 0 ∨ blank ss = true := by simp [blank]
    rw [e, eb]
    by_cases h : b < 0 ∨ (s.size : Int) < b
    · rw [if_pos h]
      obtain ⟨i1, i2⟩ := ih (s.size : Int) (by omega)
      refine ⟨i1, i2.trans ?_⟩
      constructor
      · rintro (h | h)
        · exact .inr (.inl (by omega))
        · exact .inr (.inr h)
      · rintro (h | h | h)
        · omega
        · exact .inl (by omega)
        · exact .inr h
    · rw [if_neg h]
      obtain ⟨i1, i2⟩ := ih b hb
      refine ⟨i1, i2.trans ?_⟩
      constructor
      · rintro (h | h)
        · exact .inl h
        · exact .inr (.inr h)
      · rintro (h | h | h)
        · exact .inl h
        · exact .inl (by omega)
        · exact .inr h

theorem short_from (ss : List ByteArray) : (short (-1) ss == 0) = blank ss := by
  cases ss with
  | nil => simp [short, blank]
  | cons s ss =>
    have e : short (-1) (s :: ss) = short (s.size : Int) ss := by simp [short]
    have eb : (blank (s :: ss) = true) ↔ s.size = 0 ∨ blank ss = true := by simp [blank]
    have := (short_zero ss (s.size : Int) (by omega)).2
    rw [e, Bool.eq_iff_iff, eb, beq_iff_eq, this]
    constructor
    · rintro (h | h)
      · exact .inl (by omega)
      · exact .inr h
    · rintro (h | h)
      · exact .inl (by omega)
      · exact .inr h

theorem short_blank (s1 s2 : List ByteArray) : (short (short (-1) s1) s2 == 0) = (blank s1 || blank s2) := by
  rw [short_append, short_from, blank_append]

set_option maxRecDepth 100000 in
set_option maxHeartbeats 2000000 in
theorem join_walk (a0 a1 a2 : Option Addr) (l0 l1 l2 c0 c1 c2 : Nat) (s0 s1 s2 : List ByteArray) (w : World) (h0 : Shows w a0 l0 s0) (h1 : Shows w a1 l1 s1) (h2 : Shows w a2 l2 s2) :
    Calls Try.prog 3 #[.slice a0 l0 c0, .slice a1 l1 c1, .slice a2 l2 c2] w fun e w' => e = .returned (.bool true) ∧ Below w.heap.size w w' := by
  have qn : ∀ (w : World) (a : Option Addr) (n c n' c' : Nat), (binOp .neq 22 (.slice a n c) (.slice none n' c')).run Try.prog w = .ok (.bool (!a.isNone)) w := fun w a n c n' c' => run_neq_slice_nil_any w _ _ a n c n' c' Try.underlying22
  obtain ⟨i0, hi, hz0, hz1, hz2⟩ := info_parts info9
  go_enter Try.func3, Try.ntmps3
  go_wp2_with fail
  refine (bytes3_any a0 a1 a2 l0 l1 l2 c0 c1 c2 s0 s1 s2 w h0 h1 h2).mono ?_
  rintro e w1 ⟨r, rfl, hr, rfl⟩
  cases r
  · go_wp2
    go_ret
    exact ⟨rfl, Below.refl _ _⟩
  · obtain ⟨hl0, hl1, hl2⟩ := hr rfl
    clear hr
    go_upto_if 26 with fail
    go_cut [0] (fun v wx => ∃ ao cap, v = .slice ao l0 cap ∧ Shows wx ao l0 s0 ∧ Below w1.heap.size w1 wx)
    case first =>
      cases a0 with
      | none =>
        go_wp2
        go_meet
        case rel => exact ⟨none, c0, rfl, h0, Below.refl _ _⟩
      | some a =>
        have hcs : (s0.map Value.string).length = l0 := by simp [h0.num]
        go_wp2_with (first | (at_make; refine wpList_make_full _ rfl (.tmp 28) (.tmp 28) 22 rfl w1.heap.size 9 i0 (.string ByteArray.empty) 1 Try.underlying22 hi hz0 hz1 .i64 .i64 _ _ l0 rfl rfl rfl rfl (by rw [hz2]; omega) (by unfold maxLen; omega) (Nat.le_refl _) ?_; intro w2 ho hg) | (refine wpList_copy_splice rfl (.tmp 30) (.tmp 31) 22 22 rfl 9 Try.underlying22 (by rw [hi]; simp [hz1]) _ _ _ _ _ _ rfl rfl w1.heap.size 0 _ 9 (made_row ho).1 (s0.map Value.string) (by simp [hcs]) (fun _ => ⟨rfl, a, rfl, copy_src h0 hg⟩) (by rw [(made_row ho).2.1, hcs]; omega) (strs_one s0) w1.heap.size w1 ((Below.refl _ _).grown hg (Nat.le_refl _) (by simp)) (Nat.le_refl _) ?_; intro w3 hh hb))
        go_meet
        case rel => exact ⟨_, l0, rfl, copied hh h0, hb⟩
    case rest =>
    obtain ⟨x0, k0, rfl, g0, b1⟩ := hcut
    obtain ⟨wA, hwA⟩ : ∃ x, x = wc := ⟨_, rfl⟩
    subst hwA
    have g1 := h1.later b1
    have g2 := h2.later b1
    clear h0 h1 h2
    go_upto_if 35 with fail
    go_cut [1] (fun v wx => ∃ ao cap, v = .slice ao l1 cap ∧ Shows wx ao l1 s1 ∧ Below wA.heap.size wA wx)
    case first =>
      cases a1 with
      | none =>
        go_wp2
        go_meet
        case rel => exact ⟨none, c1, rfl, g1, Below.refl _ _⟩
      | some a =>
        have hcs : (s1.map Value.string).length = l1 := by simp [g1.num]
        go_wp2_with (first | (at_make; refine wpList_make_full _ rfl (.tmp 37) (.tmp 37) 22 rfl wA.heap.size 9 i0 (.string ByteArray.empty) 1 Try.underlying22 hi hz0 hz1 .i64 .i64 _ _ l1 rfl rfl rfl rfl (by rw [hz2]; omega) (by unfold maxLen; omega) (Nat.le_refl _) ?_; intro w2 ho hg) | (refine wpList_copy_splice rfl (.tmp 39) (.tmp 40) 22 22 rfl 9 Try.underlying22 (by rw [hi]; simp [hz1]) _ _ _ _ _ _ rfl rfl wA.heap.size 0 _ 9 (made_row ho).1 (s1.map Value.string) (by simp [hcs]) (fun _ => ⟨rfl, a, rfl, copy_src g1 hg⟩) (by rw [(made_row ho).2.1, hcs]; omega) (strs_one s1) wA.heap.size wA ((Below.refl _ _).grown hg (Nat.le_refl _) (by simp)) (Nat.le_refl _) ?_; intro w3 hh hb))
        go_meet
        case rel => exact ⟨_, l1, rfl, copied hh g1, hb⟩
    case rest =>
    obtain ⟨x1, k1, rfl, f1, b2⟩ := hcut
    obtain ⟨wB, hwB⟩ : ∃ x, x = wc := ⟨_, rfl⟩
    subst hwB
    have f0 := g0.later b2
    have f2 := g2.later b2
    have c12 : Below w1.heap.size w1 wB := b1.trans (b2.mono b1.size)
    clear g0 g1 g2 b1 b2
    go_upto_if 44 with fail
    go_cut [2] (fun v wx => ∃ ao cap, v = .slice ao l2 cap ∧ Shows wx ao l2 s2 ∧ Below wB.heap.size wB wx)
    case first =>
      cases a2 with
      | none =>
        go_wp2
        go_meet
        case rel => exact ⟨none, c2, rfl, f2, Below.refl _ _⟩
      | some a =>
        have hcs : (s2.map Value.string).length = l2 := by simp [f2.num]
        go_wp2_with (first | (at_make; refine wpList_make_full _ rfl (.tmp 46) (.tmp 46) 22 rfl wB.heap.size 9 i0 (.string ByteArray.empty) 1 Try.underlying22 hi hz0 hz1 .i64 .i64 _ _ l2 rfl rfl rfl rfl (by rw [hz2]; omega) (by unfold maxLen; omega) (Nat.le_refl _) ?_; intro w2 ho hg) | (refine wpList_copy_splice rfl (.tmp 48) (.tmp 49) 22 22 rfl 9 Try.underlying22 (by rw [hi]; simp [hz1]) _ _ _ _ _ _ rfl rfl wB.heap.size 0 _ 9 (made_row ho).1 (s2.map Value.string) (by simp [hcs]) (fun _ => ⟨rfl, a, rfl, copy_src f2 hg⟩) (by rw [(made_row ho).2.1, hcs]; omega) (strs_one s2) wB.heap.size wB ((Below.refl _ _).grown hg (Nat.le_refl _) (by simp)) (Nat.le_refl _) ?_; intro w3 hh hb))
        go_meet
        case rel => exact ⟨_, l2, rfl, copied hh f2, hb⟩
    case rest =>
    obtain ⟨x2, k2, rfl, e2, b3⟩ := hcut
    obtain ⟨wC, hwC⟩ : ∃ x, x = wc := ⟨_, rfl⟩
    subst hwC
    have e0 := f0.later b3
    have e1 := f1.later b3
    have c13 : Below w1.heap.size w1 wC := c12.trans (b3.mono c12.size)
    clear f0 f1 f2 b3 c12
    go_wp2_with fail
    refine (add_any 0 x0 l0 k0 s0 wC e0 (by omega) (by omega)).mono ?_
    rintro e wq ⟨n, hn0, hn1, rfl, hw⟩
    obtain rfl := hw.symm
    go_wp2_with fail
    refine (add_any n x1 l1 k1 s1 wC e1 hn0 hn1).mono ?_
    rintro e wq ⟨m, hm0, hm1, rfl, hw⟩
    obtain rfl := hw.symm
    clear hn0 hn1
    go_wp2_with fail
    refine (add_any m x2 l2 k2 s2 wC e2 hm0 hm1).mono ?_
    rintro e wq ⟨q, hq0, hq1, rfl, hw⟩
    obtain rfl := hw.symm
    clear hm0 hm1
    by_cases hbig : 1048576 < q
    · go_wp2
      go_ret
      exact ⟨rfl, c13⟩
    go_wp2_with (at_make; refine wpList_make_own _ rfl (.const (.int .i64 0)) (.tmp 66) 22 rfl wC.heap.size 9 i0 (.string ByteArray.empty) 1 Try.underlying22 hi hz0 hz1 .i64 .i64 _ (l1 + l2) rfl rfl (by omega) (by rw [hz2]; omega) (by unfold maxLen; omega) (Nat.le_refl _) ?_; intro wm hom hgm)
    have O : Own wC wm wC.heap.size 0 (l1 + l2) [] := ⟨by rw [vs_nil]; exact hom, (Below.refl _ _).grown hgm (Nat.le_refl _) (by simp), Nat.le_refl _⟩
    clear hom hgm hq0 hq1 hbig
    go_loopw [11, 70] (fun v i wr => ∃ k : Nat, k ≤ l1 ∧ i = .int .i64 k ∧ v = .slice (some ⟨wC.heap.size, 0, none⟩) k (l1 + l2) ∧ Own wC wr wC.heap.size k (l1 + l2) (s1.take k)) (fun _ i _ => l1 - (intOf i).toNat)
    case atStart => exact ⟨0, Nat.zero_le _, rfl, rfl, by simpa using O⟩
    case round =>
    obtain ⟨k, hk, rfl, rfl, hO⟩ := hrel
    by_cases hlt : k < l1
    · have e1' := e1.later hO.below
      obtain ⟨b, off, hx1, hc⟩ := e1'.at (by omega)
      have hck := hc k hlt
      have HT : Hid (s1.take (k + 1) = s1.take k ++ [s1.getD k ByteArray.empty]) := take_snoc s1 k (by rw [e1.num]; exact hlt)
      have hbw := World.block_lt_of_cell? wr _ hck
      simp only at hbw
      subst hx1
      clear hc e1' e0 e1 e2
      generalize s1.getD k ByteArray.empty = s at hck HT
      go_wp2_with (at_builtin; refine wpList_append_fits _ rfl (.tmp 74) (.tmp 76) 22 rfl wC.heap.size 9 i0 1 Try.underlying22 hi hz1 wC.heap.size k (l1 + l2) (vs (s1.take k)) rfl (hO.row.alloc _) ⟨wr.heap.size, 0, none⟩ 1 1 [.string s] rfl rfl (cell_one_new _ _ _) (fun x hx => by simp at hx; subst hx; rfl) (by omega) ?_; intro w3 ho3 hg3)
      have O3 : Hid (Own wC w3 wC.heap.size (k + 1) (l1 + l2) (s1.take (k + 1))) := by rw [HT.out]; exact hO.push ho3 hg3
      clear ho3 hg3 hO HT
      go_roundw
      case rel => exact ⟨k + 1, by omega, by go_num, rfl, O3.out⟩
      case measure => simp [intOf]; omega
    · obtain rfl : k = l1 := by omega
      have e : s1.take k = s1 := List.take_of_length_le (by rw [e1.num]; omega)
      rw [e] at hO
      clear e hlt hk
      go_wp2
      go_loopw [11, 81] (fun v i wr => ∃ j : Nat, j ≤ l2 ∧ i = .int .i64 j ∧ v = .slice (some ⟨wC.heap.size, 0, none⟩) (k + j) (k + l2) ∧ Own wC wr wC.heap.size (k + j) (k + l2) (s1 ++ s2.take j)) (fun _ i _ => l2 - (intOf i).toNat)
      case atStart => exact ⟨0, Nat.zero_le _, rfl, rfl, by simpa using hO⟩
      case round =>
      clear hO
      obtain ⟨j, hj, rfl, rfl, hO⟩ := hrel
      by_cases hlt : j < l2
      · have e2' := e2.later hO.below
        obtain ⟨b, off, hx2, hc⟩ := e2'.at (by omega)
        have hck := hc j hlt
        have HT : Hid (s1 ++ s2.take (j + 1) = s1 ++ s2.take j ++ [s2.getD j ByteArray.empty]) := by rw [take_snoc s2 j (by rw [e2.num]; exact hlt), List.append_assoc]; exact rfl
        have hbw := World.block_lt_of_cell? wr _ hck
        simp only at hbw
        subst hx2
        clear hc e2' e0 e1 e2
        generalize s2.getD j ByteArray.empty = s at hck HT
        go_wp2_with (at_builtin; refine wpList_append_fits _ rfl (.tmp 85) (.tmp 87) 22 rfl wC.heap.size 9 i0 1 Try.underlying22 hi hz1 wC.heap.size (k + j) (k + l2) (vs (s1 ++ s2.take j)) rfl (hO.row.alloc _) ⟨wr.heap.size, 0, none⟩ 1 1 [.string s] rfl rfl (cell_one_new _ _ _) (fun x hx => by simp at hx; subst hx; rfl) (by omega) ?_; intro w3 ho3 hg3)
        have O3 : Hid (Own wC w3 wC.heap.size (k + j + 1) (k + l2) (s1 ++ s2.take (j + 1))) := by rw [HT.out]; exact hO.push ho3 hg3
        clear ho3 hg3 hO HT
        go_roundw
        case rel => exact ⟨j + 1, by omega, by go_num, rfl, O3.out⟩
        case measure => simp [intOf]; omega
      · obtain rfl : j = l2 := by omega
        have e : s2.take j = s2 := List.take_of_length_le (by rw [e2.num]; omega)
        rw [e] at hO
        clear e hlt hj
        have J : Shows wr (some ⟨wC.heap.size, 0, none⟩) (k + j) (s1 ++ s2) := hO.shows (by unfold maxLen; omega) (small_append e1.small e2.small)
        have d1 := e1.later hO.below
        have d2 := e2.later hO.below
        have c14 : Below w1.heap.size w1 wr := c13.trans (hO.below.mono c13.size)
        clear hO e0 e1 e2 c13
        go_wp2_with fail
        refine (zcheck_any x0 l0 k0 x1 k k1 s1 wr d1).mono ?_
        rintro e w5 ⟨v5, rfl, hv5, hk5, b5⟩
        have d1' := d1.later b5
        have d2' := d2.later b5
        have J' := J.later b5
        have c15 : Below w1.heap.size w1 w5 := c14.trans (b5.mono c14.size)
        clear d1 d2 J c14 b5
        go_wp2_with fail
        refine (zcheck_any x0 l0 k0 x2 j k2 s2 w5 d2').mono ?_
        rintro e w6 ⟨v6, rfl, hv6, hk6, b6⟩
        have d1 := d1'.later b6
        have d2 := d2'.later b6
        have J := J'.later b6
        have c16 : Below w1.heap.size w1 w6 := c15.trans (b6.mono c15.size)
        clear d1' d2' J' c15 b6 hv5 hk5
        go_wp2_with fail
        refine (zcheck_any x0 l0 k0 (some ⟨wC.heap.size, 0, none⟩) (k + j) (k + j) (s1 ++ s2) w6 J).mono ?_
        rintro e w7 ⟨v7, rfl, hv7, hk7, b7⟩
        have d1' := d1.later b7
        have d2' := d2.later b7
        have c17 : Below w1.heap.size w1 w7 := c16.trans (b7.mono c16.size)
        clear d1 d2 J c16 b7 hv6 hk6
        go_wp2_with fail
        refine (short_any (-1) x1 k k1 s1 w7 d1').mono ?_
        rintro e wq ⟨rfl, hw⟩
        obtain rfl := hw.symm
        clear hv7 hk7
        go_wp2_with fail
        refine (short_any (short (-1) s1) x2 j k2 s2 w7 d2').mono ?_
        rintro e wq ⟨rfl, hw⟩
        obtain rfl := hw.symm
        have hB := blank_append s1 s2
        have hS := short_blank s1 s2
        rw [hB]
        generalize short (short (-1) s1) s2 = t at hS ⊢
        generalize blank s1 = p at hS ⊢
        generalize blank s2 = q' at hS ⊢
        clear hB
        cases p <;> cases q'
        all_goals
          first | (replace hS : (t == 0) = false := hS) | (replace hS : (t == 0) = true := hS)
          go_wp2
          go_ret
          exact ⟨rfl, c17⟩
end Go.Proofs.Qxb6621615a
