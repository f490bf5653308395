import Derived.Test.Qxb6621615aJoin
namespace Go.Proofs.Qxb6621615a
open Go.ChangeShapes Go.WideShapes Go.ChangeAt Go.RowKit

theorem ins_snoc (ss : List ByteArray) (au : ByteArray) (k t : Nat) (h : k + t < ss.length) :
    ss.take k ++ [au] ++ (ss.drop k).take (t + 1) = ss.take k ++ [au] ++ (ss.drop k).take t ++ [ss.getD (k + t) ByteArray.empty] := by
  have hd : t < (ss.drop k).length := by simp; omega
  rw [take_snoc (ss.drop k) t hd]
  have e : (ss.drop k).getD t ByteArray.empty = ss.getD (k + t) ByteArray.empty := by simp [List.getD]
  rw [e]
  simp

theorem blank_ins (ss : List ByteArray) (au : ByteArray) (k : Nat) : blank (ss.take k ++ [au] ++ ss.drop k) = (blank ss || ((au.size : Int) == 0)) := by
  have e : blank ss = (blank (ss.take k) || blank (ss.drop k)) := by rw [← blank_append, List.take_append_drop]
  rw [blank_append, blank_append, e]
  have e2 : blank [au] = ((au.size : Int) == 0) := by
    rw [Bool.eq_iff_iff]
    simp [blank]
  rw [e2]
  cases blank (ss.take k) <;> cases blank (ss.drop k) <;> cases ((au.size : Int) == 0) <;> rfl

theorem small_ins {ss : List ByteArray} {au : ByteArray} (k : Nat) (h : ∀ i, (ss.getD i ByteArray.empty).size ≤ maxLen) (ha : au.size ≤ maxLen) : ∀ i, ((ss.take k ++ [au] ++ ss.drop k).getD i ByteArray.empty).size ≤ maxLen := by
  refine small_append (small_append ?_ ?_) ?_
  · intro i
    by_cases hi : i < k
    · have := h i
      simpa [List.getD, hi] using this
    · rw [List.getD, List.getElem?_eq_none (by simp; omega)]
      simp
  · intro i
    cases i with
    | zero => simpa [List.getD] using ha
    | succ i => simp [List.getD]
  · intro i
    have := h (k + i)
    simpa [List.getD] using this

set_option maxRecDepth 100000 in
set_option maxHeartbeats 2000000 in
theorem insert_walk (a0 a1 : Option Addr) (l0 l1 c0 c1 : Nat) (i : Int) (au : ByteArray) (s0 s1 : List ByteArray) (w : World) (h0 : Shows w a0 l0 s0) (h1 : Shows w a1 l1 s1) (hwi : (Lit.int .i64 i).wf = true) (hau : au.size ≤ maxLen) :
    Calls Try.prog 4 #[.slice a0 l0 c0, .slice a1 l1 c1, .int .i64 i, .string au] w fun e w' => e = .returned (.bool true) ∧ Below w.heap.size w w' := by
  have qn : ∀ (w : World) (a : Option Addr) (n c n' c' : Nat), (binOp .neq 22 (.slice a n c) (.slice none n' c')).run Try.prog w = .ok (.bool (!a.isNone)) w := fun w a n c n' c' => run_neq_slice_nil_any w _ _ a n c n' c' Try.underlying22
  obtain ⟨i0, hi, hz0, hz1, hz2⟩ := info_parts info9
  go_enter Try.func4, Try.ntmps4
  go_wp2_with fail
  refine (bytes4_any a0 a1 l0 l1 c0 c1 i au s0 s1 w h0 h1 hau).mono ?_
  rintro e w1 ⟨r, rfl, hr, rfl⟩
  cases r
  · go_wp2
    go_ret
    exact ⟨rfl, Below.refl _ _⟩
  · obtain ⟨hl0, hl1, hla⟩ := hr rfl
    clear hr
    go_upto_if 25 with fail
    go_cut [0] (fun v wx => ∃ ao cap, v = .slice ao l0 cap ∧ Shows wx ao l0 s0 ∧ Below w1.heap.size w1 wx)
    case first =>
      cases a0 with
      | none =>
        go_wp2
        go_meet
        case rel => exact ⟨none, c0, rfl, h0, Below.refl _ _⟩
      | some a =>
        have hcs : (s0.map Value.string).length = l0 := by simp [h0.num]
        go_wp2_with (first | (at_make; refine wpList_make_full _ rfl (.tmp 27) (.tmp 27) 22 rfl w1.heap.size 9 i0 (.string ByteArray.empty) 1 Try.underlying22 hi hz0 hz1 .i64 .i64 _ _ l0 rfl rfl rfl rfl (by rw [hz2]; omega) (by unfold maxLen; omega) (Nat.le_refl _) ?_; intro w2 ho hg) | (refine wpList_copy_splice rfl (.tmp 29) (.tmp 30) 22 22 rfl 9 Try.underlying22 (by rw [hi]; simp [hz1]) _ _ _ _ _ _ rfl rfl w1.heap.size 0 _ 9 (made_row ho).1 (s0.map Value.string) (by simp [hcs]) (fun _ => ⟨rfl, a, rfl, copy_src h0 hg⟩) (by rw [(made_row ho).2.1, hcs]; omega) (strs_one s0) w1.heap.size w1 ((Below.refl _ _).grown hg (Nat.le_refl _) (by simp)) (Nat.le_refl _) ?_; intro w3 hh hb))
        go_meet
        case rel => exact ⟨_, l0, rfl, copied hh h0, hb⟩
    case rest =>
    obtain ⟨x0, k0, rfl, g0, b1⟩ := hcut
    obtain ⟨wA, hwA⟩ : ∃ x, x = wc := ⟨_, rfl⟩
    subst hwA
    have g1 := h1.later b1
    clear h0 h1
    go_upto_if 34 with fail
    go_cut [1] (fun v wx => ∃ ao cap, v = .slice ao l1 cap ∧ Shows wx ao l1 s1 ∧ Below wA.heap.size wA wx)
    case first =>
      cases a1 with
      | none =>
        go_wp2
        go_meet
        case rel => exact ⟨none, c1, rfl, g1, Below.refl _ _⟩
      | some a =>
        have hcs : (s1.map Value.string).length = l1 := by simp [g1.num]
        go_wp2_with (first | (at_make; refine wpList_make_full _ rfl (.tmp 36) (.tmp 36) 22 rfl wA.heap.size 9 i0 (.string ByteArray.empty) 1 Try.underlying22 hi hz0 hz1 .i64 .i64 _ _ l1 rfl rfl rfl rfl (by rw [hz2]; omega) (by unfold maxLen; omega) (Nat.le_refl _) ?_; intro w2 ho hg) | (refine wpList_copy_splice rfl (.tmp 38) (.tmp 39) 22 22 rfl 9 Try.underlying22 (by rw [hi]; simp [hz1]) _ _ _ _ _ _ rfl rfl wA.heap.size 0 _ 9 (made_row ho).1 (s1.map Value.string) (by simp [hcs]) (fun _ => ⟨rfl, a, rfl, copy_src g1 hg⟩) (by rw [(made_row ho).2.1, hcs]; omega) (strs_one s1) wA.heap.size wA ((Below.refl _ _).grown hg (Nat.le_refl _) (by simp)) (Nat.le_refl _) ?_; intro w3 hh hb))
        go_meet
        case rel => exact ⟨_, l1, rfl, copied hh g1, hb⟩
    case rest =>
    obtain ⟨x1, k1, rfl, e1, b2⟩ := hcut
    obtain ⟨wC, hwC⟩ : ∃ x, x = wc := ⟨_, rfl⟩
    subst hwC
    have e0 := g0.later b2
    have c13 : Below w1.heap.size w1 wC := b1.trans (b2.mono b1.size)
    clear g0 g1 b1 b2
    go_wp2_with fail
    refine (add_any 0 x0 l0 k0 s0 wC e0 (by omega) (by omega)).mono ?_
    rintro e wq ⟨n, hn0, hn1, rfl, hw⟩
    obtain rfl := hw.symm
    go_wp2_with fail
    refine (add_any n x1 l1 k1 s1 wC e1 hn0 hn1).mono ?_
    rintro e wq ⟨q, hq0, hq1, rfl, hw⟩
    obtain rfl := hw.symm
    clear hn0 hn1
    have hla' : ¬ (1048576 : Int) < (au.size : Int) := by omega
    by_cases hbig : 1048576 < q
    · go_wp2
      go_ret
      exact ⟨rfl, c13⟩
    by_cases hneg : i < 0
    · go_wp2
      go_ret
      exact ⟨rfl, c13⟩
    by_cases hfar : (l1 : Int) < i
    · go_wp2
      go_ret
      exact ⟨rfl, c13⟩
    obtain ⟨p, rfl⟩ := Int.eq_ofNat_of_zero_le (Int.not_lt.1 hneg)
    have hp : p ≤ l1 := by omega
    clear hneg hq0 hq1
    go_wp2_with (at_make; refine wpList_make_own _ rfl (.const (.int .i64 0)) (.tmp 64) 22 rfl wC.heap.size 9 i0 (.string ByteArray.empty) 1 Try.underlying22 hi hz0 hz1 .i64 .i64 _ (l1 + 1) rfl rfl (by omega) (by rw [hz2]; omega) (by unfold maxLen; omega) (Nat.le_refl _) ?_; intro wm hom hgm)
    have O : Own wC wm wC.heap.size 0 (l1 + 1) [] := ⟨by rw [vs_nil]; exact hom, (Below.refl _ _).grown hgm (Nat.le_refl _) (by simp), Nat.le_refl _⟩
    clear hom hgm
    clear hbig hfar
    go_loopw [12, 13] (fun v i wr => ∃ k : Nat, k ≤ p ∧ i = .int .i64 k ∧ v = .slice (some ⟨wC.heap.size, 0, none⟩) k (l1 + 1) ∧ Own wC wr wC.heap.size k (l1 + 1) (s1.take k)) (fun _ i _ => p - (intOf i).toNat)
    case atStart => exact ⟨0, Nat.zero_le _, rfl, rfl, by simpa using O⟩
    case round =>
    obtain ⟨k, hk, rfl, rfl, hO⟩ := hrel
    by_cases hlt : k < p
    · have e1' := e1.later hO.below
      obtain ⟨b, off, hx1, hc⟩ := e1'.at (by omega)
      have hck := hc k (by omega)
      have HT : Hid (s1.take (k + 1) = s1.take k ++ [s1.getD k ByteArray.empty]) := take_snoc s1 k (by rw [e1.num]; omega)
      have hbw := World.block_lt_of_cell? wr _ hck
      simp only at hbw
      subst hx1
      clear hc e1' e0 e1
      generalize s1.getD k ByteArray.empty = s at hck HT
      go_wp2_with (at_builtin; refine wpList_append_fits _ rfl (.tmp 71) (.tmp 76) 22 rfl wC.heap.size 9 i0 1 Try.underlying22 hi hz1 wC.heap.size k (l1 + 1) (vs (s1.take k)) rfl (hO.row.alloc _) ⟨wr.heap.size, 0, none⟩ 1 1 [.string s] rfl rfl (cell_one_new _ _ _) (fun x hx => by simp at hx; subst hx; rfl) (by omega) ?_; intro w3 ho3 hg3)
      have O3 : Hid (Own wC w3 wC.heap.size (k + 1) (l1 + 1) (s1.take (k + 1))) := by rw [HT.out]; exact hO.push ho3 hg3
      clear ho3 hg3 hO HT
      go_roundw
      case rel => exact ⟨k + 1, by omega, by go_num, rfl, O3.out⟩
      case measure => simp [intOf]; omega
    · obtain rfl : k = p := by omega
      clear hlt hk O
      go_wp2_with (at_builtin; refine wpList_append_fits _ rfl (.tmp 78) (.tmp 80) 22 rfl wC.heap.size 9 i0 1 Try.underlying22 hi hz1 wC.heap.size k (l1 + 1) (vs (s1.take k)) rfl (hO.row.alloc _) ⟨wr.heap.size, 0, none⟩ 1 1 [.string au] rfl rfl (cell_one_new _ _ _) (fun x hx => by simp at hx; subst hx; rfl) (by omega) ?_; intro w3 ho3 hg3)
      have O3 : Own wC w3 wC.heap.size (k + 1) (l1 + 1) (s1.take k ++ [au]) := hO.push ho3 hg3
      clear ho3 hg3 hO
      go_loopw [12, 14] (fun v i wr => ∃ t : Nat, k + t ≤ l1 ∧ i = .int .i64 ↑(k + t) ∧ v = .slice (some ⟨wC.heap.size, 0, none⟩) (k + 1 + t) (l1 + 1) ∧ Own wC wr wC.heap.size (k + 1 + t) (l1 + 1) (s1.take k ++ [au] ++ (s1.drop k).take t)) (fun _ i _ => l1 - (intOf i).toNat)
      case atStart => exact ⟨0, by omega, rfl, rfl, by simpa using O3⟩
      case round =>
      clear O3
      obtain ⟨t, ht, rfl, rfl, hO⟩ := hrel
      by_cases hlt : k + t < l1
      · have e1' := e1.later hO.below
        obtain ⟨b, off, hx1, hc⟩ := e1'.at (by omega)
        have hck := hc (k + t) (by omega)
        have HT : Hid (s1.take k ++ [au] ++ (s1.drop k).take (t + 1) = s1.take k ++ [au] ++ (s1.drop k).take t ++ [s1.getD (k + t) ByteArray.empty]) := ins_snoc s1 au k t (by rw [e1.num]; omega)
        have hbw := World.block_lt_of_cell? wr _ hck
        simp only at hbw
        subst hx1
        clear hc e1' e0 e1
        generalize s1.getD (k + t) ByteArray.empty = s at hck HT
        go_wp2_with (at_builtin; refine wpList_append_fits _ rfl (.tmp 89) (.tmp 94) 22 rfl wC.heap.size 9 i0 1 Try.underlying22 hi hz1 wC.heap.size (k + 1 + t) (l1 + 1) (vs (s1.take k ++ [au] ++ (s1.drop k).take t)) rfl (hO.row.alloc _) ⟨wr.heap.size, 0, none⟩ 1 1 [.string s] rfl rfl (cell_one_new _ _ _) (fun x hx => by simp at hx; subst hx; rfl) (by omega) ?_; intro w3 ho3 hg3)
        have O3 : Hid (Own wC w3 wC.heap.size (k + 1 + t + 1) (l1 + 1) (s1.take k ++ [au] ++ (s1.drop k).take (t + 1))) := by rw [HT.out]; exact hO.push ho3 hg3
        clear ho3 hg3 hO HT
        go_roundw
        case rel => exact ⟨t + 1, by omega, by go_num, rfl, O3.out⟩
        case measure => simp [intOf]; omega
      · obtain rfl : l1 = k + t := by omega
        have e : (s1.drop k).take t = s1.drop k := List.take_of_length_le (by rw [List.length_drop, e1.num]; omega)
        rw [e] at hO
        clear e hlt ht
        have J : Shows wr (some ⟨wC.heap.size, 0, none⟩) (k + 1 + t) (s1.take k ++ [au] ++ s1.drop k) := hO.shows (by unfold maxLen; omega) (small_ins k e1.small (by unfold maxLen; omega))
        have d1 := e1.later hO.below
        have c14 : Below w1.heap.size w1 wr := c13.trans (hO.below.mono c13.size)
        have HB : Hid (blank (s1.take k ++ [au] ++ s1.drop k) = (blank s1 || ((au.size : Int) == 0))) := blank_ins s1 au k
        clear hO e0 e1 c13
        generalize s1.take k ++ [au] ++ s1.drop k = ins at J HB
        go_wp2_with fail
        refine (zcheck_any x0 l0 k0 x1 (k + t) k1 s1 wr d1).mono ?_
        rintro e w5 ⟨v5, rfl, hv5, hk5, b5⟩
        have d1' := d1.later b5
        have J' := J.later b5
        have c15 : Below w1.heap.size w1 w5 := c14.trans (b5.mono c14.size)
        clear d1 J c14 b5
        go_wp2_with fail
        refine (zcheck_any x0 l0 k0 (some ⟨wC.heap.size, 0, none⟩) (k + 1 + t) (k + t + 1) ins w5 J').mono ?_
        rintro e w6 ⟨v6, rfl, hv6, hk6, b6⟩
        have d1 := d1'.later b6
        have J := J'.later b6
        have c16 : Below w1.heap.size w1 w6 := c15.trans (b6.mono c15.size)
        clear d1' J' c15 b6 hv5 hk5
        go_wp2_with fail
        refine (zcheck_any none 0 0 (some ⟨wC.heap.size, 0, none⟩) (k + 1 + t) (k + t + 1) ins w6 J).mono ?_
        rintro e w7 ⟨v7, rfl, hv7, hk7, b7⟩
        have d1' := d1.later b7
        have c17 : Below w1.heap.size w1 w7 := c16.trans (b7.mono c16.size)
        clear d1 J c16 b7 hv6 hk6
        have hS := short_from s1
        have HS : Hid (Calls Try.prog 8 #[.int .i64 (-1), .slice x1 (k + t) k1] w7 fun e w' => e = .returned (.int .i64 (short (-1) s1)) ∧ w' = w7) := short_any (-1) x1 (k + t) k1 s1 w7 d1'
        rw [HB.out] at hv7 ⊢
        generalize short (-1) s1 = u at hS HS
        generalize blank s1 = p at hS hv7 ⊢
        clear HB d1'
        cases p <;> cases hq : ((au.size : Int) == 0)
        all_goals
          rw [hq] at hv7
          first | (replace hv7 : ∀ w2, (binOp .neq 26 v7 .nilIface).run Try.prog w2 = .ok (.bool false) w2 := hv7) | (replace hv7 : ∀ w2, (binOp .neq 26 v7 .nilIface).run Try.prog w2 = .ok (.bool true) w2 := hv7)
          go_wp2_with (go_at_call 8; refine HS.out.mono ?_; rintro e wq ⟨rfl, hw⟩; obtain rfl := hw.symm)
          go_ret
          exact ⟨rfl, c17⟩
end Go.Proofs.Qxb6621615a
