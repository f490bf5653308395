import Derived.Test.Qxb6617234aDecode
namespace Go.Proofs.Qxb6617234a
open Go.ChangeShapes Go.WideShapes Go.ChangeAt Go.RowKit

theorem bytes10_any (a0 a1 : Option Addr) (l0 l1 c0 c1 : Nat) (w : World) (h0 : l0 ≤ maxLen) (h1 : l1 ≤ maxLen) :
    Calls Try.prog 10 #[.slice a0 l0 c0, .slice a1 l1 c1] w fun e w' => Told w e w' := by
  unfold maxLen at h0 h1
  go_enter Try.func10, Try.ntmps10
  go_wp2
  all_goals
    go_ret
    first | exact ⟨false, rfl, rfl⟩ | exact ⟨true, rfl, rfl⟩

theorem owned_cap {w : World} {base n cap : Nat} {ao : Option Addr} {xs : List Value} (h : w.ownsRow base 5 1 (.slice ao n cap) n xs) : n ≤ cap ∧ cap ≤ maxLen := by
  rcases h.2 with ⟨h2, _⟩ | ⟨g, c, cur, hv, _, _, h3, h4, _⟩
  · simp at h2
    obtain ⟨_, rfl, rfl⟩ := h2
    exact ⟨Nat.le_refl _, Nat.zero_le _⟩
  · simp at hv
    obtain ⟨_, rfl⟩ := hv
    exact ⟨h3, h4⟩

set_option maxRecDepth 100000 in
set_option maxHeartbeats 2000000 in
theorem keeps_walk (a0 a1 : Option Addr) (l0 l1 c0 c1 : Nat) (zs ts : List Int) (w : World) (h0 : Shows w a0 l0 zs) (h1 : Shows w a1 l1 ts) (hc1 : a1 = none → c1 = 0) (hl1 : l1 ≤ c1) (hcm : c1 ≤ maxLen) :
    Calls Try.prog 4 #[.slice a0 l0 c0, .slice a1 l1 c1] w fun e w' => e = .returned (.bool true) ∧ Below w.heap.size w w' := by
  have qn : ∀ (w : World) (a : Option Addr) (n c n' c' : Nat), (binOp .neq 22 (.slice a n c) (.slice none n' c')).run Try.prog w = .ok (.bool (!a.isNone)) w := fun w a n c n' c' => run_neq_slice_nil_any w _ _ a n c n' c' Try.underlying22
  obtain ⟨i0, hi, hz0, hz1, hz2⟩ := info_parts info5
  have HC1 : Hid (a1 = none → c1 = 0) := hc1
  clear hc1
  go_enter Try.func4, Try.ntmps4
  go_wp2_with fail
  refine (bytes10_any a0 a1 l0 l1 c0 c1 w h0.top h1.top).mono ?_
  rintro e w1 ⟨r, rfl, rfl⟩
  have t0 := h0.top
  have t1 := h1.top
  unfold maxLen at t0 t1
  cases r
  · go_wp2
    go_ret
    exact ⟨rfl, Below.refl _ _⟩
  by_cases big0 : (524288 : Int) < (l0 : Int)
  · go_wp2
    go_ret
    exact ⟨rfl, Below.refl _ _⟩
  by_cases big1 : (524288 : Int) < (l1 : Int)
  · go_wp2
    go_ret
    exact ⟨rfl, Below.refl _ _⟩
  go_upto_if 22 with fail
  go_cut [1] (fun v wx => ∃ ao cap, v = .slice ao l1 cap ∧ Shows wx ao l1 ts ∧ (ao = none → cap = 0) ∧ l1 ≤ cap ∧ cap ≤ maxLen ∧ Below w.heap.size w wx)
  case first =>
    cases a1 with
    | none =>
      go_wp2
      go_meet
      case rel => exact ⟨none, c1, rfl, h1, fun _ => HC1.out trivial, hl1, hcm, Below.refl _ _⟩
    | some a =>
      have hcs : (vs ts).length = l1 := by rw [vs_length]; exact h1.num
      go_wp2_with (first | (at_make; refine wpList_make_full _ rfl (.tmp 24) (.tmp 24) 22 rfl w.heap.size 5 i0 (.int .u8 0) 1 Try.underlying22 hi hz0 hz1 .i64 .i64 _ _ l1 rfl rfl rfl rfl (by rw [hz2]; omega) (by unfold maxLen; omega) (Nat.le_refl _) ?_; intro w2 ho hg) | (refine wpList_copy_splice rfl (.tmp 26) (.tmp 27) 22 22 rfl 5 Try.underlying22 (by rw [hi]; simp [hz1]) _ _ _ _ _ _ rfl rfl w.heap.size 0 _ 5 (made_row ho).1 (vs ts) (by simp [hcs]) (fun _ => ⟨rfl, a, rfl, src (h1.later (below_grown hg))⟩) (by rw [(made_row ho).2.1, hcs]; omega) (vs_one ts) w.heap.size w (below_grown hg) (Nat.le_refl _) ?_; intro w3 hh hb))
      have O := owned_copy (base := w.heap.size) hh h1.num (made_row ho).2.1 (by unfold maxLen; omega) (Nat.le_refl _)
      have hm : l1 ≤ maxLen := by unfold maxLen; omega
      go_meet
      case rel =>
        obtain ⟨ao, cap, e, S, _⟩ := owned_shows O hm h1.byte
        simp only [Value.slice.injEq] at e
        obtain ⟨rfl, _, rfl⟩ := e
        exact ⟨_, l1, rfl, S, by simp, Nat.le_refl _, hm, hb⟩
  case rest =>
  obtain ⟨x1, k1, rfl, g1, hk1, hlk, hkm, b1⟩ := hcut
  obtain ⟨wA, hwA⟩ : ∃ x, x = wc := ⟨_, rfl⟩
  subst hwA
  have g0 := h0.later b1
  have HK1 : Hid (x1 = none → k1 = 0) := hk1
  clear h0 h1 HC1 hl1 hcm hk1
  go_wp2_with fail
  refine (clone_any a0 l0 c0 zs wA g0 (by omega)).mono ?_
  rintro e wB ⟨vB, rfl, oB, bB⟩
  go_wp2_with fail
  refine (zz_any wA vB l0 zs x1 l1 k1 ts wB g1 HK1.out (Has.of_clone oB bB) (by omega) (by omega)).mono ?_
  rintro e wC ⟨vC, mC, rfl, hC⟩
  clear oB bB
  have hbytes := byte_append g0.byte (esc_byte ts g1.byte)
  have nC : mC = l0 + (l1 + count ts) := by
    have e1 := hC.num
    rw [List.length_append, esc_len, g0.num, g1.num] at e1
    omega
  have hcnt : count ts ≤ l1 := by rw [← g1.num]; exact count_le ts
  have hesc : (esc ts).length = l1 + count ts := by rw [esc_len, g1.num]
  subst nC
  obtain ⟨aC, cC, rfl, SC, _⟩ := owned_shows hC.row (by unfold maxLen; omega) hbytes
  obtain ⟨hcap, hcapm⟩ := owned_cap hC.row
  have T0 : Shows wC a0 l0 zs := g0.later hC.below
  have T1 : Shows wC x1 l1 ts := g1.later hC.below
  have bC : Below w.heap.size w wC := b1.trans (hC.below.mono b1.size)
  have SH : Shows wC aC l0 zs := by
    have := SC.take (p := l0) (by omega)
    rw [List.take_left' g0.num] at this
    exact this
  have SD : Shows wC (aC.map (fun x => x.add l0)) (l1 + count ts) (esc ts) := by
    have := SC.drop (p := l0) (by omega)
    rw [List.drop_left' g0.num, Nat.add_sub_cancel_left] at this
    exact this
  generalize count ts = q at hcnt hesc SC hcap SD ⊢
  clear hC g0 g1 hbytes b1 HK1 SC
  unfold maxLen at hcapm
  go_wp2_with fail
  refine (equal_same aC a0 l0 cC c0 zs wC SH T0).mono ?_
  rintro e wD ⟨rfl, bD⟩
  have SD' := SD.later bD
  have T1' := T1.later bD
  have bD2 : Below w.heap.size w wD := bC.trans (bD.mono bC.size)
  clear SH SD T0 T1 bC bD
  by_cases hkp : cC = l0
  · have hq0 : l1 + q = 0 := by omega
    have hl1 : l1 = 0 := by omega
    have hq : q = 0 := by omega
    subst hkp
    subst hl1
    subst hq
    have D0 : Shows wD aC 0 (esc ts) := ⟨SD'.num, SD'.top, fun i hi => absurd hi (Nat.not_lt_zero i), SD'.byte⟩
    clear SD'
    go_wp2_with fail
    refine (decode_any aC 0 0 ts wD D0 (by omega)).mono ?_
    rintro e wE ⟨vE, rfl, hE⟩
    rw [T1'.num] at hE
    obtain ⟨aE, cE, rfl, SE, _⟩ := owned_shows hE.row (by unfold maxLen; omega) T1'.byte
    have T2 := T1'.later hE.below
    have bE : Below w.heap.size w wE := bD2.trans (hE.below.mono bD2.size)
    clear hE T1' bD2
    go_wp2_with fail
    refine (equal_same aE x1 0 cE k1 ts wE SE T2).mono ?_
    rintro e wF ⟨rfl, bF⟩
    go_wp2
    go_ret
    exact ⟨rfl, bE.trans (bF.mono bE.size)⟩
  · have SD2 := SD'
    clear SD'
    go_wp2_with fail
    refine (decode_any _ (l1 + q) (cC - l0) ts wD SD2 (by omega)).mono ?_
    rintro e wE ⟨vE, rfl, hE⟩
    rw [T1'.num] at hE
    obtain ⟨aE, cE, rfl, SE, _⟩ := owned_shows hE.row (by unfold maxLen; omega) T1'.byte
    have T2 := T1'.later hE.below
    have bE : Below w.heap.size w wE := bD2.trans (hE.below.mono bD2.size)
    clear hE T1' bD2
    go_wp2_with fail
    refine (equal_same aE x1 l1 cE k1 ts wE SE T2).mono ?_
    rintro e wF ⟨rfl, bF⟩
    go_wp2
    go_ret
    exact ⟨rfl, bE.trans (bF.mono bE.size)⟩
end Go.Proofs.Qxb6617234a
