import Derived.Test.Qxb6617234aParts
import Derived.Deep.CutBlock
namespace Go.Proofs.Qxb6617234a
open Go.ChangeShapes Go.WideShapes Go.ChangeAt Go.RowKit

/-- 'Has W w v n zs': the slice value v owns the numbers zs in w, in blocks from W's size on; below it w is as W. -/
structure Has (W w : World) (v : Value) (n : Nat) (zs : List Int) : Prop where
  row : w.ownsRow W.heap.size 5 1 v n (vs zs)
  below : Below W.heap.size W w

/-- A slice came back that owns zs. -/
def Grew (W : World) (zs : List Int) (e : Ending) (w' : World) : Prop := ∃ v m, e = .returned v ∧ Has W w' v m zs

theorem Has.num {W w : World} {v : Value} {n : Nat} {zs : List Int} (h : Has W w v n zs) : zs.length = n := by have := h.row.1; simpa [vs] using this

theorem Has.own {W w : World} {v : Value} {n : Nat} {zs : List Int} (h : Has W w v n zs) : ∀ k, v.ownBlock = some k → W.heap.size ≤ k := by
  intro k hk
  rcases h.row.2 with ⟨rfl, _⟩ | ⟨g, cap, cur, rfl, hg, _⟩
  · simp [Value.ownBlock] at hk
  · simp [Value.ownBlock] at hk
    omega

theorem Has.push {W w w3 : World} {v v' : Value} {n m : Nat} {zs : List Int} (ns : List Int) (h : Has W w v n zs) (h3 : w3.ownsRow W.heap.size 5 1 v' m (vs zs ++ vs ns)) (hg : w.grownBy w3 v.ownBlock) : Has W w3 v' m (zs ++ ns) :=
  ⟨by rw [vs_append] at h3; exact h3, h.below.grown hg h.below.size h.own⟩

theorem Has.alloc {W w : World} {v : Value} {n : Nat} {zs : List Int} (h : Has W w v n zs) (o : Obj) : Has W (w.alloc o) v n zs := ⟨h.row.alloc o, h.below.alloc h.below.size o⟩

theorem Shows.none {w : World} {len : Nat} {zs : List Int} (h : Shows w none len zs) : len = 0 ∧ zs = [] := by
  have h0 : len = 0 := by
    rcases Nat.eq_zero_or_pos len with h0 | h0
    · exact h0
    · obtain ⟨a, e, _⟩ := h.cells 0 h0
      simp at e
  exact ⟨h0, List.eq_nil_of_length_eq_zero (by rw [h.num, h0])⟩

set_option maxRecDepth 100000 in
set_option maxHeartbeats 2000000 in
theorem esc_any (W : World) (v : Value) (n : Nat) (zs : List Int) (ao : Option Addr) (len cap : Nat) (ts : List Int) (w : World) (hT : Shows W ao len ts) (hc : ao = none → cap = 0) (hH : Has W w v n zs) (hn : n ≤ 4194304) (hl : len ≤ 1048576) :
    Calls Try.prog 12 #[v, .slice ao len cap] w fun e w' => Grew W (zs ++ esc ts) e w' := by
  obtain ⟨i0, hi, hz0, hz1, hz2⟩ := info_parts info5
  go_enter Try.func12, Try.ntmps12
  go_upto_block 0 with fail
  go_cut [5] (fun p wx => wx = w ∧ ((p = .bool true ∧ Hid (esc ts = ts)) ∨ p = .bool false))
  case first =>
    go_wp2
    go_loop [5, 12] (fun p i => ∃ k : Nat, k ≤ len ∧ i = .int .i64 k ∧ p = .bool true ∧ ∀ j, j < k → sp (ts.getD j 0) = false) (fun _ i => len - (intOf i).toNat)
    case atStart => exact ⟨0, Nat.zero_le _, rfl, rfl, fun j hj => absurd hj (Nat.not_lt_zero j)⟩
    case round =>
      obtain ⟨k, hk, rfl, rfl, hp⟩ := hrel
      have HP : Hid (∀ j, j < k → sp (ts.getD j 0) = false) := hp
      clear hp
      by_cases hlt : k < len
      · obtain ⟨b, o, e, kc⟩ := (hT.later hH.below).at (by omega)
        have g := kc k hlt
        subst e
        have HN : Hid (sp (ts.getD k 0) = false → ∀ j, j < k + 1 → sp (ts.getD j 0) = false) := by
          intro h j hj
          rcases Nat.lt_succ_iff_lt_or_eq.1 hj with h1 | rfl
          · exact HP.out j h1
          · exact h
        have HE : Hid (∃ c, c = ts.getD k 0) := ⟨_, rfl⟩
        clear kc HP HE
        generalize ts.getD k 0 = c at g HN
        go_wp2
        iterate 4 (go_meet; exact ⟨rfl, .inr rfl⟩)
        have hno : (((c == 92) = false ∧ (c == 9) = false) ∧ (c == 13) = false) ∧ (c == 10) = false := by assumption
        have hs : sp c = false := by unfold sp; rw [hno.1.1.1, hno.1.1.2, hno.1.2, hno.2]; rfl
        go_round
        case rel => exact ⟨k + 1, by omega, by go_num, rfl, HN.out hs⟩
        case measure => simp [intOf]; omega
      · obtain rfl : k = len := by omega
        have he : Hid (esc ts = ts) := esc_plain ts (fun j hj => HP.out j (by rw [← hT.num]; exact hj))
        clear HP hlt hk
        go_wp2
        go_meet
        case rel => exact ⟨rfl, .inl ⟨rfl, he⟩⟩
  case rest =>
  obtain ⟨rfl, hp⟩ := hcut
  rcases hp with ⟨rfl, he⟩ | rfl
  · cases ao with
    | none =>
      obtain ⟨rfl, rfl⟩ := hT.none
      obtain rfl := hc rfl
      go_wp2_with (at_builtin; refine wpList_append_own_none rfl (.tmp 32) (.tmp 33) 22 rfl W.heap.size 5 i0 1 Try.underlying22 hi v n _ rfl hH.row rfl ?_)
      go_ret
      exact ⟨_, n, rfl, by rw [show esc [] = [] from rfl, List.append_nil]; exact hH⟩
    | some a =>
      have hT' := hT.later hH.below
      have hcs : (vs ts).length = len * 1 := by rw [vs_length, hT.num, Nat.mul_one]
      have HS : Hid (∀ (j : Nat) (v : Value), (vs ts)[j]? = some v → wc.cell? (a.add j) = some v) := src hT'
      clear hT'
      go_wp2_with (at_builtin; refine wpList_append_own _ rfl (.tmp 32) (.tmp 33) 22 rfl W.heap.size 5 i0 (.int .u8 0) 1 1 Try.underlying22 hi hz0 hz1 hz2 rfl (by decide) v n _ rfl hH.row a len cap (vs ts) rfl hcs HS.out (vs_one ts) (by unfold maxLen; omega) (by omega) hH.below.size ?_; intro v' w1 hown' hgrow _)
      go_ret
      exact ⟨v', n + len, rfl, by rw [he.out]; exact hH.push ts hown' hgrow⟩
  · clear hc
    have hnz := hH.num
    go_wp2
    go_loopw [0, 37] (fun v' i wr => ∃ (k m : Nat), k ≤ len ∧ i = .int .i64 k ∧ Has W wr v' m (zs ++ esc (ts.take k))) (fun _ i _ => len - (intOf i).toNat)
    case atStart => exact ⟨0, n, Nat.zero_le _, rfl, by simpa [esc] using hH⟩
    case round =>
      clear hH
      obtain ⟨k, m, hk, rfl, hO⟩ := hrel
      by_cases hlt : k < len
      · have hT' := hT.later hO.below
        obtain ⟨b, o, e, kc⟩ := hT'.at (by omega)
        have g := kc k hlt
        subst e
        have hbw := World.block_lt_of_cell? wr _ g
        simp only at hbw
        have hm : m ≤ 6291456 := by
          have h1 := hO.num
          have h2 := esc_len (ts.take k)
          have h3 := count_le (ts.take k)
          have h4 : (ts.take k).length ≤ k := List.length_take_le _ _
          rw [List.length_append] at h1
          omega
        have hsz := hO.below.size
        have HT : Hid (zs ++ esc (ts.take (k + 1)) = zs ++ esc (ts.take k) ++ esc1 (ts.getD k 0)) := by
          rw [take_snoc ts k (by rw [hT.num]; exact hlt), esc_append, List.append_assoc]
          simp [esc, Hid]
        clear kc hT' hT
        generalize ts.getD k 0 = c at g HT
        generalize zs ++ esc (ts.take k) = ys at hO HT
        by_cases h92 : c = 92
        · subst h92
          have HX : Hid (zs ++ esc (ts.take (k + 1)) = ys ++ [92, 92]) := HT.out
          clear HT
          go_wp2_with (at_builtin; refine Lib.wpList_append_own_string _ rfl (.tmp 48) (.const (.string ⟨#[92, 92]⟩)) 22 9 rfl W.heap.size 5 i0 Try.underlying22 Try.underlying9 hi hz0 hz1 hz2 u0 m (vs ys) rfl hO.row ⟨#[92, 92]⟩ rfl (by have : (⟨#[92, 92]⟩ : ByteArray).size = 2 := rfl; unfold maxLen; omega) (by have : (⟨#[92, 92]⟩ : ByteArray).size = 2 := rfl; omega) hsz ?_; intro v2 w2 ho hg _)
          have P2 : Hid (Has W w2 v2 (m + 2) (zs ++ esc (ts.take (k + 1)))) := by rw [HX.out]; exact hO.push [92, 92] ho hg
          go_roundw
          case rel => exact ⟨k + 1, m + 2, by omega, by go_num, P2.out⟩
          case measure => simp [intOf]; omega
        by_cases h9 : c = 9
        · subst h9
          have HX : Hid (zs ++ esc (ts.take (k + 1)) = ys ++ [92, 116]) := HT.out
          clear HT
          go_wp2_with (at_builtin; refine Lib.wpList_append_own_string _ rfl (.tmp 52) (.const (.string ⟨#[92, 116]⟩)) 22 9 rfl W.heap.size 5 i0 Try.underlying22 Try.underlying9 hi hz0 hz1 hz2 u0 m (vs ys) rfl hO.row ⟨#[92, 116]⟩ rfl (by have : (⟨#[92, 116]⟩ : ByteArray).size = 2 := rfl; unfold maxLen; omega) (by have : (⟨#[92, 116]⟩ : ByteArray).size = 2 := rfl; omega) hsz ?_; intro v2 w2 ho hg _)
          have P2 : Hid (Has W w2 v2 (m + 2) (zs ++ esc (ts.take (k + 1)))) := by rw [HX.out]; exact hO.push [92, 116] ho hg
          go_roundw
          case rel => exact ⟨k + 1, m + 2, by omega, by go_num, P2.out⟩
          case measure => simp [intOf]; omega
        by_cases h13 : c = 13
        · subst h13
          have HX : Hid (zs ++ esc (ts.take (k + 1)) = ys ++ [92, 114]) := HT.out
          clear HT
          go_wp2_with (at_builtin; refine Lib.wpList_append_own_string _ rfl (.tmp 56) (.const (.string ⟨#[92, 114]⟩)) 22 9 rfl W.heap.size 5 i0 Try.underlying22 Try.underlying9 hi hz0 hz1 hz2 u0 m (vs ys) rfl hO.row ⟨#[92, 114]⟩ rfl (by have : (⟨#[92, 114]⟩ : ByteArray).size = 2 := rfl; unfold maxLen; omega) (by have : (⟨#[92, 114]⟩ : ByteArray).size = 2 := rfl; omega) hsz ?_; intro v2 w2 ho hg _)
          have P2 : Hid (Has W w2 v2 (m + 2) (zs ++ esc (ts.take (k + 1)))) := by rw [HX.out]; exact hO.push [92, 114] ho hg
          go_roundw
          case rel => exact ⟨k + 1, m + 2, by omega, by go_num, P2.out⟩
          case measure => simp [intOf]; omega
        by_cases h10 : c = 10
        · subst h10
          have HX : Hid (zs ++ esc (ts.take (k + 1)) = ys ++ [92, 110]) := HT.out
          clear HT
          go_wp2_with (at_builtin; refine Lib.wpList_append_own_string _ rfl (.tmp 60) (.const (.string ⟨#[92, 110]⟩)) 22 9 rfl W.heap.size 5 i0 Try.underlying22 Try.underlying9 hi hz0 hz1 hz2 u0 m (vs ys) rfl hO.row ⟨#[92, 110]⟩ rfl (by have : (⟨#[92, 110]⟩ : ByteArray).size = 2 := rfl; unfold maxLen; omega) (by have : (⟨#[92, 110]⟩ : ByteArray).size = 2 := rfl; omega) hsz ?_; intro v2 w2 ho hg _)
          have P2 : Hid (Has W w2 v2 (m + 2) (zs ++ esc (ts.take (k + 1)))) := by rw [HX.out]; exact hO.push [92, 110] ho hg
          go_roundw
          case rel => exact ⟨k + 1, m + 2, by omega, by go_num, P2.out⟩
          case measure => simp [intOf]; omega
        have HX : Hid (zs ++ esc (ts.take (k + 1)) = ys ++ [c]) := by
          have e := HT.out
          rw [esc1, if_neg h92, if_neg h9, if_neg h13, if_neg h10] at e
          exact e
        clear HT
        have n92 : (c == 92) = false := by simp [h92]
        have n9 : (c == 9) = false := by simp [h9]
        have n13 : (c == 13) = false := by simp [h13]
        have n10 : (c == 10) = false := by simp [h10]
        clear h92 h9 h13 h10
        go_wp2_with (at_builtin; refine wpList_append_own _ rfl (.tmp 42) (.tmp 44) 22 rfl W.heap.size 5 i0 (.int .u8 0) 1 1 Try.underlying22 hi hz0 hz1 hz2 rfl (by decide) u0 m (vs ys) rfl (hO.row.alloc _) ⟨wr.heap.size, 0, none⟩ 1 1 [.int .u8 c] rfl rfl (cell_one_new _ _ _) (fun x hx => by simp at hx; subst hx; rfl) (by unfold maxLen; omega) (by omega) (by simp; omega) ?_; intro v2 w2 ho hg _)
        have P2 : Hid (Has W w2 v2 (m + 1) (zs ++ esc (ts.take (k + 1)))) := by rw [HX.out]; exact (hO.alloc _).push [c] ho hg
        go_roundw
        case rel => exact ⟨k + 1, m + 1, by omega, by go_num, P2.out⟩
        case measure => simp [intOf]; omega
      · have e : ts.take k = ts := List.take_of_length_le (by rw [hT.num]; omega)
        rw [e] at hO
        clear e
        go_wp2
        go_ret
        exact ⟨_, m, rfl, hO⟩

set_option maxRecDepth 100000 in
theorem zz_any (W : World) (v : Value) (n : Nat) (zs : List Int) (ao : Option Addr) (len cap : Nat) (ts : List Int) (w : World) (hT : Shows W ao len ts) (hc : ao = none → cap = 0) (hH : Has W w v n zs) (hn : n ≤ 4194304) (hl : len ≤ 1048576) :
    Calls Try.prog 6 #[v, .slice ao len cap] w fun e w' => Grew W (zs ++ esc ts) e w' := by
  go_enter Try.func6, Try.ntmps6
  go_wp2_with fail
  refine (esc_any W v n zs ao len cap ts w hT hc hH hn hl).mono ?_
  rintro e w1 ⟨v1, m, rfl, h1⟩
  clear hc
  go_wp2
  go_ret
  exact ⟨v1, m, rfl, h1⟩
end Go.Proofs.Qxb6617234a
