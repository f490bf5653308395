import Derived.Test.Qxb6617234aSplits
namespace Go.Proofs.Qxb6617234a
open Go.ChangeShapes Go.WideShapes Go.ChangeAt Go.RowKit

/-- What 'decodeCopyTextB1' hands back: a slice of its own that owns ts, and true. -/
def Decoded (w : World) (ts : List Int) (e : Ending) (w' : World) : Prop := ∃ v, e = .returned (.tuple #[v, .bool true]) ∧ Has w w' v ts.length ts

theorem esc_at (ts : List Int) (t : Nat) (h : t < ts.length) : esc ts = esc (ts.take t) ++ (esc1 (ts.getD t 0) ++ esc (ts.drop (t + 1))) := by
  have e : ts = ts.take t ++ (ts.getD t 0 :: ts.drop (t + 1)) := by
    have h2 := List.take_append_drop t ts
    rw [List.drop_eq_getElem_cons h] at h2
    have h3 : ts.getD t 0 = ts[t] := by simp [List.getD, h]
    rw [h3]
    exact h2.symm
  have e2 : esc ts = esc (ts.take t ++ (ts.getD t 0 :: ts.drop (t + 1))) := by rw [← e]
  rw [e2, esc_append]
  rfl

theorem esc_get (ts : List Int) (t j : Nat) (h : t < ts.length) (hj : j < (esc1 (ts.getD t 0)).length) : (esc ts).getD ((esc (ts.take t)).length + j) 0 = (esc1 (ts.getD t 0)).getD j 0 := by
  rw [esc_at ts t h, List.getD, List.getElem?_append_right (by omega), List.getElem?_append_left (by omega)]
  rw [Nat.add_sub_cancel_left]
  rfl

theorem esc_room (ts : List Int) (t : Nat) (h : t < ts.length) : (esc (ts.take t)).length + (esc1 (ts.getD t 0)).length ≤ (esc ts).length := by
  have e := congrArg List.length (esc_at ts t h)
  simp only [List.length_append] at e
  omega

theorem esc_next (ts : List Int) (t : Nat) (h : t < ts.length) : (esc (ts.take (t + 1))).length = (esc (ts.take t)).length + (esc1 (ts.getD t 0)).length := by
  rw [take_snoc ts t h, esc_append, List.length_append]
  simp [esc]

theorem Has.fit {W w w3 : World} {v v' : Value} {g n m : Nat} {zs : List Int} (o : Obj) (ns : List Int) (h : Has W w v n zs) (h3 : w3.ownsRow W.heap.size 5 1 v' m (vs zs ++ vs ns)) (hg : (w.alloc o).grownBy w3 (some g)) (hw : W.heap.size ≤ g) : Has W w3 v' m (zs ++ ns) :=
  ⟨by rw [vs_append] at h3; exact h3, (h.below.alloc h.below.size o).grown hg (by have := h.below.size; simp; omega) (by intro k hk; simp at hk; omega)⟩

set_option maxRecDepth 100000 in
set_option maxHeartbeats 2000000 in
theorem decode_any (ao : Option Addr) (len cap : Nat) (ts : List Int) (w : World) (hS : Shows w ao len (esc ts)) (hl : len ≤ 4194304) :
    Calls Try.prog 11 #[.slice ao len cap] w fun e w' => Decoded w ts e w' := by
  obtain ⟨i0, hi, hz0, hz1, hz2⟩ := info_parts info5
  have hlen := hS.num
  have hge : ts.length ≤ len := by rw [← hlen, esc_len]; omega
  have HL : Hid ((esc ts).length = len) := hlen
  clear hlen
  go_enter Try.func11, Try.ntmps11
  go_wp2_with (at_make; refine wpList_make_own _ rfl (.const (.int .i64 0)) (.tmp 9) 22 rfl w.heap.size 5 i0 (.int .u8 0) 1 Try.underlying22 hi hz0 hz1 .i64 .i64 _ len rfl rfl rfl (by rw [hz2]; omega) (by unfold maxLen; omega) (Nat.le_refl _) ?_; intro wm hom hgm)
  have O : Has w wm (.slice (some ⟨w.heap.size, 0, none⟩) 0 len) 0 [] := ⟨by rw [vs_nil]; exact hom, below_grown hgm⟩
  clear hom hgm
  go_loopw [4, 5] (fun v i wr => ∃ t : Nat, t ≤ ts.length ∧ i = .int .i64 ((esc (ts.take t)).length : Nat) ∧ v = .slice (some ⟨w.heap.size, 0, none⟩) t len ∧ Has w wr v t (ts.take t)) (fun _ i _ => len - (intOf i).toNat)
  case atStart => exact ⟨0, Nat.zero_le _, rfl, rfl, by simpa using O⟩
  case round =>
    clear O
    obtain ⟨t, ht, rfl, rfl, hO⟩ := hrel
    by_cases hlt : t < ts.length
    · have hS' := hS.later hO.below
      have hroom := esc_room ts t hlt
      have hnext := esc_next ts t hlt
      have hget := esc_get ts t
      rw [HL.out] at hroom
      have hone : 0 < (esc1 (ts.getD t 0)).length := by rw [esc1_len]; split <;> omega
      obtain ⟨b, o, e, kc⟩ := hS'.at (by omega)
      subst e
      have HK : Hid (∀ j, j < (esc1 (ts.getD t 0)).length → wr.cell? ⟨b, o + ((esc (ts.take t)).length + j), none⟩ = some (.int .u8 ((esc1 (ts.getD t 0)).getD j 0))) := by
        intro j hj
        rw [kc _ (by omega), hget j hlt hj]
      have hbw : b < wr.heap.size := by
        have := World.block_lt_of_cell? wr _ (kc 0 (by omega))
        simpa using this
      have HX : Hid (ts.take (t + 1) = ts.take t ++ [ts.getD t 0]) := take_snoc ts t hlt
      have HQ : Hid ((esc (ts.take (t + 1))).length = (esc (ts.take t)).length + (esc1 (ts.getD t 0)).length) := hnext
      clear kc hS' hS HL hnext hget
      generalize ts.getD t 0 = c at hroom hone HK HX HQ
      generalize (esc (ts.take t)).length = q at hroom HK HQ ⊢
      generalize ts.take t = ys at hO HX
      by_cases h92 : c = 92
      · subst h92
        have g0 : wr.cell? ⟨b, o + q, none⟩ = some (.int .u8 92) := HK.out 0 (by decide)
        have g1 : wr.cell? ⟨b, o + (q + 1), none⟩ = some (.int .u8 92) := HK.out 1 (by decide)
        have hq : q + 2 ≤ len := hroom
        have HQ2 : Hid ((esc (ts.take (t + 1))).length = q + 2) := HQ.out
        clear HK hroom hone HQ
        go_wp2_with (at_builtin; refine wpList_append_fits _ rfl (.tmp 49) (.tmp 50) 22 rfl w.heap.size 5 i0 1 Try.underlying22 hi hz1 w.heap.size t len (vs ys) rfl (hO.row.alloc _) ⟨wr.heap.size, 0, none⟩ 1 1 [.int .u8 92] rfl rfl (cell_one_new _ _ _) (fun x hx => by simp at hx; subst hx; rfl) (by omega) ?_; intro w3 ho3 hg3)
        have P2 : Hid (Has w w3 (.slice (some ⟨w.heap.size, 0, none⟩) (t + 1) len) (t + 1) (ts.take (t + 1))) := by rw [HX.out]; exact hO.fit _ [92] ho3 hg3 (Nat.le_refl _)
        clear ho3 hg3 hO
        go_roundw
        case rel => exact ⟨t + 1, by omega, by rw [HQ2.out]; go_num, rfl, P2.out⟩
        case measure => simp [intOf]; omega
      by_cases h9 : c = 9
      · subst h9
        have g0 : wr.cell? ⟨b, o + q, none⟩ = some (.int .u8 92) := HK.out 0 (by decide)
        have g1 : wr.cell? ⟨b, o + (q + 1), none⟩ = some (.int .u8 116) := HK.out 1 (by decide)
        have hq : q + 2 ≤ len := hroom
        have HQ2 : Hid ((esc (ts.take (t + 1))).length = q + 2) := HQ.out
        clear HK hroom hone HQ
        go_wp2_with (at_builtin; refine wpList_append_fits _ rfl (.tmp 54) (.tmp 55) 22 rfl w.heap.size 5 i0 1 Try.underlying22 hi hz1 w.heap.size t len (vs ys) rfl (hO.row.alloc _) ⟨wr.heap.size, 0, none⟩ 1 1 [.int .u8 9] rfl rfl (cell_one_new _ _ _) (fun x hx => by simp at hx; subst hx; rfl) (by omega) ?_; intro w3 ho3 hg3)
        have P2 : Hid (Has w w3 (.slice (some ⟨w.heap.size, 0, none⟩) (t + 1) len) (t + 1) (ts.take (t + 1))) := by rw [HX.out]; exact hO.fit _ [9] ho3 hg3 (Nat.le_refl _)
        clear ho3 hg3 hO
        go_roundw
        case rel => exact ⟨t + 1, by omega, by rw [HQ2.out]; go_num, rfl, P2.out⟩
        case measure => simp [intOf]; omega
      by_cases h13 : c = 13
      · subst h13
        have g0 : wr.cell? ⟨b, o + q, none⟩ = some (.int .u8 92) := HK.out 0 (by decide)
        have g1 : wr.cell? ⟨b, o + (q + 1), none⟩ = some (.int .u8 114) := HK.out 1 (by decide)
        have hq : q + 2 ≤ len := hroom
        have HQ2 : Hid ((esc (ts.take (t + 1))).length = q + 2) := HQ.out
        clear HK hroom hone HQ
        go_wp2_with (at_builtin; refine wpList_append_fits _ rfl (.tmp 59) (.tmp 60) 22 rfl w.heap.size 5 i0 1 Try.underlying22 hi hz1 w.heap.size t len (vs ys) rfl (hO.row.alloc _) ⟨wr.heap.size, 0, none⟩ 1 1 [.int .u8 13] rfl rfl (cell_one_new _ _ _) (fun x hx => by simp at hx; subst hx; rfl) (by omega) ?_; intro w3 ho3 hg3)
        have P2 : Hid (Has w w3 (.slice (some ⟨w.heap.size, 0, none⟩) (t + 1) len) (t + 1) (ts.take (t + 1))) := by rw [HX.out]; exact hO.fit _ [13] ho3 hg3 (Nat.le_refl _)
        clear ho3 hg3 hO
        go_roundw
        case rel => exact ⟨t + 1, by omega, by rw [HQ2.out]; go_num, rfl, P2.out⟩
        case measure => simp [intOf]; omega
      by_cases h10 : c = 10
      · subst h10
        have g0 : wr.cell? ⟨b, o + q, none⟩ = some (.int .u8 92) := HK.out 0 (by decide)
        have g1 : wr.cell? ⟨b, o + (q + 1), none⟩ = some (.int .u8 110) := HK.out 1 (by decide)
        have hq : q + 2 ≤ len := hroom
        have HQ2 : Hid ((esc (ts.take (t + 1))).length = q + 2) := HQ.out
        clear HK hroom hone HQ
        go_wp2_with (at_builtin; refine wpList_append_fits _ rfl (.tmp 64) (.tmp 65) 22 rfl w.heap.size 5 i0 1 Try.underlying22 hi hz1 w.heap.size t len (vs ys) rfl (hO.row.alloc _) ⟨wr.heap.size, 0, none⟩ 1 1 [.int .u8 10] rfl rfl (cell_one_new _ _ _) (fun x hx => by simp at hx; subst hx; rfl) (by omega) ?_; intro w3 ho3 hg3)
        have P2 : Hid (Has w w3 (.slice (some ⟨w.heap.size, 0, none⟩) (t + 1) len) (t + 1) (ts.take (t + 1))) := by rw [HX.out]; exact hO.fit _ [10] ho3 hg3 (Nat.le_refl _)
        clear ho3 hg3 hO
        go_roundw
        case rel => exact ⟨t + 1, by omega, by rw [HQ2.out]; go_num, rfl, P2.out⟩
        case measure => simp [intOf]; omega
      have he : esc1 c = [c] := by rw [esc1, if_neg h92, if_neg h9, if_neg h13, if_neg h10]
      rw [he] at hroom hone HK HQ
      have g0 : wr.cell? ⟨b, o + q, none⟩ = some (.int .u8 c) := HK.out 0 (by simp)
      have hq : q + 1 ≤ len := hroom
      have HQ2 : Hid ((esc (ts.take (t + 1))).length = q + 1) := HQ.out
      have n92 : (c != 92) = true := by simp [h92]
      have n9 : (c == 9) = false := by simp [h9]
      have n13 : (c == 13) = false := by simp [h13]
      have n10 : (c == 10) = false := by simp [h10]
      clear HK hroom hone HQ he h92 h9 h13 h10
      go_wp2_with (at_builtin; refine wpList_append_fits _ rfl (.tmp 31) (.tmp 33) 22 rfl w.heap.size 5 i0 1 Try.underlying22 hi hz1 w.heap.size t len (vs ys) rfl (hO.row.alloc _) ⟨wr.heap.size, 0, none⟩ 1 1 [.int .u8 c] rfl rfl (cell_one_new _ _ _) (fun x hx => by simp at hx; subst hx; rfl) (by omega) ?_; intro w3 ho3 hg3)
      have P2 : Hid (Has w w3 (.slice (some ⟨w.heap.size, 0, none⟩) (t + 1) len) (t + 1) (ts.take (t + 1))) := by rw [HX.out]; exact hO.fit _ [c] ho3 hg3 (Nat.le_refl _)
      clear ho3 hg3 hO
      go_roundw
      case rel => exact ⟨t + 1, by omega, by rw [HQ2.out]; go_num, rfl, P2.out⟩
      case measure => simp [intOf]; omega
    · have e : ts.take t = ts := List.take_of_length_le (by omega)
      rw [e] at hO ⊢
      rw [HL.out]
      have ht2 : t = ts.length := by omega
      rw [ht2] at hO ⊢
      clear e ht2 ht hlt
      go_wp2
      go_ret2
      exact ⟨_, rfl, hO⟩
end Go.Proofs.Qxb6617234a
