import Derived.Test.Qxb6621615aRows
import Derived.WalkKit
import Derived.ProofKit
import Derived.WalkSpells
import Derived.WalkLawsBesides
namespace Go.Proofs.Qxb6621615a
open Go.ChangeShapes Go.WideShapes Go.ChangeAt Go.RowKit

/-- The slice of strings at 'ao', 'len' long, shows the strings 'ss' in the world w. -/
structure Shows (w : World) (ao : Option Addr) (len : Nat) (ss : List ByteArray) : Prop where
  num : ss.length = len
  top : len ≤ maxLen
  cells : ∀ i, i < len → ∃ a, ao = some a ∧ w.cell? (a.add i) = some (.string (ss.getD i ByteArray.empty))
  small : ∀ i, (ss.getD i ByteArray.empty).size ≤ maxLen

theorem Shows.at {w : World} {ao : Option Addr} {len : Nat} {ss : List ByteArray} (h : Shows w ao len ss) (hp : 0 < len) :
    ∃ b off, ao = some ⟨b, off, none⟩ ∧ ∀ j, j < len → w.cell? ⟨b, off + j, none⟩ = some (.string (ss.getD j ByteArray.empty)) := by
  obtain ⟨⟨b, off, spot⟩, rfl, h0⟩ := h.cells 0 hp
  have hspot : spot = none := by simpa [Addr.add] using World.cell?_spot h0
  subst hspot
  refine ⟨b, off, rfl, fun j hj => ?_⟩
  obtain ⟨a, e, hc⟩ := h.cells j hj
  simp only [Option.some.injEq] at e
  subst e
  rw [← Go.WideShapes.add_plain]; exact hc

set_option maxHeartbeats 400000 in
theorem add_any (acc : Int) (ao : Option Addr) (len cap : Nat) (ss : List ByteArray) (w : World) (hv : Shows w ao len ss) (h0 : 0 ≤ acc) (h1 : acc ≤ 4194304) :
    Calls Try.prog 6 #[.int .i64 acc, .slice ao len cap] w fun e w' => ∃ n : Int, 0 ≤ n ∧ n ≤ 4194304 ∧ e = .returned (.int .i64 n) ∧ w' = w := by
  have ht := hv.top
  unfold maxLen at ht
  go_enter Try.func6, Try.ntmps6
  go_wp2
  go_loop [0, 9] (fun a i => ∃ (k : Nat) (x : Int), k ≤ len ∧ i = .int .i64 k ∧ a = .int .i64 x ∧ 0 ≤ x ∧ x ≤ 4194304) (fun _ i => len - (intOf i).toNat)
  case atStart => exact ⟨0, acc, Nat.zero_le _, rfl, rfl, h0, h1⟩
  case round =>
    obtain ⟨k, x, hk, rfl, rfl, hx0, hx1⟩ := hrel
    by_cases hlt : k < len
    · obtain ⟨b, off, rfl, hc⟩ := hv.at (by omega)
      have hck := hc k hlt
      have hsm := hv.small k
      unfold maxLen at hsm
      clear hc hv
      generalize ss.getD k ByteArray.empty = s at hck hsm
      go_wp2
      · go_ret
        exact ⟨1048577, by omega, by omega, rfl, rfl⟩
      · go_round
        case rel => exact ⟨k + 1, x + (16 + s.size), by omega, by go_num, rfl, by omega, by omega⟩
        case measure => simp [intOf]; omega
      · go_ret
        exact ⟨1048577, by omega, by omega, rfl, rfl⟩
    · go_wp2
      go_ret
      exact ⟨_, hx0, hx1, rfl, rfl⟩

/-- The least length, as 'zzcShortest' reckons it. -/
def short (best : Int) (ss : List ByteArray) : Int := ss.foldl (fun b s => if b < 0 ∨ (s.size : Int) < b then s.size else b) best

theorem short_snoc (best : Int) (ss : List ByteArray) (k : Nat) (h : k < ss.length) :
    short best (ss.take (k + 1)) = if short best (ss.take k) < 0 ∨ ((ss.getD k ByteArray.empty).size : Int) < short best (ss.take k) then ((ss.getD k ByteArray.empty).size : Int) else short best (ss.take k) := by
  unfold short
  rw [List.take_succ_eq_append_getElem h, List.foldl_append]
  simp [List.getD, h]

set_option maxHeartbeats 400000 in
theorem short_any (best : Int) (ao : Option Addr) (len cap : Nat) (ss : List ByteArray) (w : World) (hv : Shows w ao len ss) :
    Calls Try.prog 8 #[.int .i64 best, .slice ao len cap] w fun e w' => e = .returned (.int .i64 (short best ss)) ∧ w' = w := by
  have ht := hv.top
  unfold maxLen at ht
  go_enter Try.func8, Try.ntmps8
  go_wp2
  go_loop [0, 9] (fun a i => ∃ (k : Nat), k ≤ len ∧ i = .int .i64 k ∧ a = .int .i64 (short best (ss.take k))) (fun _ i => len - (intOf i).toNat)
  case atStart => exact ⟨0, Nat.zero_le _, rfl, rfl⟩
  case round =>
    obtain ⟨k, hk, rfl, rfl⟩ := hrel
    have hn := hv.num
    by_cases hlt : k < len
    · obtain ⟨b, off, rfl, hc⟩ := hv.at (by omega)
      have hck := hc k hlt
      have hsm := hv.small k
      unfold maxLen at hsm
      have HS : Hid (short best (ss.take (k + 1)) = _) := short_snoc best ss k (by omega)
      clear hc hv hn
      generalize ss.getD k ByteArray.empty = s at hck hsm HS
      generalize short best (ss.take k) = x at HS ⊢
      go_wp2
      all_goals
        go_round
        case rel => exact ⟨k + 1, by omega, by go_num, by rw [HS.out]; first | rw [if_pos (by omega)] | rw [if_neg (by omega)]⟩
        case measure => simp [intOf]; omega
    · have e : ss.take k = ss := List.take_of_length_le (by omega)
      go_wp2
      go_ret
      exact ⟨rfl, rfl⟩

/-- Does one of the strings have no byte? -/
def blank (ss : List ByteArray) : Bool := ss.any fun s => s.size == 0

theorem blank_take (ss : List ByteArray) (k : Nat) (h : k < ss.length) (h0 : blank (ss.take k) = false) (h1 : ¬ (ss.getD k ByteArray.empty).size = 0) : blank (ss.take (k + 1)) = false := by
  unfold blank at *
  rw [List.take_succ_eq_append_getElem h, List.any_append, h0]
  simp [List.getD, h] at h1 ⊢
  exact h1

theorem blank_hit (ss : List ByteArray) (k : Nat) (h : k < ss.length) (h1 : (ss.getD k ByteArray.empty).size = 0) : blank ss = true := by
  unfold blank
  rw [List.any_eq_true]
  refine ⟨ss[k], List.getElem_mem h, ?_⟩
  simpa [List.getD, h] using h1

theorem size_empty {s : ByteArray} (h : s.toList.isEmpty = true) : s.size = 0 := by
  rw [ByteArray.toList_eq] at h
  have h2 : s.data.toList.isEmpty = true := h
  rw [← ByteArray.size_data, ← Array.length_toList]
  cases hl : s.data.toList <;> simp_all
theorem size_full {s : ByteArray} (h : s.toList.isEmpty = false) : ¬ s.size = 0 := by
  rw [ByteArray.toList_eq] at h
  have h2 : s.data.toList.isEmpty = false := h
  rw [← ByteArray.size_data, ← Array.length_toList]
  cases hl : s.data.toList <;> simp_all

set_option maxHeartbeats 400000 in
theorem check_any (v0 : Value) (ao : Option Addr) (len cap : Nat) (ss : List ByteArray) (w : World) (hv : Shows w ao len ss) :
    Calls Try.prog 10 #[.agg #[v0, .slice ao len cap]] w fun e w' => ∃ v, e = .returned v ∧ ((blank ss = false ∧ v = .nilIface) ∨ (blank ss = true ∧ ∃ p, v = .iface 33 p)) ∧ Below w.heap.size w w' := by
  have ht := hv.top
  unfold maxLen at ht
  go_enter Try.func10, Try.ntmps10
  go_wp2
  go_loop [8] (fun i => ∃ (k : Nat), k ≤ len ∧ i = .int .i64 k ∧ blank (ss.take k) = false) (fun i => len - (intOf i).toNat)
  case atStart => exact ⟨0, Nat.zero_le _, rfl, by simp [blank]⟩
  case round =>
    obtain ⟨k, hk, rfl, hb0⟩ := hrel
    have hn := hv.num
    by_cases hlt : k < len
    · obtain ⟨b, off, rfl, hc⟩ := hv.at (by omega)
      have hcw := hc k hlt
      have hbw := World.block_lt_of_cell? w _ hcw
      simp only at hbw
      have HY : Hid (_ → blank ss = true) := blank_hit ss k (by omega)
      have HN : Hid (_ → blank (ss.take (k + 1)) = false) := blank_take ss k (by omega) hb0
      clear hc hv hn hb0
      generalize ss.getD k ByteArray.empty = s at hcw HY HN
      go_wp2
      · have he : s.toList.isEmpty = true := by assumption
        go_ret
        exact ⟨_, rfl, .inr ⟨HY.out (size_empty he), _, rfl⟩, ((Below.refl _ _).alloc (Nat.le_refl _) _).alloc (by simp) _⟩
      · have he : s.toList.isEmpty = false := by assumption
        go_round
        case rel => exact ⟨k + 1, by omega, by go_num, HN.out (size_full he)⟩
        case measure => simp [intOf]; omega
    · have e : ss.take k = ss := List.take_of_length_le (by omega)
      rw [e] at hb0
      have HB : Hid (blank ss = false) := hb0
      clear e hb0
      go_wp2
      go_ret
      exact ⟨_, rfl, .inl ⟨HB.out, rfl⟩, (Below.refl _ _).alloc (Nat.le_refl _) _⟩

theorem neq_nil (b : Bool) (v : Value) (h : (b = false ∧ v = .nilIface) ∨ (b = true ∧ ∃ p, v = .iface 33 p)) (w : World) : (binOp .neq 26 v .nilIface).run Try.prog w = .ok (.bool b) w := by
  rcases h with ⟨rfl, rfl⟩ | ⟨rfl, p, rfl⟩
  · exact run_neq_nil_nil w 26 (by kernel_rfl)
  · exact run_neq_held_nil w 26 33 p (by kernel_rfl)

theorem guard_nil (b : Bool) (v : Value) (h : (b = false ∧ v = .nilIface) ∨ (b = true ∧ ∃ p, v = .iface 33 p)) (x : Operand) (c : Value) (w : World) : (eqGuard .neq 26 x (.const c) v .nilIface).run Try.prog w = .ok () w := by
  rcases h with ⟨rfl, rfl⟩ | ⟨rfl, p, rfl⟩
  · simp [eqGuard]
  · simp [eqGuard]

set_option maxHeartbeats 400000 in
theorem zcheck_any (a0 : Option Addr) (l0 c0 : Nat) (ao : Option Addr) (len cap : Nat) (ss : List ByteArray) (w : World) (hv : Shows w ao len ss) :
    Calls Try.prog 7 #[.slice a0 l0 c0, .slice ao len cap] w fun e w' => ∃ v, e = .returned v ∧ (∀ w2, (binOp .neq 26 v .nilIface).run Try.prog w2 = .ok (.bool (blank ss)) w2) ∧ (∀ x c w2, (eqGuard .neq 26 x (.const c) v .nilIface).run Try.prog w2 = .ok () w2) ∧ Below w.heap.size w w' := by
  go_enter Try.func7, Try.ntmps7
  go_wp2_with fail
  refine (check_any (.slice a0 l0 c0) ao len cap ss w hv).mono ?_
  rintro e w1 ⟨v, rfl, hv1, hb1⟩
  have H1 : Hid ((blank ss = false ∧ v = .nilIface) ∨ (blank ss = true ∧ ∃ p, v = .iface 33 p)) := hv1
  clear hv1
  go_wp2
  go_ret
  exact ⟨v, rfl, neq_nil _ _ H1.out, guard_nil _ _ H1.out, hb1⟩

/-- What 'zzBytes' lets by: every list at most 1<<20 long. -/
theorem len_small {w : World} {ao : Option Addr} {len : Nat} {ss : List ByteArray} (h : Shows w ao len ss) : (len : Int) ≤ 9223372036854775807 := by
  have := h.top; unfold maxLen at this; omega

/-- 'zzBytes' returned some bool; where it is true, P holds; the world is as it was. -/
def Told (p : Prop) (w : World) (e : Ending) (w' : World) : Prop := ∃ r : Bool, e = .returned (.bool r) ∧ (r = true → p) ∧ w' = w

set_option maxHeartbeats 1000000 in
theorem bytes3_any (a0 a1 a2 : Option Addr) (l0 l1 l2 c0 c1 c2 : Nat) (s0 s1 s2 : List ByteArray) (w : World) (h0 : Shows w a0 l0 s0) (h1 : Shows w a1 l1 s1) (h2 : Shows w a2 l2 s2) :
    Calls Try.prog 5 #[.slice a0 l0 c0, .slice a1 l1 c1, .slice a2 l2 c2] w fun e w' => Told (l0 ≤ 1048576 ∧ l1 ≤ 1048576 ∧ l2 ≤ 1048576) w e w' := by
  have t0 := len_small h0
  have t1 := len_small h1
  have t2 := len_small h2
  go_enter Try.func5, Try.ntmps5
  go_wp2
  · go_ret; exact ⟨false, rfl, by simp, rfl⟩
  · go_loop [7, 8] (fun z i => ∃ (k : Nat) (x : Int), k ≤ l0 ∧ i = .int .i64 k ∧ z = .int .i64 x ∧ 0 ≤ x ∧ x ≤ 1048576) (fun _ i => l0 - (intOf i).toNat)
    case atStart => exact ⟨0, _, Nat.zero_le _, rfl, rfl, by omega, by omega⟩
    case round =>
      obtain ⟨k, x, hk, rfl, rfl, hx0, hx1⟩ := hrel
      by_cases hlt : k < l0
      · obtain ⟨b, off, rfl, hc⟩ := h0.at (by omega)
        have hck := hc k hlt
        have hsm := h0.small k
        unfold maxLen at hsm
        clear hc
        generalize s0.getD k ByteArray.empty = s at hck hsm
        go_wp2
        · go_ret; exact ⟨false, rfl, by simp, rfl⟩
        · go_ret; exact ⟨false, rfl, by simp, rfl⟩
        · go_round
          case rel => exact ⟨k + 1, x + s.size, by omega, by go_num, rfl, by omega, by omega⟩
          case measure => simp [intOf]; omega
      · go_wp2
        · go_ret; exact ⟨false, rfl, by simp, rfl⟩
        · go_ret; exact ⟨false, rfl, by simp, rfl⟩
        · go_loop [7, 9] (fun z i => ∃ (k : Nat) (x : Int), k ≤ l1 ∧ i = .int .i64 k ∧ z = .int .i64 x ∧ 0 ≤ x ∧ x ≤ 1048576) (fun _ i => l1 - (intOf i).toNat)
          case atStart => exact ⟨0, _, Nat.zero_le _, rfl, rfl, by omega, by omega⟩
          case round =>
            obtain ⟨k, x, hk, rfl, rfl, hx0, hx1⟩ := hrel
            by_cases hlt : k < l1
            · obtain ⟨b, off, rfl, hc⟩ := h1.at (by omega)
              have hck := hc k hlt
              have hsm := h1.small k
              unfold maxLen at hsm
              clear hc
              generalize s1.getD k ByteArray.empty = s at hck hsm
              go_wp2
              · go_ret; exact ⟨false, rfl, by simp, rfl⟩
              · go_ret; exact ⟨false, rfl, by simp, rfl⟩
              · go_round
                case rel => exact ⟨k + 1, x + s.size, by omega, by go_num, rfl, by omega, by omega⟩
                case measure => simp [intOf]; omega
            · go_wp2
              · go_ret; exact ⟨false, rfl, by simp, rfl⟩
              · go_ret; exact ⟨false, rfl, by simp, rfl⟩
              · go_loop [7, 10] (fun z i => ∃ (k : Nat) (x : Int), k ≤ l2 ∧ i = .int .i64 k ∧ z = .int .i64 x ∧ 0 ≤ x ∧ x ≤ 1048576) (fun _ i => l2 - (intOf i).toNat)
                case atStart => exact ⟨0, _, Nat.zero_le _, rfl, rfl, by omega, by omega⟩
                case round =>
                  obtain ⟨k, x, hk, rfl, rfl, hx0, hx1⟩ := hrel
                  by_cases hlt : k < l2
                  · obtain ⟨b, off, rfl, hc⟩ := h2.at (by omega)
                    have hck := hc k hlt
                    have hsm := h2.small k
                    unfold maxLen at hsm
                    clear hc
                    generalize s2.getD k ByteArray.empty = s at hck hsm
                    go_wp2
                    · go_ret; exact ⟨false, rfl, by simp, rfl⟩
                    · go_ret; exact ⟨false, rfl, by simp, rfl⟩
                    · go_round
                      case rel => exact ⟨k + 1, x + s.size, by omega, by go_num, rfl, by omega, by omega⟩
                      case measure => simp [intOf]; omega
                  · go_wp2
                    go_ret
                    exact ⟨true, rfl, fun _ => by omega, rfl⟩

set_option maxHeartbeats 1000000 in
theorem bytes4_any (a0 a1 : Option Addr) (l0 l1 c0 c1 : Nat) (i : Int) (au : ByteArray) (s0 s1 : List ByteArray) (w : World) (h0 : Shows w a0 l0 s0) (h1 : Shows w a1 l1 s1) (hau : au.size ≤ maxLen) :
    Calls Try.prog 9 #[.slice a0 l0 c0, .slice a1 l1 c1, .int .i64 i, .string au] w fun e w' => Told (l0 ≤ 1048576 ∧ l1 ≤ 1048576 ∧ au.size ≤ 1048576) w e w' := by
  have t0 := len_small h0
  have t1 := len_small h1
  unfold maxLen at hau
  go_enter Try.func9, Try.ntmps9
  go_wp2
  · go_ret; exact ⟨false, rfl, by simp, rfl⟩
  · go_loop [9, 10] (fun z i => ∃ (k : Nat) (x : Int), k ≤ l0 ∧ i = .int .i64 k ∧ z = .int .i64 x ∧ 0 ≤ x ∧ x ≤ 1048576) (fun _ i => l0 - (intOf i).toNat)
    case atStart => exact ⟨0, _, Nat.zero_le _, rfl, rfl, by omega, by omega⟩
    case round =>
      obtain ⟨k, x, hk, rfl, rfl, hx0, hx1⟩ := hrel
      by_cases hlt : k < l0
      · obtain ⟨b, off, rfl, hc⟩ := h0.at (by omega)
        have hck := hc k hlt
        have hsm := h0.small k
        unfold maxLen at hsm
        clear hc
        generalize s0.getD k ByteArray.empty = s at hck hsm
        go_wp2
        · go_ret; exact ⟨false, rfl, by simp, rfl⟩
        · go_ret; exact ⟨false, rfl, by simp, rfl⟩
        · go_round
          case rel => exact ⟨k + 1, x + s.size, by omega, by go_num, rfl, by omega, by omega⟩
          case measure => simp [intOf]; omega
      · go_wp2
        · go_ret; exact ⟨false, rfl, by simp, rfl⟩
        · go_ret; exact ⟨false, rfl, by simp, rfl⟩
        · go_loop [9, 11] (fun z i => ∃ (k : Nat) (x : Int), k ≤ l1 ∧ i = .int .i64 k ∧ z = .int .i64 x ∧ 0 ≤ x ∧ x ≤ 1048576) (fun _ i => l1 - (intOf i).toNat)
          case atStart => exact ⟨0, _, Nat.zero_le _, rfl, rfl, by omega, by omega⟩
          case round =>
            obtain ⟨k, x, hk, rfl, rfl, hx0, hx1⟩ := hrel
            by_cases hlt : k < l1
            · obtain ⟨b, off, rfl, hc⟩ := h1.at (by omega)
              have hck := hc k hlt
              have hsm := h1.small k
              unfold maxLen at hsm
              clear hc
              generalize s1.getD k ByteArray.empty = s at hck hsm
              go_wp2
              · go_ret; exact ⟨false, rfl, by simp, rfl⟩
              · go_ret; exact ⟨false, rfl, by simp, rfl⟩
              · go_round
                case rel => exact ⟨k + 1, x + s.size, by omega, by go_num, rfl, by omega, by omega⟩
                case measure => simp [intOf]; omega
            · go_wp2
              · go_ret; exact ⟨false, rfl, by simp, rfl⟩
              · go_ret; exact ⟨false, rfl, by simp, rfl⟩
              · go_ret
                exact ⟨true, rfl, fun _ => by omega, rfl⟩

theorem Shows.later {w w' : World} {ao : Option Addr} {len : Nat} {ss : List ByteArray} (h : Shows w ao len ss) (hb : Below w.heap.size w w') : Shows w' ao len ss := by
  refine ⟨h.num, h.top, fun i hi => ?_, h.small⟩
  obtain ⟨a, e, hc⟩ := h.cells i hi
  exact ⟨a, e, by rw [hb.cell (World.block_lt_of_cell? w _ hc)]; exact hc⟩

/-- A row of the call's own, filled with the strings, shows them. -/
theorem shows_of_block {w : World} {g : Nat} {ss : List ByteArray} {e : TypeId} {more : List Value} (h : w.heap[g]? = some (.cells (ss.map Value.string ++ more).toArray e (0, 0))) (ht : ss.length ≤ maxLen) (hs : ∀ i, (ss.getD i ByteArray.empty).size ≤ maxLen) :
    Shows w (some ⟨g, 0, none⟩) ss.length ss := by
  refine ⟨rfl, ht, fun i hi => ⟨_, rfl, ?_⟩, hs⟩
  rw [Go.WideShapes.add_plain]
  simp [World.cell?, h, List.getD, hi]
  rw [List.getElem?_append_left (by simpa using hi)]
  simp [hi]

theorem shows_nil (w : World) : Shows w none 0 [] := ⟨rfl, Nat.zero_le _, fun i hi => absurd hi (Nat.not_lt_zero i), fun i => by simp [List.getD]⟩

theorem shows_some {w : World} {x : Addr} {len cap : Nat} {ss : List ByteArray} (hl : len ≤ cap) (hm : cap ≤ maxLen) (hz : ss.length = cap)
    (hc : ∀ i, i < ss.length → w.cell? (x.add i) = some (.string (ss.getD i ByteArray.empty))) (hs : ∀ s ∈ ss, s.size ≤ maxLen) : Shows w (some x) len (ss.take len) := by
  refine ⟨by simp; omega, by omega, fun i hi => ⟨x, rfl, ?_⟩, fun i => ?_⟩
  · rw [hc i (by omega)]
    simp [List.getD, hi]
  · by_cases h : i < len
    · have hi : i < ss.length := by omega
      have : (ss.take len).getD i ByteArray.empty = ss[i] := by simp [List.getD, h, hi]
      rw [this]
      exact hs _ (List.getElem_mem hi)
    · have : (ss.take len).getD i ByteArray.empty = ByteArray.empty := by
        rw [List.getD, List.getElem?_eq_none (by simp; omega)]; rfl
      rw [this]
      simp

end Go.Proofs.Qxb6621615a
