import Derived.Test.Qxb6617234aRows
import Derived.WalkKit
import Derived.ProofKit
import Derived.WalkSpells
import Derived.WalkLawsBesides
import Derived.Laws.CopyOwn
import Derived.Laws.AppendOwnNone
import Derived.Lib.AppendStr
import Derived.Deep.DeepCutAuto
namespace Go.Proofs.Qxb6617234a
open Go.ChangeShapes Go.WideShapes Go.ChangeAt Go.RowKit

/-- The slice of bytes at 'ao', 'len' long, shows the numbers 'zs' in the world w. -/
structure Shows (w : World) (ao : Option Addr) (len : Nat) (zs : List Int) : Prop where
  num : zs.length = len
  top : len ≤ maxLen
  cells : ∀ i, i < len → ∃ a, ao = some a ∧ w.cell? (a.add i) = some (.int .u8 (zs.getD i 0))
  byte : ∀ i, 0 ≤ zs.getD i 0 ∧ zs.getD i 0 ≤ 255

theorem Shows.at {w : World} {ao : Option Addr} {len : Nat} {zs : List Int} (h : Shows w ao len zs) (hp : 0 < len) :
    ∃ b off, ao = some ⟨b, off, none⟩ ∧ ∀ j, j < len → w.cell? ⟨b, off + j, none⟩ = some (.int .u8 (zs.getD j 0)) := by
  obtain ⟨⟨b, off, spot⟩, rfl, h0⟩ := h.cells 0 hp
  have hspot : spot = none := by simpa [Addr.add] using World.cell?_spot h0
  subst hspot
  refine ⟨b, off, rfl, fun j hj => ?_⟩
  obtain ⟨a, e, hc⟩ := h.cells j hj
  simp only [Option.some.injEq] at e
  subst e
  rw [← Go.WideShapes.add_plain]; exact hc

theorem Shows.later {w w' : World} {ao : Option Addr} {len : Nat} {zs : List Int} (h : Shows w ao len zs) (hb : Below w.heap.size w w') : Shows w' ao len zs := by
  refine ⟨h.num, h.top, fun i hi => ?_, h.byte⟩
  obtain ⟨a, e, hc⟩ := h.cells i hi
  exact ⟨a, e, by rw [hb.cell (World.block_lt_of_cell? w _ hc)]; exact hc⟩

/-- Numbers as byte values: a name that the walk leaves standing. -/
def vs (zs : List Int) : List Value := zs.map (Value.int .u8)
theorem vs_nil : vs [] = [] := rfl
theorem vs_append (a b : List Int) : vs a ++ vs b = vs (a ++ b) := by simp [vs]
theorem vs_length (a : List Int) : (vs a).length = a.length := by simp [vs]
theorem vs_one (zs : List Int) : ∀ v ∈ vs zs, v.oneCell' = true := by
  intro v hv
  obtain ⟨s, _, rfl⟩ := List.mem_map.1 hv
  rfl

theorem info5 : (Try.prog.info? 5).map (fun i => (i.zero, i.size, i.bytes)) = some (some (.int .u8 0), 1, 1) := by kernel_rfl

/-- What 'make' laid: the whole row. -/
theorem made_row {w1 : World} {base g n : Nat} {xs : List Value} (h : w1.ownsRow base 5 1 (.slice (some ⟨g, 0, none⟩) n n) n xs) : w1.heap[g]? = some (.cells xs.toArray 5 (0, 0)) ∧ xs.length = n ∧ base ≤ g := by
  obtain ⟨hl, h2⟩ := h
  rcases h2 with ⟨h2, _⟩ | ⟨g', cap, cur, hv, hg, hh, _, _, hs, ht⟩
  · simp at h2
  · simp at hv
    obtain ⟨rfl, rfl⟩ := hv
    simp at hs ht hl
    have e : cur.toList = xs := by rw [← ht, List.take_of_length_le (by simp [hs])]
    refine ⟨?_, hl, hg⟩
    rw [hh, ← e]

/-- The cells of a shown slice, in a world that has grown. -/
theorem src {w : World} {a : Addr} {len : Nat} {zs : List Int} (h : Shows w (some a) len zs) : ∀ (j : Nat) (v : Value), (vs zs)[j]? = some v → w.cell? (a.add j) = some v := by
  intro j v hv
  have hj : j < zs.length := by
    have := (List.getElem?_eq_some_iff.1 hv).1
    simpa [vs] using this
  obtain ⟨a', e, hc⟩ := h.cells j (by rw [← h.num]; exact hj)
  simp only [Option.some.injEq] at e
  subst e
  have hvv : v = .int .u8 (zs.getD j 0) := by
    simp [vs, hj] at hv
    simp [List.getD, hj, ← hv]
  rw [hvv]
  exact hc

theorem below_grown {w w' : World} (hg : w.grownBy w' none) : Below w.heap.size w w' := (Below.refl _ _).grown hg (Nat.le_refl _) (by simp)

/-- The filled row is owned. -/
theorem owned_copy {w3 : World} {base g len : Nat} {zs : List Int} {cur : List Value} (hh : Hid (w3.heap[g]? = some (.cells (splice cur 0 (vs zs)).toArray 5 (0, 0)))) (hz : zs.length = len) (hc : cur.length = len) (hm : len ≤ maxLen) (hb : base ≤ g) :
    w3.ownsRow base 5 1 (.slice (some ⟨g, 0, none⟩) len len) len (vs zs) := by
  have e : splice cur 0 (vs zs) = vs zs := by
    have : cur.drop (0 + (vs zs).length) = [] := List.drop_eq_nil_of_le (by rw [vs_length]; omega)
    simp [splice]
    rw [← Nat.zero_add (vs zs).length] at this ⊢
    simpa using this
  have h2 := hh.out
  rw [e] at h2
  exact ⟨by rw [vs_length]; omega, .inr ⟨g, len, _, rfl, hb, h2, Nat.le_refl _, hm, by simp [vs_length, hz], by simp; exact List.take_of_length_le (by rw [vs_length]; omega)⟩⟩

/-- What is owned is shown. -/
theorem owned_shows {w : World} {base n : Nat} {v : Value} {zs : List Int} (h : w.ownsRow base 5 1 v n (vs zs)) (hm : n ≤ maxLen) (hb : ∀ i, 0 ≤ zs.getD i 0 ∧ zs.getD i 0 ≤ 255) : ∃ ao cap, v = .slice ao n cap ∧ Shows w ao n zs ∧ (n = 0 ∨ ∃ b, ao = some ⟨b, 0, none⟩ ∧ base ≤ b) := by
  have hn : zs.length = n := by have := h.1; simpa [vs] using this
  rcases h.2 with ⟨rfl, rfl⟩ | ⟨g, cap, cur, rfl, hg, _⟩
  · exact ⟨_, _, rfl, ⟨hn, hm, fun i hi => absurd hi (Nat.not_lt_zero i), hb⟩, .inl rfl⟩
  · refine ⟨_, cap, rfl, ⟨hn, hm, fun i hi => ⟨_, rfl, ?_⟩, hb⟩, .inr ⟨g, rfl, hg⟩⟩
    exact h.cells (g := g) rfl i (.int .u8 (zs.getD i 0)) (by simp [vs, List.getD, hn, hi])

set_option maxHeartbeats 400000 in
theorem clone_any (ao : Option Addr) (len cap : Nat) (zs : List Int) (w : World) (hv : Shows w ao len zs) (hl : len ≤ 4194304) :
    Calls Try.prog 7 #[.slice ao len cap] w fun e w' => ∃ v, e = .returned v ∧ w'.ownsRow w.heap.size 5 1 v len (vs zs) ∧ Below w.heap.size w w' := by
  have qn : ∀ (w : World) (a : Option Addr) (n c n' c' : Nat), (binOp .eql 22 (.slice a n c) (.slice none n' c')).run Try.prog w = .ok (.bool a.isNone) w := fun w a n c n' c' => Lib.run_eql_slice_nil w _ _ a n c n' c' Try.underlying22
  obtain ⟨i0, hi, hz0, hz1, hz2⟩ := info_parts info5
  have hnum := hv.num
  cases ao with
  | none =>
    have h0 : len = 0 := by
      rcases Nat.eq_zero_or_pos len with h | h
      · exact h
      · obtain ⟨a, e, _⟩ := hv.cells 0 h
        simp at e
    subst h0
    have hz : zs = [] := List.eq_nil_of_length_eq_zero hnum
    subst hz
    clear hv hnum
    go_enter Try.func7, Try.ntmps7
    go_wp2
    go_ret
    exact ⟨_, rfl, World.ownsRow_nil _ _ _ _, Below.refl _ _⟩
  | some a =>
    have hcs : (vs zs).length = len := by rw [vs_length]; exact hnum
    go_enter Try.func7, Try.ntmps7
    go_wp2_with (first | (at_make; refine wpList_make_full _ rfl (.tmp 7) (.tmp 7) 22 rfl w.heap.size 5 i0 (.int .u8 0) 1 Try.underlying22 hi hz0 hz1 .i64 .i64 _ _ len rfl rfl rfl rfl (by rw [hz2]; omega) (by unfold maxLen; omega) (Nat.le_refl _) ?_; intro w2 ho hg) | (refine wpList_copy_splice rfl (.tmp 9) (.tmp 10) 22 22 rfl 5 Try.underlying22 (by rw [hi]; simp [hz1]) _ _ _ _ _ _ rfl rfl w.heap.size 0 _ 5 (made_row ho).1 (vs zs) (by simp [hcs]) (fun _ => ⟨rfl, a, rfl, src (hv.later (below_grown hg))⟩) (by rw [(made_row ho).2.1, hcs]; omega) (vs_one zs) w.heap.size w (below_grown hg) (Nat.le_refl _) ?_; intro w3 hh hb))
    have O := owned_copy (base := w.heap.size) hh hnum (made_row ho).2.1 (by unfold maxLen; omega) (Nat.le_refl _)
    go_ret
    exact ⟨_, rfl, O, hb⟩

/-- A byte as 'appendCopyText' writes it. -/
def esc1 (c : Int) : List Int := if c = 92 then [92, 92] else if c = 9 then [92, 116] else if c = 13 then [92, 114] else if c = 10 then [92, 110] else [c]
def esc (ts : List Int) : List Int := ts.flatMap esc1
/-- Is it one of the four? -/
def sp (c : Int) : Bool := c == 92 || (c == 9 || (c == 13 || c == 10))
def count (ts : List Int) : Nat := (ts.filter sp).length

theorem esc_append (a b : List Int) : esc (a ++ b) = esc a ++ esc b := by simp [esc]
theorem esc1_len (c : Int) : (esc1 c).length = if sp c = true then 2 else 1 := by
  unfold esc1 sp
  by_cases h1 : c = 92
  · simp [h1]
  · by_cases h2 : c = 9
    · simp [h2]
    · by_cases h3 : c = 13
      · simp [h3]
      · by_cases h4 : c = 10
        · simp [h4]
        · simp [h1, h2, h3, h4]
theorem esc_len (ts : List Int) : (esc ts).length = ts.length + count ts := by
  induction ts with
  | nil => rfl
  | cons c ts ih =>
    have e : esc (c :: ts) = esc1 c ++ esc ts := rfl
    rw [e, List.length_append, ih, esc1_len]
    unfold count
    rw [List.filter_cons]
    cases h : sp c <;> simp <;> omega
theorem count_le (ts : List Int) : count ts ≤ ts.length := List.length_filter_le _ _
theorem esc_plain (ts : List Int) (h : ∀ j, j < ts.length → sp (ts.getD j 0) = false) : esc ts = ts := by
  induction ts with
  | nil => rfl
  | cons c ts ih =>
    have e : esc (c :: ts) = esc1 c ++ esc ts := rfl
    have h0 : sp c = false := by simpa using h 0 (by simp)
    have e1 : esc1 c = [c] := by
      unfold sp at h0
      simp at h0
      simp [esc1, h0]
    rw [e, e1, ih (fun j hj => by simpa using h (j + 1) (by simpa using hj))]
    rfl
theorem esc_byte (ts : List Int) (h : ∀ i, 0 ≤ ts.getD i 0 ∧ ts.getD i 0 ≤ 255) : ∀ i, 0 ≤ (esc ts).getD i 0 ∧ (esc ts).getD i 0 ≤ 255 := by
  have hm : ∀ x ∈ ts, 0 ≤ x ∧ x ≤ 255 := by
    intro x hx
    obtain ⟨i, hi, rfl⟩ := List.getElem_of_mem hx
    simpa [List.getD, hi] using h i
  have hE : ∀ x ∈ esc ts, 0 ≤ x ∧ x ≤ 255 := by
    intro x hx
    obtain ⟨c, hc, hx⟩ := List.mem_flatMap.1 hx
    have := hm c hc
    unfold esc1 at hx
    split at hx
    · simp at hx; omega
    · split at hx
      · simp at hx; omega
      · split at hx
        · simp at hx; omega
        · split at hx
          · simp at hx; omega
          · simp at hx; omega
  intro i
  by_cases hi : i < (esc ts).length
  · have := hE _ (List.getElem_mem hi)
    simpa [List.getD, hi] using this
  · rw [List.getD, List.getElem?_eq_none (by omega)]
    simp
theorem take_snoc (ts : List Int) (k : Nat) (h : k < ts.length) : ts.take (k + 1) = ts.take k ++ [ts.getD k 0] := by
  rw [List.take_succ_eq_append_getElem h]; simp [List.getD, h]

theorem special_any (c : Int) (w : World) :
    Calls Try.prog 9 #[.int .u8 c] w fun e w' => e = .returned (.bool (sp c)) ∧ w = w' := by
  cases h1 : (c == 92)
  · cases h2 : (c == 9)
    · cases h3 : (c == 13)
      · cases h4 : (c == 10)
        all_goals
          have H : Hid (sp c = _) := show sp c = _ from by unfold sp; rw [h1, h2, h3, h4]
          go_enter Try.func9, Try.ntmps9
          go_wp2
          go_ret
          exact ⟨by rw [H.out]; rfl, rfl⟩
      · have H : Hid (sp c = _) := show sp c = _ from by unfold sp; rw [h1, h2, h3]
        go_enter Try.func9, Try.ntmps9
        go_wp2
        go_ret
        exact ⟨by rw [H.out]; rfl, rfl⟩
    · have H : Hid (sp c = _) := show sp c = _ from by unfold sp; rw [h1, h2]
      go_enter Try.func9, Try.ntmps9
      go_wp2
      go_ret
      exact ⟨by rw [H.out]; rfl, rfl⟩
  · have H : Hid (sp c = _) := show sp c = _ from by unfold sp; rw [h1]
    go_enter Try.func9, Try.ntmps9
    go_wp2
    go_ret
    exact ⟨by rw [H.out]; rfl, rfl⟩

/-- A slice that came in, as the frame tells it, is shown. -/
theorem shows_of {w : World} {a : Option Addr} {len cap : Nat} {zs : List Int} (h : (a = none ∧ len = 0 ∧ cap = 0 ∧ zs = []) ∨
    ∃ x, a = some x ∧ len ≤ cap ∧ cap ≤ maxLen ∧ zs.length = cap ∧ (∀ i, i < zs.length → w.cell? (x.add i) = some (.int .u8 (zs.getD i 0))) ∧ ∀ n ∈ zs, (Lit.int .u8 n).wf = true) :
    Shows w a len (zs.take len) ∧ (a = none → cap = 0) ∧ len ≤ cap ∧ cap ≤ maxLen := by
  rcases h with ⟨rfl, rfl, rfl, rfl⟩ | ⟨x, rfl, hl, hm, hz, hc, hw⟩
  · exact ⟨⟨rfl, Nat.zero_le _, fun i hi => absurd hi (Nat.not_lt_zero i), fun i => by simp [List.getD]⟩, fun _ => rfl, Nat.le_refl _, Nat.zero_le _⟩
  · refine ⟨⟨by simp; omega, by omega, fun i hi => ⟨x, rfl, ?_⟩, fun i => ?_⟩, by simp, hl, hm⟩
    · rw [hc i (by omega)]
      simp [List.getD, hi]
    · by_cases h : i < len
      · have hi : i < zs.length := by omega
        have e : (zs.take len).getD i 0 = zs[i] := by simp [List.getD, h, hi]
        rw [e]
        have hb := hw _ (List.getElem_mem hi)
        simp only [Lit.wf, Bool.and_eq_true, decide_eq_true_eq] at hb
        have hmin : IntKind.u8.min = 0 := rfl
        have hmax : IntKind.u8.max = 255 := rfl
        omega
      · rw [List.getD, List.getElem?_eq_none (by simp; omega)]
        simp

end Go.Proofs.Qxb6617234a
