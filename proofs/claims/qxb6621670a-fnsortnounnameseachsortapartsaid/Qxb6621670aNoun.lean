import Derived.Test.Qxb6621670aRows
import Derived.Test.Qxb6621670aSpelled
import Derived.WalkKit
import Derived.ProofKit
import Derived.WalkSpells
import Derived.WalkLawsBesides
import Derived.Deep.OwnRows
namespace Go.Proofs.Qxb6621670a
open Go.ChangeShapes Go.WideShapes Go.ChangeAt Go.RowKit

theorem info5 : (Try.prog.info? 5).map (fun i => (i.zero, i.size, i.bytes)) = some (some (.int .u8 0), 1, 1) := by kernel_rfl

/-- A byte as 'lowerASCII' turns it. -/
def low (c : UInt8) : UInt8 := if 65 ≤ c ∧ c ≤ 90 then c + 32 else c
/-- A string as 'lowerASCII' turns it. -/
def lowStr (s : ByteArray) : ByteArray := ⟨(s.data.toList.map low).toArray⟩
theorem low_yes (c : UInt8) (h1 : (65 : Int) ≤ (c.toNat : Int)) (h2 : (c.toNat : Int) ≤ 90) : ((low c).toNat : Int) = (c.toNat : Int) + 32 := by
  have h : 65 ≤ c ∧ c ≤ 90 := by
    rw [UInt8.le_iff_toNat_le, UInt8.le_iff_toNat_le]
    exact ⟨by simpa using (by omega : 65 ≤ c.toNat), by simpa using (by omega : c.toNat ≤ 90)⟩
  unfold low
  rw [if_pos h, UInt8.toNat_add]
  simp
  omega
theorem low_no (c : UInt8) (h : (c.toNat : Int) < 65 ∨ (90 : Int) < (c.toNat : Int)) : ((low c).toNat : Int) = (c.toNat : Int) := by
  have h : ¬ (65 ≤ c ∧ c ≤ 90) := by
    rw [UInt8.le_iff_toNat_le, UInt8.le_iff_toNat_le]
    intro hh
    have h1 : 65 ≤ c.toNat := by simpa using hh.1
    have h2 : c.toNat ≤ 90 := by simpa using hh.2
    omega
  unfold low
  rw [if_neg h]

theorem size_made (n : Nat) : (madeCells #[Value.int .u8 0] n).size = n := by simp [madeCells]

theorem low_set (s : ByteArray) (cur : Array Value) (k : Nat) (hlt : k < s.size) (hsz : cur.size = s.size) (hc : ∀ j, j < k → cur[j]? = some (.int .u8 ((s.data.toList.map low).getD j 0).toNat)) (v : Int) (hv : ((low s[k]).toNat : Int) = v) :
    ∀ j, j < k + 1 → (cur.setIfInBounds k (.int .u8 v))[j]? = some (.int .u8 ((s.data.toList.map low).getD j 0).toNat) := by
  intro j hj
  rw [Array.getElem?_setIfInBounds]
  by_cases h : k = j
  · subst h
    rw [if_pos rfl, if_pos (by omega), ← hv]
    have hl : k < s.data.toList.length := by simpa using hlt
    have e : (s.data.toList.map low).getD k 0 = low s[k] := by
      rw [List.getD, List.getElem?_map, List.getElem?_eq_getElem hl]
      rfl
    rw [e]
  · rw [if_neg h]
    exact hc j (by omega)

set_option maxRecDepth 100000 in
set_option maxHeartbeats 2000000 in
theorem lower_any (s : ByteArray) (hs : s.size ≤ 70000) (w : World) :
    Calls Try.prog 13 #[.string s] w fun e w' => e = .returned (.string (lowStr s)) ∧ Grown w w' := by
  have hmk := run_make_row' (P := Try.prog) 39 5 (.int .u8 0) 1 Try.underlying39 info5 rfl .i64 .i64 s.size (by omega) (by omega)
  go_enter Try.func13, Try.ntmps13
  go_wp2
  go_loopw [4] (fun i wr => ∃ (k : Nat) (cur : Array Value), k ≤ s.size ∧ i = .int .i64 k ∧ wr = w.alloc (.cells cur 5) ∧ cur.size = s.size ∧ ∀ j, j < k → cur[j]? = some (.int .u8 ((s.data.toList.map low).getD j 0).toNat)) (fun i _ => s.size - (intOf i).toNat)
  case atStart => exact ⟨0, _, Nat.zero_le _, rfl, rfl, size_made _, by intro j hj; omega⟩
  case round =>
    obtain ⟨k, cur, hk, rfl, rfl, hsz, hc⟩ := hrel
    have HC : Hid (∀ j, j < k → cur[j]? = some (.int .u8 ((s.data.toList.map low).getD j 0).toNat)) := hc
    clear hc
    by_cases hlt : k < s.size
    · go_wp2
      · have h1 : (65 : Int) ≤ (s[k].toNat : Int) := by assumption
        have h2 : (s[k].toNat : Int) ≤ 90 := by assumption
        go_roundw
        case rel => exact ⟨k + 1, _, by omega, by go_num, rfl, by simp [hsz], low_set s cur k hlt hsz HC.out _ (low_yes _ h1 h2)⟩
        case measure => simp [intOf]; omega
      · have h2 : (90 : Int) < (s[k].toNat : Int) := by assumption
        go_roundw
        case rel => exact ⟨k + 1, _, by omega, by go_num, rfl, by simp [hsz], low_set s cur k hlt hsz HC.out _ (low_no _ (.inr h2))⟩
        case measure => simp [intOf]; omega
      · have h1 : ¬ (65 : Int) ≤ (s[k].toNat : Int) := by assumption
        go_roundw
        case rel => exact ⟨k + 1, _, by omega, by go_num, rfl, by simp [hsz], low_set s cur k hlt hsz HC.out _ (low_no _ (.inl (by omega)))⟩
        case measure => simp [intOf]; omega
    · obtain rfl : k = s.size := by omega
      have hcv := run_convert_bytes_back (P := Try.prog) (w.alloc (.cells cur 5)) 39 9 5 ⟨w.heap.size, 0, none⟩ s.size (s.data.toList.map low) Try.underlying39 Try.underlying5 Try.underlying9 (by
        intro j hj
        have hj' : j < s.size := by simpa using hj
        rw [Go.WideShapes.add_plain, Nat.zero_add, World.cell?_alloc_mark, HC.out j hj', List.getD, List.getElem?_eq_getElem hj]
        rfl)
      have hl : (s.data.toList.map low).length = s.size := by simp
      rw [hl] at hcv
      clear hl HC
      replace hcv : (convert 39 9 (.slice (some ⟨w.heap.size, 0, none⟩) s.size s.size)).run Try.prog (w.alloc (.cells cur 5)) = .ok (.string (lowStr s)) (w.alloc (.cells cur 5)) := hcv
      go_wp2
      go_ret
      exact ⟨rfl, (Grown.refl _).alloc _ _⟩

abbrev principalS : ByteArray := ⟨#[80, 114, 105, 110, 99, 105, 112, 97, 108]⟩
abbrev labelS : ByteArray := ⟨#[76, 97, 98, 101, 108]⟩
abbrev principalN : ByteArray := ⟨#[112, 114, 105, 110, 99, 105, 112, 97, 108]⟩
abbrev labelN : ByteArray := ⟨#[108, 97, 98, 101, 108]⟩
abbrev termN : ByteArray := ⟨#[116, 101, 114, 109]⟩
abbrev ofSort : ByteArray := ⟨#[116, 101, 114, 109, 32, 111, 102, 32, 115, 111, 114, 116, 32]⟩

/-- n is what 'sortNoun' answers for s. -/
def Noun (s n : ByteArray) : Prop :=
  (s = principalS ∧ n = principalN) ∨ (s = labelS ∧ n = labelN) ∨ (s = ⟨#[]⟩ ∧ n = termN) ∨ ((¬ s = principalS ∧ ¬ s = labelS ∧ ¬ s = ⟨#[]⟩) ∧ n = ofSort ++ s)

theorem noun_any (s : ByteArray) : ∃ n, Noun s n := by
  by_cases h1 : s = principalS
  · exact ⟨_, .inl ⟨h1, rfl⟩⟩
  by_cases h2 : s = labelS
  · exact ⟨_, .inr (.inl ⟨h2, rfl⟩)⟩
  by_cases h3 : s = ⟨#[]⟩
  · exact ⟨_, .inr (.inr (.inl ⟨h3, rfl⟩))⟩
  · exact ⟨_, .inr (.inr (.inr ⟨⟨h1, h2, h3⟩, rfl⟩))⟩

theorem beq_list {x y : ByteArray} : (x.toList == y.toList) = decide (x = y) := by
  rw [ByteArray.toList_eq, ByteArray.toList_eq, Bool.eq_iff_iff, beq_iff_eq, decide_eq_true_eq]
  exact ⟨bytes_inj, fun h => by rw [h]⟩

theorem list_principal {s : ByteArray} : (s.toList == [80, 114, 105, 110, 99, 105, 112, 97, 108]) = decide (s = principalS) := by
  rw [← beq_list]; rw [ByteArray.toList_eq principalS]
theorem list_label {s : ByteArray} : (s.toList == [76, 97, 98, 101, 108]) = decide (s = labelS) := by
  rw [← beq_list]; rw [ByteArray.toList_eq labelS]
theorem list_empty {s : ByteArray} : s.toList.isEmpty = decide (s = ⟨#[]⟩) := by
  rw [← beq_list, ByteArray.toList_eq ⟨#[]⟩]; cases s.toList <;> rfl

theorem noun19 (s n : ByteArray) (hn : Noun s n) (hs : s.size ≤ 70000) (w : World) :
    Calls Try.prog 19 #[.string s] w fun e w' => e = .returned (.string n) ∧ w = w' := by
  rcases hn with ⟨h, rfl⟩ | ⟨h, rfl⟩ | ⟨h, rfl⟩ | ⟨⟨h1, h2, h3⟩, rfl⟩
  · have t1 : (s.toList == [80, 114, 105, 110, 99, 105, 112, 97, 108]) = true := by rw [list_principal]; exact decide_eq_true h
    clear h
    go_enter Try.func19, Try.ntmps19
    go_wp2
    go_ret
    exact ⟨rfl, rfl⟩
  · have t1 : (s.toList == [80, 114, 105, 110, 99, 105, 112, 97, 108]) = false := by rw [list_principal, h]; decide
    have t2 : (s.toList == [76, 97, 98, 101, 108]) = true := by rw [list_label]; exact decide_eq_true h
    clear h
    go_enter Try.func19, Try.ntmps19
    go_wp2
    go_ret
    exact ⟨rfl, rfl⟩
  · have t1 : (s.toList == [80, 114, 105, 110, 99, 105, 112, 97, 108]) = false := by rw [list_principal, h]; decide
    have t2 : (s.toList == [76, 97, 98, 101, 108]) = false := by rw [list_label, h]; decide
    have t3 : s.toList.isEmpty = true := by rw [list_empty]; exact decide_eq_true h
    clear h
    go_enter Try.func19, Try.ntmps19
    go_wp2
    go_ret
    exact ⟨rfl, rfl⟩
  · have t1 : (s.toList == [80, 114, 105, 110, 99, 105, 112, 97, 108]) = false := by rw [list_principal]; exact decide_eq_false h1
    have t2 : (s.toList == [76, 97, 98, 101, 108]) = false := by rw [list_label]; exact decide_eq_false h2
    have t3 : s.toList.isEmpty = false := by rw [list_empty]; exact decide_eq_false h3
    clear h1 h2 h3
    go_enter Try.func19, Try.ntmps19
    go_wp2
    go_ret
    exact ⟨rfl, rfl⟩

theorem noun12 (s n : ByteArray) (hn : Noun s n) (hs : s.size ≤ 70000) (w : World) :
    Calls Try.prog 12 #[.string s] w fun e w' => e = .returned (.string n) ∧ w = w' := by
  go_enter Try.func12, Try.ntmps12
  go_wp2_with fail
  refine (noun19 s n hn hs w).mono ?_
  rintro e w1 ⟨rfl, rfl⟩
  clear hn
  go_wp2
  go_ret
  exact ⟨rfl, rfl⟩

theorem bytes11_any (a b : ByteArray) (w : World) (ha : a.size ≤ maxLen) (hb : b.size ≤ maxLen) :
    Calls Try.prog 11 #[.string a, .string b] w fun e w' => Told True w e w' := by
  unfold maxLen at ha hb
  go_enter Try.func11, Try.ntmps11
  go_wp2
  all_goals
    go_ret
    first | exact ⟨false, rfl, fun _ => trivial, rfl⟩ | exact ⟨true, rfl, fun _ => trivial, rfl⟩

theorem size_noun {s n : ByteArray} (h : Noun s n) : (s = principalS ∧ n.size = 9) ∨ (s = labelS ∧ n.size = 5) ∨ (s = ⟨#[]⟩ ∧ n.size = 4) ∨ (n.size = 13 + s.size ∧ n = ofSort ++ s ∧ 0 < s.size) := by
  rcases h with ⟨h, rfl⟩ | ⟨h, rfl⟩ | ⟨h, rfl⟩ | ⟨⟨_, _, h3⟩, rfl⟩
  · exact .inl ⟨h, rfl⟩
  · exact .inr (.inl ⟨h, rfl⟩)
  · exact .inr (.inr (.inl ⟨h, rfl⟩))
  · refine .inr (.inr (.inr ⟨by rw [ByteArray.size_append]; rfl, rfl, ?_⟩))
    rcases Nat.eq_zero_or_pos s.size with h0 | h0
    · exact absurd (ByteArray.size_eq_zero_iff.1 h0) h3
    · exact h0

theorem noun_inj {a b m n : ByteArray} (ha : Noun a m) (hb : Noun b n) : m = n ↔ a = b := by
  constructor
  · intro h
    subst h
    rcases size_noun ha with ⟨h1, z1⟩ | ⟨h1, z1⟩ | ⟨h1, z1⟩ | ⟨z1, e1, p1⟩ <;> rcases size_noun hb with ⟨h2, z2⟩ | ⟨h2, z2⟩ | ⟨h2, z2⟩ | ⟨z2, e2, p2⟩
    all_goals first | (rw [h1, h2]; done) | (exfalso; omega) | skip
    apply bytes_inj
    have e := congrArg (fun x : ByteArray => x.data.toList) (e1.symm.trans e2)
    simp only [ByteArray.data_append, Array.toList_append] at e
    exact List.append_cancel_left e
  · intro h
    subst h
    unfold Noun at ha hb
    rcases ha with ⟨h1, rfl⟩ | ⟨h1, rfl⟩ | ⟨h1, rfl⟩ | ⟨⟨h1, h2, h3⟩, rfl⟩ <;> rcases hb with ⟨g1, rfl⟩ | ⟨g1, rfl⟩ | ⟨g1, rfl⟩ | ⟨⟨g1, g2, g3⟩, rfl⟩
    all_goals first | rfl | (exfalso; simp_all; done)

theorem noun_other {a m : ByteArray} (ha : Noun a m) : ¬ m = a := by
  intro h
  rcases ha with ⟨rfl, rfl⟩ | ⟨rfl, rfl⟩ | ⟨rfl, rfl⟩ | ⟨⟨h1, h2, h3⟩, rfl⟩
  · revert h; decide
  · revert h; decide
  · revert h; decide
  · have e := congrArg ByteArray.size h
    rw [ByteArray.size_append] at e
    have : ofSort.size = 13 := rfl
    omega

set_option maxRecDepth 100000 in
set_option maxHeartbeats 2000000 in
theorem noun_walk (a b : ByteArray) (ha : a.size ≤ maxLen) (hb : b.size ≤ maxLen) (w : World) :
    Calls Try.prog 4 #[.string a, .string b] w fun e w' => e = .returned (.bool true) ∧ Grown w w' := by
  obtain ⟨m, hm⟩ := noun_any a
  obtain ⟨n, hn⟩ := noun_any b
  have h0 : Noun ⟨#[]⟩ termN := .inr (.inr (.inl ⟨rfl, rfl⟩))
  have t1 : (m.toList == n.toList) = (a.toList == b.toList) := by rw [beq_list, beq_list]; exact decide_eq_decide.2 (noun_inj hm hn)
  have t2 : (m.toList == a.toList) = false := by rw [beq_list]; exact decide_eq_false (noun_other hm)
  go_enter Try.func4, Try.ntmps4
  go_wp2_with fail
  refine (bytes11_any a b w ha hb).mono ?_
  rintro e w1 ⟨r, rfl, _, hw⟩
  obtain rfl := hw.symm
  unfold maxLen at ha hb
  cases r
  · go_wp2
    go_ret
    exact ⟨rfl, Grown.refl _⟩
  by_cases ba : (65536 : Int) < (a.size : Int)
  · go_wp2
    go_ret
    exact ⟨rfl, Grown.refl _⟩
  by_cases bb : (65536 : Int) < (b.size : Int)
  · go_wp2
    go_ret
    exact ⟨rfl, Grown.refl _⟩
  go_wp2_with fail
  refine (noun12 a m hm (by omega) w).mono ?_
  rintro e w1 ⟨rfl, rfl⟩
  go_wp2_with fail
  refine (noun12 b n hn (by omega) w).mono ?_
  rintro e w1 ⟨rfl, rfl⟩
  go_wp2_with fail
  refine (noun12 ⟨#[]⟩ termN h0 (by decide) w).mono ?_
  rintro e w1 ⟨rfl, rfl⟩
  clear hn h0
  rcases hm with ⟨h, k⟩ | ⟨h, k⟩ | ⟨h, k⟩ | ⟨⟨h1, h2, h3⟩, k⟩
  · have u1 : (a.toList == [80, 114, 105, 110, 99, 105, 112, 97, 108]) = true := by rw [list_principal]; exact decide_eq_true h
    have u3 : (m.toList == (lowStr a).toList) = true := by rw [beq_list, h, k]; decide
    clear h k
    go_wp2_with (go_at_call 13; refine (lower_any a (by omega) w).mono ?_; rintro e w1 ⟨rfl, g1⟩)
    go_ret
    exact ⟨rfl, g1⟩
  · have u1 : (a.toList == [80, 114, 105, 110, 99, 105, 112, 97, 108]) = false := by rw [list_principal, h]; decide
    have u2 : (a.toList == [76, 97, 98, 101, 108]) = true := by rw [list_label]; exact decide_eq_true h
    have u3 : (m.toList == (lowStr a).toList) = true := by rw [beq_list, h, k]; decide
    clear h k
    go_wp2_with (go_at_call 13; refine (lower_any a (by omega) w).mono ?_; rintro e w1 ⟨rfl, g1⟩)
    go_ret
    exact ⟨rfl, g1⟩
  · have u1 : (a.toList == [80, 114, 105, 110, 99, 105, 112, 97, 108]) = false := by rw [list_principal, h]; decide
    have u2 : (a.toList == [76, 97, 98, 101, 108]) = false := by rw [list_label, h]; decide
    have u3 : a.toList.isEmpty = true := by rw [list_empty]; exact decide_eq_true h
    have u4 : (m.toList == [116, 101, 114, 109]) = true := by rw [k, ByteArray.toList_eq]; decide
    clear h k
    go_wp2
    go_ret
    exact ⟨rfl, Grown.refl _⟩
  · have u1 : (a.toList == [80, 114, 105, 110, 99, 105, 112, 97, 108]) = false := by rw [list_principal]; exact decide_eq_false h1
    have u2 : (a.toList == [76, 97, 98, 101, 108]) = false := by rw [list_label]; exact decide_eq_false h2
    have u3 : a.toList.isEmpty = false := by rw [list_empty]; exact decide_eq_false h3
    have U4 : Hid ((m.toList == (termN ++ (⟨#[32, 111, 102, 32, 115, 111, 114, 116, 32]⟩ : ByteArray) ++ a).toList) = true) := by
      show _ = _
      rw [beq_list, k]
      exact decide_eq_true rfl
    clear h1 h2 h3 k
    go_wp2
    go_ret
    exact ⟨congrArg (fun x : Bool => Ending.returned (Value.bool x)) U4.out, Grown.refl _⟩
end Go.Proofs.Qxb6621670a
