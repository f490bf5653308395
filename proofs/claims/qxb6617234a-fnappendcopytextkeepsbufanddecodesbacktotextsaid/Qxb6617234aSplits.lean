import Derived.Test.Qxb6617234aEqual
import Derived.Test.Qxb6617234aEsc
import Derived.Deep.RegionWith
namespace Go.Proofs.Qxb6617234a
open Go.ChangeShapes Go.WideShapes Go.ChangeAt Go.RowKit

/-- Some bool came back; the world is as it was. -/
def Told (w : World) (e : Ending) (w' : World) : Prop := ∃ r : Bool, e = .returned (.bool r) ∧ w = w'

theorem bytes5_any (a0 a1 : Option Addr) (l0 l1 c0 c1 : Nat) (i : Int) (w : World) (h0 : l0 ≤ maxLen) (h1 : l1 ≤ maxLen) :
    Calls Try.prog 5 #[.slice a0 l0 c0, .slice a1 l1 c1, .int .i64 i] w fun e w' => Told w e w' := by
  unfold maxLen at h0 h1
  go_enter Try.func5, Try.ntmps5
  go_wp2
  all_goals
    go_ret
    first | exact ⟨false, rfl, rfl⟩ | exact ⟨true, rfl, rfl⟩

theorem Has.of_clone {w w' : World} {v : Value} {len : Nat} {zs : List Int} (h : w'.ownsRow w.heap.size 5 1 v len (vs zs)) (hb : Below w.heap.size w w') : Has w w' v len zs := ⟨h, hb⟩

theorem Has.undrew {w w' : World} {v : Value} {n : Nat} {zs : List Int} (h : Has w.drew w' v n zs) : Has w w' v n zs := ⟨h.row, ((Below.refl _ _).drew).trans h.below⟩

theorem Shows.take {w : World} {ao : Option Addr} {len p : Nat} {zs : List Int} (h : Shows w ao len zs) (hp : p ≤ len) : Shows w ao p (zs.take p) := by
  refine ⟨by rw [List.length_take, h.num]; omega, Nat.le_trans hp h.top, fun i hi => ?_, fun i => ?_⟩
  · obtain ⟨a, e, hc⟩ := h.cells i (by omega)
    refine ⟨a, e, ?_⟩
    rw [hc]
    simp [List.getD, hi]
  · by_cases hi : i < p
    · have := h.byte i
      simpa [List.getD, hi] using this
    · rw [List.getD, List.getElem?_eq_none (by simp; omega)]
      simp

theorem add_add (a : Addr) (p i : Nat) : (a.add p).add i = a.add (p + i) := by
  unfold Addr.add
  by_cases h1 : p = 0
  · by_cases h2 : i = 0
    · simp [h1, h2]
    · simp [h1]
  · by_cases h2 : i = 0
    · simp [h2]
    · simp [h1, h2]
      omega

theorem Shows.drop {w : World} {ao : Option Addr} {len p : Nat} {zs : List Int} (h : Shows w ao len zs) (hp : p ≤ len) : Shows w (ao.map (fun x => x.add p)) (len - p) (zs.drop p) := by
  refine ⟨by rw [List.length_drop, h.num], by have := h.top; omega, fun i hi => ?_, fun i => ?_⟩
  · obtain ⟨a, rfl, hc⟩ := h.cells (p + i) (by omega)
    refine ⟨a.add p, rfl, ?_⟩
    rw [add_add, hc]
    simp [List.getD]
  · have := h.byte (p + i)
    simpa [List.getD] using this

theorem byte_append {a b : List Int} (h1 : ∀ i, 0 ≤ a.getD i 0 ∧ a.getD i 0 ≤ 255) (h2 : ∀ i, 0 ≤ b.getD i 0 ∧ b.getD i 0 ≤ 255) : ∀ i, 0 ≤ (a ++ b).getD i 0 ∧ (a ++ b).getD i 0 ≤ 255 := by
  intro i
  by_cases hi : i < a.length
  · have := h1 i
    simpa [List.getD, List.getElem?_append_left hi] using this
  · have := h2 (i - a.length)
    simpa [List.getD, List.getElem?_append_right (Nat.le_of_not_lt hi)] using this

theorem count_snoc (ts : List Int) (k : Nat) (h : k < ts.length) : count (ts.take (k + 1)) = count (ts.take k) + if sp (ts.getD k 0) = true then 1 else 0 := by
  rw [take_snoc ts k h]
  unfold count
  rw [List.filter_append, List.length_append]
  generalize ts.getD k 0 = c
  cases hs : sp c <;> simp [hs]

set_option maxRecDepth 100000 in
set_option maxHeartbeats 2000000 in
theorem splits_walk (a0 a1 : Option Addr) (l0 l1 c0 c1 : Nat) (i : Int) (zs ts : List Int) (w : World) (h0 : Shows w a0 l0 zs) (h1 : Shows w a1 l1 ts) (hc1 : a1 = none → c1 = 0) (hl1 : l1 ≤ c1) (hcm : c1 ≤ maxLen) :
    Calls Try.prog 3 #[.slice a0 l0 c0, .slice a1 l1 c1, .int .i64 i] w fun e w' => e = .returned (.bool true) ∧ Below w.heap.size w w' := by
  have qn : ∀ (w : World) (a : Option Addr) (n c n' c' : Nat), (binOp .neq 22 (.slice a n c) (.slice none n' c')).run Try.prog w = .ok (.bool (!a.isNone)) w := fun w a n c n' c' => run_neq_slice_nil_any w _ _ a n c n' c' Try.underlying22
  obtain ⟨i0, hi, hz0, hz1, hz2⟩ := info_parts info5
  have HC1 : Hid (a1 = none → c1 = 0) := hc1
  clear hc1
  go_enter Try.func3, Try.ntmps3
  go_wp2_with fail
  refine (bytes5_any a0 a1 l0 l1 c0 c1 i w h0.top h1.top).mono ?_
  rintro e w1 ⟨r, rfl, rfl⟩
  have t0 := h0.top
  have t1 := h1.top
  unfold maxLen at t0 t1
  cases r
  · go_wp2
    go_ret
    exact ⟨rfl, Below.refl _ _⟩
  by_cases big0 : (524288 : Int) < (l0 : Int)
  · go_wp2
    go_ret
    exact ⟨rfl, Below.refl _ _⟩
  by_cases big1 : (524288 : Int) < (l1 : Int)
  · go_wp2
    go_ret
    exact ⟨rfl, Below.refl _ _⟩
  by_cases hneg : i < 0
  · go_wp2
    go_ret
    exact ⟨rfl, Below.refl _ _⟩
  by_cases hfar : (l1 : Int) < i
  · go_wp2
    go_ret
    exact ⟨rfl, Below.refl _ _⟩
  obtain ⟨p, rfl⟩ := Int.eq_ofNat_of_zero_le (Int.not_lt.1 hneg)
  have hp : p ≤ l1 := by omega
  go_upto_if 32 with fail
  go_cut [1] (fun v wx => ∃ ao cap, v = .slice ao l1 cap ∧ Shows wx ao l1 ts ∧ (ao = none → cap = 0) ∧ l1 ≤ cap ∧ cap ≤ maxLen ∧ Below w.heap.size w wx)
  case first =>
    cases a1 with
    | none =>
      go_wp2
      go_meet
      case rel => exact ⟨none, c1, rfl, h1, fun _ => HC1.out trivial, hl1, hcm, Below.refl _ _⟩
    | some a =>
      have hcs : (vs ts).length = l1 := by rw [vs_length]; exact h1.num
      go_wp2_with (first | (at_make; refine wpList_make_full _ rfl (.tmp 34) (.tmp 34) 22 rfl w.heap.size 5 i0 (.int .u8 0) 1 Try.underlying22 hi hz0 hz1 .i64 .i64 _ _ l1 rfl rfl rfl rfl (by rw [hz2]; omega) (by unfold maxLen; omega) (Nat.le_refl _) ?_; intro w2 ho hg) | (refine wpList_copy_splice rfl (.tmp 36) (.tmp 37) 22 22 rfl 5 Try.underlying22 (by rw [hi]; simp [hz1]) _ _ _ _ _ _ rfl rfl w.heap.size 0 _ 5 (made_row ho).1 (vs ts) (by simp [hcs]) (fun _ => ⟨rfl, a, rfl, src (h1.later (below_grown hg))⟩) (by rw [(made_row ho).2.1, hcs]; omega) (vs_one ts) w.heap.size w (below_grown hg) (Nat.le_refl _) ?_; intro w3 hh hb))
      have O := owned_copy (base := w.heap.size) hh h1.num (made_row ho).2.1 (by unfold maxLen; omega) (Nat.le_refl _)
      have hm : l1 ≤ maxLen := by unfold maxLen; omega
      go_meet
      case rel =>
        obtain ⟨ao, cap, e, S, _⟩ := owned_shows O hm h1.byte
        simp only [Value.slice.injEq] at e
        obtain ⟨rfl, _, rfl⟩ := e
        exact ⟨_, l1, rfl, S, by simp, Nat.le_refl _, hm, hb⟩
  case rest =>
  obtain ⟨x1, k1, rfl, g1, hk1, hlk, hkm, b1⟩ := hcut
  obtain ⟨wA, hwA⟩ : ∃ x, x = wc := ⟨_, rfl⟩
  subst hwA
  have g0 := h0.later b1
  have HK1 : Hid (x1 = none → k1 = 0) := hk1
  clear h0 h1 HC1 hl1 hcm hk1
  go_wp2_with fail
  refine (clone_any a0 l0 c0 zs wA g0 (by omega)).mono ?_
  rintro e wB ⟨vB, rfl, oB, bB⟩
  go_wp2_with fail
  refine (zz_any wA vB l0 zs x1 l1 k1 ts wB g1 HK1.out (Has.of_clone oB bB) (by omega) (by omega)).mono ?_
  rintro e wC ⟨vC, mC, rfl, hC⟩
  clear oB bB
  have HCl : Hid (∀ W', Below wA.heap.size wA W' → Calls Try.prog 7 #[.slice a0 l0 c0] W' fun e w' => ∃ v, e = .returned v ∧ Has W' w' v l0 zs) := by
    intro W' hb
    exact (clone_any a0 l0 c0 zs W' (g0.later hb) (by omega)).mono fun e w' ⟨v, he, o, b⟩ => ⟨v, he, o, b⟩
  have HTk : Hid (∀ W', Below wA.heap.size wA W' → Shows W' x1 p (ts.take p)) := fun W' hb => (g1.later hb).take hp
  have HBC : Hid (Below wA.heap.size wA wC) := hC.below
  go_upto_region 14 with fail
  go_cut [9] (fun v wx => ∃ m, Has wC wx v m (zs ++ esc (ts.take p)))
  case first =>
    clear g0 g1 hC
    go_region_with (first | (go_at_call 7; refine (HCl.out _ ?_).mono ?_; exact HBC.out.drew; rintro e wD ⟨vD, rfl, hD⟩) | (go_at_call 6; refine (zz_any _ _ l0 zs x1 p k1 (ts.take p) _ ?_ HK1.out hD ?_ ?_).mono ?_; exact HTk.out _ HBC.out.drew; omega; omega; rintro e wE ⟨vE, mE, rfl, hE⟩))
    all_goals
      go_wp2_with fail
      go_meet
      exact ⟨mE, hE.undrew⟩
  case rest =>
  obtain ⟨mD, hD⟩ := hcut
  obtain ⟨wD, hwD⟩ : ∃ x, x = wc := ⟨_, rfl⟩
  subst hwD
  clear HCl HTk
  have hfull : zs ++ esc (ts.take p) ++ esc (ts.drop p) = zs ++ esc ts := by
    rw [List.append_assoc, ← esc_append, List.take_append_drop]
  have hmD : mD ≤ 4194304 := by
    have e1 := hD.num
    have e2 := esc_len (ts.take p)
    have e3 := count_le (ts.take p)
    have e4 : (ts.take p).length ≤ p := List.length_take_le _ _
    have e5 := g0.num
    rw [List.length_append] at e1
    omega
  have HF : Hid (zs ++ esc (ts.take p) ++ esc (ts.drop p) = zs ++ esc ts) := hfull
  have T1 : Shows wC x1 l1 ts := g1.later hC.below
  have T0 : Shows wC a0 l0 zs := g0.later hC.below
  clear hfull
  go_upto_region 15 with fail
  go_cut [1, 9] (fun t v wx => t = .slice x1 l1 k1 ∧ ∃ m, Has wC wx v m (zs ++ esc ts))
  case first =>
    clear g0 g1 hC HBC
    by_cases hkp : k1 = p
    · have hlp : l1 = p := by omega
      subst hkp
      subst hlp
      have D0 : Shows wC x1 0 (ts.drop l1) := by
        have hd : ts.drop l1 = [] := List.drop_eq_nil_of_le (by rw [T1.num]; exact Nat.le_refl _)
        rw [hd]
        exact ⟨rfl, Nat.zero_le _, fun i hi => absurd hi (Nat.not_lt_zero i), fun i => by simp [List.getD]⟩
      go_wp2_with fail
      refine (zz_any wC u9 mD _ x1 0 0 (ts.drop l1) wD D0 (fun _ => rfl) hD hmD (by omega)).mono ?_
      rintro e wE ⟨vE, mE, rfl, hE⟩
      rw [HF.out] at hE
      clear D0 HF
      go_wp2_with fail
      go_meet
      exact ⟨rfl, mE, hE⟩
    · have D0 := T1.drop hp
      have HK2 : Hid (x1.map (fun x => x.add p) = none → k1 - p = 0) := by
        intro h
        have := HK1.out (by simpa using h)
        omega
      go_wp2_with fail
      refine (zz_any wC u9 mD _ (x1.map (fun x => x.add p)) (l1 - p) (k1 - p) (ts.drop p) wD D0 HK2.out hD hmD (by omega)).mono ?_
      rintro e wE ⟨vE, mE, rfl, hE⟩
      rw [HF.out] at hE
      clear D0 HF HK2
      go_wp2_with fail
      go_meet
      exact ⟨rfl, mE, hE⟩
  case rest =>
  obtain ⟨rfl, mE, hE⟩ := hcut
  obtain ⟨wE, hwE⟩ : ∃ x, x = wc := ⟨_, rfl⟩
  subst hwE
  clear HF hD hmD
  have hbytes := byte_append g0.byte (esc_byte ts g1.byte)
  have nC : mC = l0 + (l1 + count ts) := by
    have e1 := hC.num
    rw [List.length_append, esc_len, g0.num, g1.num] at e1
    omega
  have nE : mE = l0 + (l1 + count ts) := by
    have e1 := hE.num
    rw [List.length_append, esc_len, g0.num, g1.num] at e1
    omega
  have hcnt : count ts ≤ l1 := by rw [← g1.num]; exact count_le ts
  subst nC
  subst nE
  obtain ⟨aC, cC, rfl, SC, _⟩ := owned_shows hC.row (by unfold maxLen; omega) hbytes
  obtain ⟨aE, cE, hv9, SE, _⟩ := owned_shows hE.row (by unfold maxLen; omega) hbytes
  have SC' := SC.later hE.below
  have T1' := T1.later hE.below
  have bE : Below w.heap.size w wE := (b1.trans (hC.below.mono b1.size)).trans (hE.below.mono (b1.trans (hC.below.mono b1.size)).size)
  subst hv9
  clear hC hE g0 g1 T0 T1 SC hbytes HBC b1
  go_wp2_with fail
  refine (equal_same aC aE (l0 + (l1 + count ts)) cC cE (zs ++ esc ts) wE SC' SE).mono ?_
  rintro e wF ⟨rfl, bF⟩
  have T2 := T1'.later bF
  have bG : Below w.heap.size w wF := bE.trans (bF.mono bE.size)
  clear SC' SE T1' bE bF
  go_wp2
  go_loop [10, 11] (fun s i => ∃ k : Nat, k ≤ l1 ∧ i = .int .i64 k ∧ s = .int .i64 (count (ts.take k))) (fun _ i => l1 - (intOf i).toNat)
  case atStart => exact ⟨0, Nat.zero_le _, rfl, rfl⟩
  case round =>
    obtain ⟨k, hk, rfl, rfl⟩ := hrel
    by_cases hlt : k < l1
    · obtain ⟨b, o, e, kc⟩ := T2.at (by omega)
      have g := kc k hlt
      subst e
      have hck : count (ts.take k) ≤ k := Nat.le_trans (count_le _) (List.length_take_le _ _)
      have HS : Hid (count (ts.take (k + 1)) = _) := count_snoc ts k (by rw [T2.num]; exact hlt)
      clear kc T2
      generalize ts.getD k 0 = c at g HS
      generalize count (ts.take k) = q at hck HS ⊢
      cases hs : sp c
      all_goals
        rw [hs] at HS
        go_wp2_with (go_at_call 9; refine (special_any c wF).mono ?_; rintro e wq ⟨rfl, rfl⟩; rw [hs])
        go_round
        case rel => exact ⟨k + 1, by omega, by go_num, by rw [HS.out]; go_num⟩
        case measure => simp [intOf]; omega
    · have e : ts.take k = ts := List.take_of_length_le (by rw [T2.num]; omega)
      rw [e]
      clear e
      have hsum : (((l0 : Int) + ((l1 : Int) + (count ts : Int))) == ((l0 : Int) + (l1 : Int) + (count ts : Int))) = true := beq_iff_eq.2 (by omega)
      go_wp2
      go_ret
      exact ⟨rfl, bG⟩
end Go.Proofs.Qxb6617234a
