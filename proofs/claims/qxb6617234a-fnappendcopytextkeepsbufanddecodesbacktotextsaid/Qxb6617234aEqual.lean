import Derived.Test.Qxb6617234aParts
namespace Go.Proofs.Qxb6617234a
open Go.ChangeShapes Go.WideShapes Go.ChangeAt Go.RowKit

set_option maxRecDepth 100000 in
set_option maxHeartbeats 1000000 in
theorem equal_same (a0 a1 : Option Addr) (len c0 c1 : Nat) (zs : List Int) (w : World) (h0 : Shows w a0 len zs) (h1 : Shows w a1 len zs) :
    Calls Try.prog 8 #[.slice a0 len c0, .slice a1 len c1] w fun e w' => e = .returned (.bool true) ∧ Below w.heap.size w w' := by
  have ht := h0.top
  unfold maxLen at ht
  go_enter Try.func8, Try.ntmps8
  go_wp2
  go_loopw [5] (fun i wr => ∃ k : Nat, k ≤ len ∧ i = .int .i64 k ∧ Below w.heap.size w wr) (fun i _ => len - (intOf i).toNat)
  case atStart => exact ⟨0, Nat.zero_le _, rfl, Below.refl _ _⟩
  case round =>
    obtain ⟨k, hk, rfl, hb⟩ := hrel
    by_cases hlt : k < len
    · obtain ⟨b0, o0, e0, k0⟩ := (h0.later hb).at (by omega)
      obtain ⟨b1, o1, e1, k1⟩ := (h1.later hb).at (by omega)
      have g0 := k0 k hlt
      have g1 := k1 k hlt
      have HB : Hid (Below w.heap.size w wr) := hb
      subst e0
      subst e1
      clear k0 k1 h0 h1 hb
      generalize zs.getD k 0 = c at g0 g1
      go_wp2
      go_region
      all_goals
        go_wp2
        go_roundw
        case rel => exact ⟨k + 1, by omega, by go_num, HB.out.drew⟩
        case measure => simp [intOf]; omega
    · go_wp2
      go_ret
      exact ⟨rfl, hb⟩
end Go.Proofs.Qxb6617234a
