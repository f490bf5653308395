import Derived.Test.Qxb6621670aRows
import Derived.WalkKit
import Derived.ProofKit
import Derived.WalkSpells
import Derived.WalkLawsBesides
namespace Go.Proofs.Qxb6621670a
open Go.ChangeShapes Go.WideShapes Go.ChangeAt Go.RowKit

/-- What 'binary' and 'docRank' answer for the kind a. -/
structure Kd (a p : Int) (r ok : Bool) (rank : Int) : Prop where
  bin : ∀ w, Calls Try.prog 7 #[.int .i64 a] w fun e w' => e = .returned (.tuple #[.int .i64 p, .bool r, .bool ok]) ∧ w = w'
  doc : ∀ w, Calls Try.prog 8 #[.int .i64 a] w fun e w' => e = .returned (.int .i64 rank) ∧ w = w'

theorem bin18 (a p : Int) (r ok : Bool) (h : (a = 16 ∧ p = 1 ∧ r = true ∧ ok = true) ∨ (a = 13 ∧ p = 2 ∧ r = false ∧ ok = true) ∨ (a = 14 ∧ p = 3 ∧ r = false ∧ ok = true)
    ∨ (((a == 16) = false ∧ (a == 13) = false ∧ (a == 14) = false) ∧ p = 0 ∧ r = false ∧ ok = false)) (w : World) :
    Calls Try.prog 18 #[.int .i64 a] w fun e w' => e = .returned (.tuple #[.int .i64 p, .bool r, .bool ok]) ∧ w = w' := by
  rcases h with ⟨rfl, rfl, rfl, rfl⟩ | ⟨rfl, rfl, rfl, rfl⟩ | ⟨rfl, rfl, rfl, rfl⟩ | ⟨⟨h1, h2, h3⟩, rfl, rfl, rfl⟩
  all_goals
    go_enter Try.func18, Try.ntmps18
    go_wp2
    go_ret3
    exact ⟨rfl, rfl⟩

theorem bin7 (a p : Int) (r ok : Bool) (h : (a = 16 ∧ p = 1 ∧ r = true ∧ ok = true) ∨ (a = 13 ∧ p = 2 ∧ r = false ∧ ok = true) ∨ (a = 14 ∧ p = 3 ∧ r = false ∧ ok = true)
    ∨ (((a == 16) = false ∧ (a == 13) = false ∧ (a == 14) = false) ∧ p = 0 ∧ r = false ∧ ok = false)) (w : World) :
    Calls Try.prog 7 #[.int .i64 a] w fun e w' => e = .returned (.tuple #[.int .i64 p, .bool r, .bool ok]) ∧ w = w' := by
  have H : Hid (∀ w, Calls Try.prog 18 #[.int .i64 a] w fun e w' => e = .returned (.tuple #[.int .i64 p, .bool r, .bool ok]) ∧ w = w') := bin18 a p r ok h
  clear h
  go_enter Try.func7, Try.ntmps7
  go_wp2_with fail
  refine (H.out w).mono ?_
  rintro e w1 ⟨rfl, rfl⟩
  go_wp2
  go_ret3
  exact ⟨rfl, rfl⟩

theorem doc8 (a k : Int) (h : (a = 16 ∧ k = 0) ∨ (a = 13 ∧ k = 1) ∨ (a = 14 ∧ k = 2) ∨ (((a == 16) = false ∧ (a == 13) = false ∧ (a == 14) = false) ∧ k = -1)) (w : World) :
    Calls Try.prog 8 #[.int .i64 a] w fun e w' => e = .returned (.int .i64 k) ∧ w = w' := by
  rcases h with ⟨rfl, rfl⟩ | ⟨rfl, rfl⟩ | ⟨rfl, rfl⟩ | ⟨⟨h1, h2, h3⟩, rfl⟩
  all_goals
    go_enter Try.func8, Try.ntmps8
    go_wp2
    go_ret
    exact ⟨rfl, rfl⟩

theorem kd_any (a : Int) : Kd a 1 true true 0 ∨ Kd a 2 false true 1 ∨ Kd a 3 false true 2 ∨ Kd a 0 false false (-1) := by
  by_cases h1 : a = 16
  · exact .inl ⟨bin7 _ _ _ _ (.inl ⟨h1, rfl, rfl, rfl⟩), doc8 _ _ (.inl ⟨h1, rfl⟩)⟩
  by_cases h2 : a = 13
  · exact .inr (.inl ⟨bin7 _ _ _ _ (.inr (.inl ⟨h2, rfl, rfl, rfl⟩)), doc8 _ _ (.inr (.inl ⟨h2, rfl⟩))⟩)
  by_cases h3 : a = 14
  · exact .inr (.inr (.inl ⟨bin7 _ _ _ _ (.inr (.inr (.inl ⟨h3, rfl, rfl, rfl⟩))), doc8 _ _ (.inr (.inr (.inl ⟨h3, rfl⟩)))⟩))
  · have g : (a == 16) = false ∧ (a == 13) = false ∧ (a == 14) = false := ⟨by simp [h1], by simp [h2], by simp [h3]⟩
    exact .inr (.inr (.inr ⟨bin7 _ _ _ _ (.inr (.inr (.inr ⟨g, rfl, rfl, rfl⟩))), doc8 _ _ (.inr (.inr (.inr ⟨g, rfl⟩)))⟩))

set_option maxHeartbeats 2000000 in
theorem binary_walk (a b : Int) (w : World) :
    Calls Try.prog 3 #[.int .i64 a, .int .i64 b] w fun e w' => e = .returned (.bool true) ∧ Grown w w' := by
  rcases kd_any a with ka | ka | ka | ka <;> rcases kd_any b with kb | kb | kb | kb
  all_goals
    go_enter Try.func3, Try.ntmps3
    go_wp2_with fail
    refine (ka.bin w).mono ?_
    rintro e w1 ⟨rfl, rfl⟩
    go_wp2_with fail
    refine (kb.bin w).mono ?_
    rintro e w1 ⟨rfl, rfl⟩
    go_wp2_with fail
    refine (ka.doc w).mono ?_
    rintro e w1 ⟨rfl, rfl⟩
    go_wp2_with fail
    refine (kb.doc w).mono ?_
    rintro e w1 ⟨rfl, rfl⟩
    go_wp2
    go_ret
    exact ⟨rfl, Grown.refl _⟩
end Go.Proofs.Qxb6621670a
