import Derived.Test.Qxb6621670aRows
import Derived.WalkKit
import Derived.ProofKit
import Derived.WalkSpells
import Derived.WalkLawsBesides
namespace Go.Proofs.Qxb6621670a
open Go.ChangeShapes Go.WideShapes Go.ChangeAt Go.RowKit

/-- Some bool came back; where it is true, p holds; the world is as it was. -/
def Told (p : Prop) (w : World) (e : Ending) (w' : World) : Prop := ∃ r : Bool, e = .returned (.bool r) ∧ (r = true → p) ∧ w' = w

theorem grown_trans {a b c : World} (h : Grown a b) (k : Grown b c) : Grown a c :=
  ⟨World.keptBut_trans h.1 k.1, fun x => (k.2.1 x).trans (h.2.1 x), Nat.le_trans h.2.2 k.2.2⟩

theorem bytes16_any (t : ByteArray) (l c : Int) (w : World) (h : t.size ≤ maxLen) :
    Calls Try.prog 16 #[.string t, .int .i64 l, .int .i64 c] w fun e w' => Told (t.size ≤ 1048576) w e w' := by
  unfold maxLen at h
  go_enter Try.func16, Try.ntmps16
  go_wp2
  · go_ret; exact ⟨false, rfl, by simp, rfl⟩
  · go_ret; exact ⟨true, rfl, fun _ => by omega, rfl⟩

theorem name_any (t : ByteArray) (l c : Int) (w : World) :
    Calls Try.prog 17 #[.agg #[.int .i64 1, .string t, .int .i64 l, .int .i64 c]] w fun e w' => e = .returned (.tuple #[.string t, .bool true]) ∧ Grown w w' := by
  go_enter Try.func17, Try.ntmps17
  go_wp2
  go_ret2
  exact ⟨rfl, by repeat (first | exact Grown.refl _ | apply Grown.drew | apply Grown.alloc)⟩

theorem string_any (t : ByteArray) (l c : Int) (w : World) (h2 : 2 ≤ t.size) (hm : t.size ≤ 70000) :
    Calls Try.prog 17 #[.agg #[.int .i64 2, .string t, .int .i64 l, .int .i64 c]] w fun e w' => e = .returned (.tuple #[.string (t.extract 1 (t.size - 1)), .bool true]) ∧ Grown w w' := by
  go_enter Try.func17, Try.ntmps17
  go_wp2
  go_ret2
  exact ⟨rfl, by repeat (first | exact Grown.refl _ | apply Grown.drew | apply Grown.alloc)⟩

theorem quoted_size (t : ByteArray) : ((⟨#[34]⟩ : ByteArray) ++ t ++ (⟨#[34]⟩ : ByteArray)).size = t.size + 2 := by
  rw [ByteArray.size_append, ByteArray.size_append]
  have e : (⟨#[34]⟩ : ByteArray).size = 1 := rfl
  omega

theorem quoted_inside (t : ByteArray) : ((⟨#[34]⟩ : ByteArray) ++ t ++ (⟨#[34]⟩ : ByteArray)).extract 1 (((⟨#[34]⟩ : ByteArray) ++ t ++ (⟨#[34]⟩ : ByteArray)).size - 1) = t := by
  rw [quoted_size]
  apply bytes_inj
  rw [ByteArray.data_extract, ByteArray.data_append, ByteArray.data_append]
  simp [List.extract_eq_take_drop]

theorem spelled_walk (t : ByteArray) (l c : Int) (h : t.size ≤ maxLen) (w : World) :
    Calls Try.prog 6 #[.string t, .int .i64 l, .int .i64 c] w fun e w' => e = .returned (.bool true) ∧ Grown w w' := by
  go_enter Try.func6, Try.ntmps6
  go_wp2_with fail
  refine (bytes16_any t l c w h).mono ?_
  rintro e w1 ⟨r, rfl, hr, hw⟩
  obtain rfl := hw.symm
  unfold maxLen at h
  cases r
  · go_wp2
    go_ret
    exact ⟨rfl, Grown.refl _⟩
  · clear hr
    by_cases hb : (65536 : Int) < (t.size : Int)
    · go_wp2
      go_ret
      exact ⟨rfl, Grown.refl _⟩
    · go_wp2_with fail
      refine (name_any t l c w).mono ?_
      rintro e w2 ⟨rfl, g2⟩
      go_wp2_with fail
      refine (string_any _ c l w2 (by rw [quoted_size]; omega) (by rw [quoted_size]; omega)).mono ?_
      rintro e w3 ⟨rfl, g3⟩
      rw [quoted_inside]
      go_wp2
      go_ret
      exact ⟨rfl, grown_trans g2 g3⟩
end Go.Proofs.Qxb6621670a
