import Derived.Test.Qxb6617262aRows
import Derived.WalkKit
import Derived.ProofKit
import Derived.WalkSpells
import Derived.WalkLawsBesides
namespace Go.Proofs.Qxb6617262a
open Go.ChangeShapes Go.WideShapes Go.ChangeAt Go.RowKit

/-- Some bool came back; the world is as it was. -/
def Told (w : World) (e : Ending) (w' : World) : Prop := ∃ r : Bool, e = .returned (.bool r) ∧ w = w'

theorem bytes4_any (a b : ByteArray) (o : Bool) (c d : ByteArray) (w : World) (ha : a.size ≤ maxLen) (hb : b.size ≤ maxLen) (hc : c.size ≤ maxLen) (hd : d.size ≤ maxLen) :
    Calls Try.prog 4 #[.string a, .string b, .bool o, .string c, .string d] w fun e w' => Told w e w' := by
  unfold maxLen at ha hb hc hd
  go_enter Try.func4, Try.ntmps4
  go_wp2
  all_goals
    go_ret
    first | exact ⟨false, rfl, rfl⟩ | exact ⟨true, rfl, rfl⟩

theorem in_own (b : Nat) (fault name : ByteArray) (w : World) (h2 : w.cell? ⟨b, 2, none⟩ = some (.bool true)) (h1 : w.cell? ⟨b, 1, none⟩ = some (.string fault)) (hf : fault.size ≤ 262144) (hn : name.size ≤ 262144) :
    Calls Try.prog 7 #[.pointer (some ⟨b, 0, none⟩), .string name] w fun e w' => e = .returned (.string (name ++ (⟨#[32]⟩ : ByteArray) ++ fault)) ∧ w = w' := by
  go_enter Try.func7, Try.ntmps7
  go_wp2
  go_ret
  exact ⟨rfl, rfl⟩

theorem in_other (b : Nat) (item fault name : ByteArray) (w : World) (h2 : w.cell? ⟨b, 2, none⟩ = some (.bool false)) (h0 : w.cell? ⟨b, 0, none⟩ = some (.string item)) (h1 : w.cell? ⟨b, 1, none⟩ = some (.string fault)) (hi : item.size ≤ 262144) (hf : fault.size ≤ 262144) (hn : name.size ≤ 262144) :
    Calls Try.prog 7 #[.pointer (some ⟨b, 0, none⟩), .string name] w fun e w' => e = .returned (.string (item ++ (⟨#[32, 119, 105, 116, 104, 105, 110, 32]⟩ : ByteArray) ++ name ++ (⟨#[32]⟩ : ByteArray) ++ fault)) ∧ w.drew = w' := by
  go_enter Try.func7, Try.ntmps7
  go_wp2
  go_region
  go_wp2
  go_ret
  exact ⟨rfl, rfl⟩

theorem zin_own (b : Nat) (fault name : ByteArray) (w : World) (h2 : w.cell? ⟨b, 2, none⟩ = some (.bool true)) (h1 : w.cell? ⟨b, 1, none⟩ = some (.string fault)) (hf : fault.size ≤ 262144) (hn : name.size ≤ 262144) :
    Calls Try.prog 6 #[.pointer (some ⟨b, 0, none⟩), .string name] w fun e w' => e = .returned (.string (name ++ (⟨#[32]⟩ : ByteArray) ++ fault)) ∧ w = w' := by
  go_enter Try.func6, Try.ntmps6
  go_wp2_with fail
  refine (in_own b fault name w h2 h1 hf hn).mono ?_
  rintro e w1 ⟨rfl, rfl⟩
  go_wp2
  go_ret
  exact ⟨rfl, rfl⟩

theorem zin_other (b : Nat) (item fault name : ByteArray) (w : World) (h2 : w.cell? ⟨b, 2, none⟩ = some (.bool false)) (h0 : w.cell? ⟨b, 0, none⟩ = some (.string item)) (h1 : w.cell? ⟨b, 1, none⟩ = some (.string fault)) (hi : item.size ≤ 262144) (hf : fault.size ≤ 262144) (hn : name.size ≤ 262144) :
    Calls Try.prog 6 #[.pointer (some ⟨b, 0, none⟩), .string name] w fun e w' => e = .returned (.string (item ++ (⟨#[32, 119, 105, 116, 104, 105, 110, 32]⟩ : ByteArray) ++ name ++ (⟨#[32]⟩ : ByteArray) ++ fault)) ∧ w.drew = w' := by
  go_enter Try.func6, Try.ntmps6
  go_wp2_with fail
  refine (in_other b item fault name w h2 h0 h1 hi hf hn).mono ?_
  rintro e w1 ⟨rfl, rfl⟩
  go_wp2
  go_ret
  exact ⟨rfl, rfl⟩

theorem new_any (item fault : ByteArray) (o : Bool) (w : World) :
    Calls Try.prog 5 #[.string item, .string fault, .bool o] w fun e w' => e = .returned (.pointer (some ⟨w.heap.size, 0, none⟩)) ∧ w.alloc (.cells #[.string item, .string fault, .bool o] 27) = w' := by
  go_enter Try.func5, Try.ntmps5
  go_wp2
  go_ret
  exact ⟨rfl, rfl⟩

theorem beq_list {x y : ByteArray} : (x.toList == y.toList) = decide (x = y) := by
  rw [ByteArray.toList_eq, ByteArray.toList_eq, Bool.eq_iff_iff, beq_iff_eq, decide_eq_true_eq]
  exact ⟨bytes_inj, fun h => by rw [h]⟩

theorem cancel_right {a b c : ByteArray} (h : a ++ c = b ++ c) : a = b := by
  apply bytes_inj
  have e := congrArg (fun x : ByteArray => x.data.toList) h
  simp only [ByteArray.data_append, Array.toList_append] at e
  exact List.append_cancel_right e
theorem cancel_left {a b c : ByteArray} (h : c ++ a = c ++ b) : a = b := by
  apply bytes_inj
  have e := congrArg (fun x : ByteArray => x.data.toList) h
  simp only [ByteArray.data_append, Array.toList_append] at e
  exact List.append_cancel_left e

theorem own_eq (m n f s : ByteArray) : ((m ++ s ++ f).toList == (n ++ s ++ f).toList) = (m.toList == n.toList) := by
  rw [beq_list, beq_list]
  exact decide_eq_decide.2 ⟨fun h => cancel_right (cancel_right h), fun h => by rw [h]⟩
theorem other_eq (i k m n f s : ByteArray) : ((i ++ k ++ m ++ s ++ f).toList == (i ++ k ++ n ++ s ++ f).toList) = (m.toList == n.toList) := by
  rw [beq_list, beq_list]
  exact decide_eq_decide.2 ⟨fun h => cancel_left (cancel_right (cancel_right h)), fun h => by rw [h]⟩

set_option maxRecDepth 100000 in
set_option maxHeartbeats 2000000 in
theorem tells_walk (item fault : ByteArray) (o : Bool) (m n : ByteArray) (hi : item.size ≤ maxLen) (hf : fault.size ≤ maxLen) (hm : m.size ≤ maxLen) (hn : n.size ≤ maxLen) (w : World) :
    Calls Try.prog 3 #[.string item, .string fault, .bool o, .string m, .string n] w fun e w' => e = .returned (.bool true) ∧ Grown w w' := by
  go_enter Try.func3, Try.ntmps3
  go_wp2_with fail
  refine (bytes4_any item fault o m n w hi hf hm hn).mono ?_
  rintro e w1 ⟨r, rfl, rfl⟩
  unfold maxLen at hi hf hm hn
  cases r
  · go_wp2
    go_ret
    exact ⟨rfl, Grown.refl _⟩
  by_cases b1 : (262144 : Int) < (item.size : Int)
  · go_wp2
    go_ret
    exact ⟨rfl, Grown.refl _⟩
  by_cases b2 : (262144 : Int) < (fault.size : Int)
  · go_wp2
    go_ret
    exact ⟨rfl, Grown.refl _⟩
  by_cases b3 : (262144 : Int) < (m.size : Int)
  · go_wp2
    go_ret
    exact ⟨rfl, Grown.refl _⟩
  by_cases b4 : (262144 : Int) < (n.size : Int)
  · go_wp2
    go_ret
    exact ⟨rfl, Grown.refl _⟩
  go_wp2_with fail
  refine (new_any item fault o w).mono ?_
  rintro e w1 ⟨rfl, rfl⟩
  have k0 := World.cell?_alloc_mark w #[.string item, .string fault, .bool o] 27 (0, 0) 0
  have k1 := World.cell?_alloc_mark w #[.string item, .string fault, .bool o] 27 (0, 0) 1
  have k2 := World.cell?_alloc_mark w #[.string item, .string fault, .bool o] 27 (0, 0) 2
  have K0 : Hid ((w.alloc (.cells #[.string item, .string fault, .bool o] 27)).cell? ⟨w.heap.size, 0, none⟩ = some (.string item)) := k0
  have K1 : Hid ((w.alloc (.cells #[.string item, .string fault, .bool o] 27)).cell? ⟨w.heap.size, 1, none⟩ = some (.string fault)) := k1
  have K2 : Hid ((w.alloc (.cells #[.string item, .string fault, .bool o] 27)).cell? ⟨w.heap.size, 2, none⟩ = some (.bool o)) := k2
  clear k0 k1 k2
  cases o
  · go_wp2_with fail
    refine (zin_other w.heap.size item fault m _ K2.out K0.out K1.out (by omega) (by omega) (by omega)).mono ?_
    rintro e w1 ⟨rfl, rfl⟩
    go_wp2_with fail
    refine (zin_other w.heap.size item fault n (w.alloc (.cells #[.string item, .string fault, .bool false] 27)).drew K2.out K0.out K1.out (by omega) (by omega) (by omega)).mono ?_
    rintro e w1 ⟨rfl, rfl⟩
    have t1 := other_eq item ⟨#[32, 119, 105, 116, 104, 105, 110, 32]⟩ m n fault ⟨#[32]⟩
    have z1 : (item ++ (⟨#[32, 119, 105, 116, 104, 105, 110, 32]⟩ : ByteArray) ++ m ++ (⟨#[32]⟩ : ByteArray) ++ fault).size = m.size + 1 + fault.size + (item.size + 8) := by
      simp only [ByteArray.size_append]
      have e1 : (⟨#[32, 119, 105, 116, 104, 105, 110, 32]⟩ : ByteArray).size = 8 := rfl
      have e2 : (⟨#[32]⟩ : ByteArray).size = 1 := rfl
      omega
    have z2 : (item ++ (⟨#[32, 119, 105, 116, 104, 105, 110, 32]⟩ : ByteArray) ++ n ++ (⟨#[32]⟩ : ByteArray) ++ fault).size = n.size + 1 + fault.size + (item.size + 8) := by
      simp only [ByteArray.size_append]
      have e1 : (⟨#[32, 119, 105, 116, 104, 105, 110, 32]⟩ : ByteArray).size = 8 := rfl
      have e2 : (⟨#[32]⟩ : ByteArray).size = 1 := rfl
      omega
    generalize item ++ (⟨#[32, 119, 105, 116, 104, 105, 110, 32]⟩ : ByteArray) ++ m ++ (⟨#[32]⟩ : ByteArray) ++ fault = A at t1 z1 ⊢
    generalize item ++ (⟨#[32, 119, 105, 116, 104, 105, 110, 32]⟩ : ByteArray) ++ n ++ (⟨#[32]⟩ : ByteArray) ++ fault = B at t1 z2 ⊢
    have v1 : ((A.size : Int) == (m.size : Int) + 1 + (fault.size : Int) + ((item.size : Int) + 8)) = true := beq_iff_eq.2 (by omega)
    have v2 : ((B.size : Int) == (n.size : Int) + 1 + (fault.size : Int) + ((item.size : Int) + 8)) = true := beq_iff_eq.2 (by omega)
    have s1 : A.size ≤ 2000000 := by omega
    have s2 : B.size ≤ 2000000 := by omega
    clear z1 z2 K0 K1 K2
    go_wp2
    go_ret
    exact ⟨rfl, by repeat (first | exact Grown.refl _ | apply Grown.drew | apply Grown.alloc)⟩
  · go_wp2_with fail
    refine (zin_own w.heap.size fault m _ K2.out K1.out (by omega) (by omega)).mono ?_
    rintro e w1 ⟨rfl, rfl⟩
    go_wp2_with fail
    refine (zin_own w.heap.size fault n _ K2.out K1.out (by omega) (by omega)).mono ?_
    rintro e w1 ⟨rfl, rfl⟩
    have t1 := own_eq m n fault ⟨#[32]⟩
    have z1 : (m ++ (⟨#[32]⟩ : ByteArray) ++ fault).size = m.size + 1 + fault.size := by
      simp only [ByteArray.size_append]
      have e2 : (⟨#[32]⟩ : ByteArray).size = 1 := rfl
      omega
    have z2 : (n ++ (⟨#[32]⟩ : ByteArray) ++ fault).size = n.size + 1 + fault.size := by
      simp only [ByteArray.size_append]
      have e2 : (⟨#[32]⟩ : ByteArray).size = 1 := rfl
      omega
    generalize m ++ (⟨#[32]⟩ : ByteArray) ++ fault = A at t1 z1 ⊢
    generalize n ++ (⟨#[32]⟩ : ByteArray) ++ fault = B at t1 z2 ⊢
    have v1 : ((A.size : Int) == (m.size : Int) + 1 + (fault.size : Int)) = true := beq_iff_eq.2 (by omega)
    have v2 : ((B.size : Int) == (n.size : Int) + 1 + (fault.size : Int)) = true := beq_iff_eq.2 (by omega)
    have s1 : A.size ≤ 2000000 := by omega
    have s2 : B.size ≤ 2000000 := by omega
    clear z1 z2 K0 K1 K2
    go_wp2
    go_ret
    exact ⟨rfl, by repeat (first | exact Grown.refl _ | apply Grown.drew | apply Grown.alloc)⟩
end Go.Proofs.Qxb6617262a
