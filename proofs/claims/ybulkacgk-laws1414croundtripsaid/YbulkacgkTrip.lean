/-
  The walks of 'LawS1414CRoundTrip' (function 6), by which of the six names it is and whether the suffix is empty. Written by a program of mine (gen/tag_cases.py).
-/
import Derived.Test.YbulkacgkTag
import Derived.Lib.Strings
import Derived.Lib.SmallJoins
namespace Go.Proofs.Ybulkacgk
open Go.RowKit

theorem cat_toList (A : Array UInt8) (s : ByteArray) : ((⟨A⟩ : ByteArray) ++ s).toList = A.toList ++ s.toList := by
  rw [Lib.toList_data, Lib.toList_data, Joins.data_append]


set_option maxHeartbeats 1000000 in
set_option maxRecDepth 100000 in
theorem trip0_empty (a : Int) (s : ByteArray) (w : World) (h0 : 0 ≤ a) (h1 : a ≤ 255) (hi : a % 6 = 0) (hs : s.toList.isEmpty = true) :
    Calls Yba.prog 6 #[.int .u8 a, .string s] w fun e w' => e = .returned (.bool true) ∧ Grown w w' := by
  go_enter Yba.func6, Yba.ntmps6
  go_wp2_with fail
  refine (names_any _).mono ?_
  rintro e w1 ⟨rfl, rfl⟩
  go_wp2
  go_ret
  exact ⟨rfl, by repeat (first | exact Grown.refl _ | apply Grown.drew | apply Grown.alloc)⟩

set_option maxHeartbeats 1000000 in
set_option maxRecDepth 100000 in
theorem trip0_more (a : Int) (s : ByteArray) (w : World) (h0 : 0 ≤ a) (h1 : a ≤ 255) (hi : a % 6 = 0) (hs : s.toList.isEmpty = false) (hz : s.size ≤ 140737488351232) :
    Calls Yba.prog 6 #[.int .u8 a, .string s] w fun e w' => e = .returned (.bool true) ∧ Grown w w' := by
  obtain ⟨x, r, hx⟩ : ∃ x r, s.toList = x :: r := by
    cases h : s.toList with
    | nil => rw [h] at hs; cases hs
    | cons x r => exact ⟨x, r, rfl⟩
  have k0 : (((⟨#[97, 114, 103]⟩ : ByteArray) ++ s).toList == [97, 114, 103]) = false := by rw [cat_toList, hx]; simp
  have k1 : (((⟨#[97, 114, 103]⟩ : ByteArray) ++ s).toList == [99, 104, 111, 105, 99, 101, 115]) = false := by rw [cat_toList, hx]; simp
  have k2 : (((⟨#[97, 114, 103]⟩ : ByteArray) ++ s).toList == [100, 101, 102, 97, 117, 108, 116]) = false := by rw [cat_toList, hx]; simp
  have k3 : (((⟨#[97, 114, 103]⟩ : ByteArray) ++ s).toList == [97, 108, 105, 97, 115, 101, 115]) = false := by rw [cat_toList, hx]; simp
  have k4 : (((⟨#[97, 114, 103]⟩ : ByteArray) ++ s).toList == [104, 101, 108, 112]) = false := by rw [cat_toList, hx]; simp
  have k5 : (((⟨#[97, 114, 103]⟩ : ByteArray) ++ s).toList == [112, 108, 97, 99, 101, 104, 111, 108, 100, 101, 114]) = false := by rw [cat_toList, hx]; simp
  clear hx
  go_enter Yba.func6, Yba.ntmps6
  go_wp2_with fail
  refine (names_any _).mono ?_
  rintro e w1 ⟨rfl, rfl⟩
  go_wp2
  go_ret
  exact ⟨rfl, by repeat (first | exact Grown.refl _ | apply Grown.drew | apply Grown.alloc)⟩

set_option maxHeartbeats 1000000 in
set_option maxRecDepth 100000 in
theorem trip1_empty (a : Int) (s : ByteArray) (w : World) (h0 : 0 ≤ a) (h1 : a ≤ 255) (hi : a % 6 = 1) (hs : s.toList.isEmpty = true) :
    Calls Yba.prog 6 #[.int .u8 a, .string s] w fun e w' => e = .returned (.bool true) ∧ Grown w w' := by
  go_enter Yba.func6, Yba.ntmps6
  go_wp2_with fail
  refine (names_any _).mono ?_
  rintro e w1 ⟨rfl, rfl⟩
  go_wp2
  go_ret
  exact ⟨rfl, by repeat (first | exact Grown.refl _ | apply Grown.drew | apply Grown.alloc)⟩

set_option maxHeartbeats 1000000 in
set_option maxRecDepth 100000 in
theorem trip1_more (a : Int) (s : ByteArray) (w : World) (h0 : 0 ≤ a) (h1 : a ≤ 255) (hi : a % 6 = 1) (hs : s.toList.isEmpty = false) (hz : s.size ≤ 140737488351232) :
    Calls Yba.prog 6 #[.int .u8 a, .string s] w fun e w' => e = .returned (.bool true) ∧ Grown w w' := by
  obtain ⟨x, r, hx⟩ : ∃ x r, s.toList = x :: r := by
    cases h : s.toList with
    | nil => rw [h] at hs; cases hs
    | cons x r => exact ⟨x, r, rfl⟩
  have k0 : (((⟨#[99, 104, 111, 105, 99, 101, 115]⟩ : ByteArray) ++ s).toList == [97, 114, 103]) = false := by rw [cat_toList, hx]; simp
  have k1 : (((⟨#[99, 104, 111, 105, 99, 101, 115]⟩ : ByteArray) ++ s).toList == [99, 104, 111, 105, 99, 101, 115]) = false := by rw [cat_toList, hx]; simp
  have k2 : (((⟨#[99, 104, 111, 105, 99, 101, 115]⟩ : ByteArray) ++ s).toList == [100, 101, 102, 97, 117, 108, 116]) = false := by rw [cat_toList, hx]; simp
  have k3 : (((⟨#[99, 104, 111, 105, 99, 101, 115]⟩ : ByteArray) ++ s).toList == [97, 108, 105, 97, 115, 101, 115]) = false := by rw [cat_toList, hx]; simp
  have k4 : (((⟨#[99, 104, 111, 105, 99, 101, 115]⟩ : ByteArray) ++ s).toList == [104, 101, 108, 112]) = false := by rw [cat_toList, hx]; simp
  have k5 : (((⟨#[99, 104, 111, 105, 99, 101, 115]⟩ : ByteArray) ++ s).toList == [112, 108, 97, 99, 101, 104, 111, 108, 100, 101, 114]) = false := by rw [cat_toList, hx]; simp
  clear hx
  go_enter Yba.func6, Yba.ntmps6
  go_wp2_with fail
  refine (names_any _).mono ?_
  rintro e w1 ⟨rfl, rfl⟩
  go_wp2
  go_ret
  exact ⟨rfl, by repeat (first | exact Grown.refl _ | apply Grown.drew | apply Grown.alloc)⟩

set_option maxHeartbeats 1000000 in
set_option maxRecDepth 100000 in
theorem trip2_empty (a : Int) (s : ByteArray) (w : World) (h0 : 0 ≤ a) (h1 : a ≤ 255) (hi : a % 6 = 2) (hs : s.toList.isEmpty = true) :
    Calls Yba.prog 6 #[.int .u8 a, .string s] w fun e w' => e = .returned (.bool true) ∧ Grown w w' := by
  go_enter Yba.func6, Yba.ntmps6
  go_wp2_with fail
  refine (names_any _).mono ?_
  rintro e w1 ⟨rfl, rfl⟩
  go_wp2
  go_ret
  exact ⟨rfl, by repeat (first | exact Grown.refl _ | apply Grown.drew | apply Grown.alloc)⟩

set_option maxHeartbeats 1000000 in
set_option maxRecDepth 100000 in
theorem trip2_more (a : Int) (s : ByteArray) (w : World) (h0 : 0 ≤ a) (h1 : a ≤ 255) (hi : a % 6 = 2) (hs : s.toList.isEmpty = false) (hz : s.size ≤ 140737488351232) :
    Calls Yba.prog 6 #[.int .u8 a, .string s] w fun e w' => e = .returned (.bool true) ∧ Grown w w' := by
  obtain ⟨x, r, hx⟩ : ∃ x r, s.toList = x :: r := by
    cases h : s.toList with
    | nil => rw [h] at hs; cases hs
    | cons x r => exact ⟨x, r, rfl⟩
  have k0 : (((⟨#[100, 101, 102, 97, 117, 108, 116]⟩ : ByteArray) ++ s).toList == [97, 114, 103]) = false := by rw [cat_toList, hx]; simp
  have k1 : (((⟨#[100, 101, 102, 97, 117, 108, 116]⟩ : ByteArray) ++ s).toList == [99, 104, 111, 105, 99, 101, 115]) = false := by rw [cat_toList, hx]; simp
  have k2 : (((⟨#[100, 101, 102, 97, 117, 108, 116]⟩ : ByteArray) ++ s).toList == [100, 101, 102, 97, 117, 108, 116]) = false := by rw [cat_toList, hx]; simp
  have k3 : (((⟨#[100, 101, 102, 97, 117, 108, 116]⟩ : ByteArray) ++ s).toList == [97, 108, 105, 97, 115, 101, 115]) = false := by rw [cat_toList, hx]; simp
  have k4 : (((⟨#[100, 101, 102, 97, 117, 108, 116]⟩ : ByteArray) ++ s).toList == [104, 101, 108, 112]) = false := by rw [cat_toList, hx]; simp
  have k5 : (((⟨#[100, 101, 102, 97, 117, 108, 116]⟩ : ByteArray) ++ s).toList == [112, 108, 97, 99, 101, 104, 111, 108, 100, 101, 114]) = false := by rw [cat_toList, hx]; simp
  clear hx
  go_enter Yba.func6, Yba.ntmps6
  go_wp2_with fail
  refine (names_any _).mono ?_
  rintro e w1 ⟨rfl, rfl⟩
  go_wp2
  go_ret
  exact ⟨rfl, by repeat (first | exact Grown.refl _ | apply Grown.drew | apply Grown.alloc)⟩

set_option maxHeartbeats 1000000 in
set_option maxRecDepth 100000 in
theorem trip3_empty (a : Int) (s : ByteArray) (w : World) (h0 : 0 ≤ a) (h1 : a ≤ 255) (hi : a % 6 = 3) (hs : s.toList.isEmpty = true) :
    Calls Yba.prog 6 #[.int .u8 a, .string s] w fun e w' => e = .returned (.bool true) ∧ Grown w w' := by
  go_enter Yba.func6, Yba.ntmps6
  go_wp2_with fail
  refine (names_any _).mono ?_
  rintro e w1 ⟨rfl, rfl⟩
  go_wp2
  go_ret
  exact ⟨rfl, by repeat (first | exact Grown.refl _ | apply Grown.drew | apply Grown.alloc)⟩

set_option maxHeartbeats 1000000 in
set_option maxRecDepth 100000 in
theorem trip3_more (a : Int) (s : ByteArray) (w : World) (h0 : 0 ≤ a) (h1 : a ≤ 255) (hi : a % 6 = 3) (hs : s.toList.isEmpty = false) (hz : s.size ≤ 140737488351232) :
    Calls Yba.prog 6 #[.int .u8 a, .string s] w fun e w' => e = .returned (.bool true) ∧ Grown w w' := by
  obtain ⟨x, r, hx⟩ : ∃ x r, s.toList = x :: r := by
    cases h : s.toList with
    | nil => rw [h] at hs; cases hs
    | cons x r => exact ⟨x, r, rfl⟩
  have k0 : (((⟨#[97, 108, 105, 97, 115, 101, 115]⟩ : ByteArray) ++ s).toList == [97, 114, 103]) = false := by rw [cat_toList, hx]; simp
  have k1 : (((⟨#[97, 108, 105, 97, 115, 101, 115]⟩ : ByteArray) ++ s).toList == [99, 104, 111, 105, 99, 101, 115]) = false := by rw [cat_toList, hx]; simp
  have k2 : (((⟨#[97, 108, 105, 97, 115, 101, 115]⟩ : ByteArray) ++ s).toList == [100, 101, 102, 97, 117, 108, 116]) = false := by rw [cat_toList, hx]; simp
  have k3 : (((⟨#[97, 108, 105, 97, 115, 101, 115]⟩ : ByteArray) ++ s).toList == [97, 108, 105, 97, 115, 101, 115]) = false := by rw [cat_toList, hx]; simp
  have k4 : (((⟨#[97, 108, 105, 97, 115, 101, 115]⟩ : ByteArray) ++ s).toList == [104, 101, 108, 112]) = false := by rw [cat_toList, hx]; simp
  have k5 : (((⟨#[97, 108, 105, 97, 115, 101, 115]⟩ : ByteArray) ++ s).toList == [112, 108, 97, 99, 101, 104, 111, 108, 100, 101, 114]) = false := by rw [cat_toList, hx]; simp
  clear hx
  go_enter Yba.func6, Yba.ntmps6
  go_wp2_with fail
  refine (names_any _).mono ?_
  rintro e w1 ⟨rfl, rfl⟩
  go_wp2
  go_ret
  exact ⟨rfl, by repeat (first | exact Grown.refl _ | apply Grown.drew | apply Grown.alloc)⟩

set_option maxHeartbeats 1000000 in
set_option maxRecDepth 100000 in
theorem trip4_empty (a : Int) (s : ByteArray) (w : World) (h0 : 0 ≤ a) (h1 : a ≤ 255) (hi : a % 6 = 4) (hs : s.toList.isEmpty = true) :
    Calls Yba.prog 6 #[.int .u8 a, .string s] w fun e w' => e = .returned (.bool true) ∧ Grown w w' := by
  go_enter Yba.func6, Yba.ntmps6
  go_wp2_with fail
  refine (names_any _).mono ?_
  rintro e w1 ⟨rfl, rfl⟩
  go_wp2
  go_ret
  exact ⟨rfl, by repeat (first | exact Grown.refl _ | apply Grown.drew | apply Grown.alloc)⟩

set_option maxHeartbeats 1000000 in
set_option maxRecDepth 100000 in
theorem trip4_more (a : Int) (s : ByteArray) (w : World) (h0 : 0 ≤ a) (h1 : a ≤ 255) (hi : a % 6 = 4) (hs : s.toList.isEmpty = false) (hz : s.size ≤ 140737488351232) :
    Calls Yba.prog 6 #[.int .u8 a, .string s] w fun e w' => e = .returned (.bool true) ∧ Grown w w' := by
  obtain ⟨x, r, hx⟩ : ∃ x r, s.toList = x :: r := by
    cases h : s.toList with
    | nil => rw [h] at hs; cases hs
    | cons x r => exact ⟨x, r, rfl⟩
  have k0 : (((⟨#[104, 101, 108, 112]⟩ : ByteArray) ++ s).toList == [97, 114, 103]) = false := by rw [cat_toList, hx]; simp
  have k1 : (((⟨#[104, 101, 108, 112]⟩ : ByteArray) ++ s).toList == [99, 104, 111, 105, 99, 101, 115]) = false := by rw [cat_toList, hx]; simp
  have k2 : (((⟨#[104, 101, 108, 112]⟩ : ByteArray) ++ s).toList == [100, 101, 102, 97, 117, 108, 116]) = false := by rw [cat_toList, hx]; simp
  have k3 : (((⟨#[104, 101, 108, 112]⟩ : ByteArray) ++ s).toList == [97, 108, 105, 97, 115, 101, 115]) = false := by rw [cat_toList, hx]; simp
  have k4 : (((⟨#[104, 101, 108, 112]⟩ : ByteArray) ++ s).toList == [104, 101, 108, 112]) = false := by rw [cat_toList, hx]; simp
  have k5 : (((⟨#[104, 101, 108, 112]⟩ : ByteArray) ++ s).toList == [112, 108, 97, 99, 101, 104, 111, 108, 100, 101, 114]) = false := by rw [cat_toList, hx]; simp
  clear hx
  go_enter Yba.func6, Yba.ntmps6
  go_wp2_with fail
  refine (names_any _).mono ?_
  rintro e w1 ⟨rfl, rfl⟩
  go_wp2
  go_ret
  exact ⟨rfl, by repeat (first | exact Grown.refl _ | apply Grown.drew | apply Grown.alloc)⟩

set_option maxHeartbeats 1000000 in
set_option maxRecDepth 100000 in
theorem trip5_empty (a : Int) (s : ByteArray) (w : World) (h0 : 0 ≤ a) (h1 : a ≤ 255) (hi : a % 6 = 5) (hs : s.toList.isEmpty = true) :
    Calls Yba.prog 6 #[.int .u8 a, .string s] w fun e w' => e = .returned (.bool true) ∧ Grown w w' := by
  go_enter Yba.func6, Yba.ntmps6
  go_wp2_with fail
  refine (names_any _).mono ?_
  rintro e w1 ⟨rfl, rfl⟩
  go_wp2
  go_ret
  exact ⟨rfl, by repeat (first | exact Grown.refl _ | apply Grown.drew | apply Grown.alloc)⟩

set_option maxHeartbeats 1000000 in
set_option maxRecDepth 100000 in
theorem trip5_more (a : Int) (s : ByteArray) (w : World) (h0 : 0 ≤ a) (h1 : a ≤ 255) (hi : a % 6 = 5) (hs : s.toList.isEmpty = false) (hz : s.size ≤ 140737488351232) :
    Calls Yba.prog 6 #[.int .u8 a, .string s] w fun e w' => e = .returned (.bool true) ∧ Grown w w' := by
  obtain ⟨x, r, hx⟩ : ∃ x r, s.toList = x :: r := by
    cases h : s.toList with
    | nil => rw [h] at hs; cases hs
    | cons x r => exact ⟨x, r, rfl⟩
  have k0 : (((⟨#[112, 108, 97, 99, 101, 104, 111, 108, 100, 101, 114]⟩ : ByteArray) ++ s).toList == [97, 114, 103]) = false := by rw [cat_toList, hx]; simp
  have k1 : (((⟨#[112, 108, 97, 99, 101, 104, 111, 108, 100, 101, 114]⟩ : ByteArray) ++ s).toList == [99, 104, 111, 105, 99, 101, 115]) = false := by rw [cat_toList, hx]; simp
  have k2 : (((⟨#[112, 108, 97, 99, 101, 104, 111, 108, 100, 101, 114]⟩ : ByteArray) ++ s).toList == [100, 101, 102, 97, 117, 108, 116]) = false := by rw [cat_toList, hx]; simp
  have k3 : (((⟨#[112, 108, 97, 99, 101, 104, 111, 108, 100, 101, 114]⟩ : ByteArray) ++ s).toList == [97, 108, 105, 97, 115, 101, 115]) = false := by rw [cat_toList, hx]; simp
  have k4 : (((⟨#[112, 108, 97, 99, 101, 104, 111, 108, 100, 101, 114]⟩ : ByteArray) ++ s).toList == [104, 101, 108, 112]) = false := by rw [cat_toList, hx]; simp
  have k5 : (((⟨#[112, 108, 97, 99, 101, 104, 111, 108, 100, 101, 114]⟩ : ByteArray) ++ s).toList == [112, 108, 97, 99, 101, 104, 111, 108, 100, 101, 114]) = false := by rw [cat_toList, hx]; simp
  clear hx
  go_enter Yba.func6, Yba.ntmps6
  go_wp2_with fail
  refine (names_any _).mono ?_
  rintro e w1 ⟨rfl, rfl⟩
  go_wp2
  go_ret
  exact ⟨rfl, by repeat (first | exact Grown.refl _ | apply Grown.drew | apply Grown.alloc)⟩

theorem trip_any (a : Int) (s : ByteArray) (w : World) (h0 : 0 ≤ a) (h1 : a ≤ 255) (hz : s.size ≤ 140737488351232) : Calls Yba.prog 6 #[.int .u8 a, .string s] w fun e w' => e = .returned (.bool true) ∧ Grown w w' := by
  have hc : a % 6 = 0 ∨ a % 6 = 1 ∨ a % 6 = 2 ∨ a % 6 = 3 ∨ a % 6 = 4 ∨ a % 6 = 5 := by omega
  cases hs : s.toList.isEmpty with
  | true =>
    rcases hc with hi | hi | hi | hi | hi | hi
    · exact trip0_empty a s w h0 h1 hi hs
    · exact trip1_empty a s w h0 h1 hi hs
    · exact trip2_empty a s w h0 h1 hi hs
    · exact trip3_empty a s w h0 h1 hi hs
    · exact trip4_empty a s w h0 h1 hi hs
    · exact trip5_empty a s w h0 h1 hi hs
  | false =>
    rcases hc with hi | hi | hi | hi | hi | hi
    · exact trip0_more a s w h0 h1 hi hs hz
    · exact trip1_more a s w h0 h1 hi hs hz
    · exact trip2_more a s w h0 h1 hi hs hz
    · exact trip3_more a s w h0 h1 hi hs hz
    · exact trip4_more a s w h0 h1 hi hs hz
    · exact trip5_more a s w h0 h1 hi hs hz

end Go.Proofs.Ybulkacgk
