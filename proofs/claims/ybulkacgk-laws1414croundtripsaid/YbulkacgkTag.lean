/-
  'zzs1414cnames' (function 10) by its contract; the walks of 'LawS1414CTable' (function 5), by which of the six names it is. Written by a program of mine (gen/tag_cases.py).
-/
import Derived.Test.YbulkacgkRows
import Derived.WalkKit
import Derived.ProofKit
import Derived.WalkSpells
import Derived.WalkLawsBesides
namespace Go.Proofs.Ybulkacgk
open Go.RowKit

set_option maxHeartbeats 400000 in
set_option maxRecDepth 100000 in
theorem names_any (w : World) :
    Calls Yba.prog 10 #[] w fun e w' => e = .returned (.agg #[.string ⟨#[97, 114, 103]⟩, .string ⟨#[99, 104, 111, 105, 99, 101, 115]⟩, .string ⟨#[100, 101, 102, 97, 117, 108, 116]⟩, .string ⟨#[97, 108, 105, 97, 115, 101, 115]⟩, .string ⟨#[104, 101, 108, 112]⟩, .string ⟨#[112, 108, 97, 99, 101, 104, 111, 108, 100, 101, 114]⟩]) ∧ w' = w.alloc (.cells #[.string ⟨#[97, 114, 103]⟩, .string ⟨#[99, 104, 111, 105, 99, 101, 115]⟩, .string ⟨#[100, 101, 102, 97, 117, 108, 116]⟩, .string ⟨#[97, 108, 105, 97, 115, 101, 115]⟩, .string ⟨#[104, 101, 108, 112]⟩, .string ⟨#[112, 108, 97, 99, 101, 104, 111, 108, 100, 101, 114]⟩] 30) := by
  go_enter Yba.func10, Yba.ntmps10
  go_wp2
  exact bodyPost_ret (v := .agg #[.string ⟨#[97, 114, 103]⟩, .string ⟨#[99, 104, 111, 105, 99, 101, 115]⟩, .string ⟨#[100, 101, 102, 97, 117, 108, 116]⟩, .string ⟨#[97, 108, 105, 97, 115, 101, 115]⟩, .string ⟨#[104, 101, 108, 112]⟩, .string ⟨#[112, 108, 97, 99, 101, 104, 111, 108, 100, 101, 114]⟩]) (by simp [results, Yba.results10, go_sem]) rfl ⟨rfl, rfl⟩

set_option maxHeartbeats 1000000 in
set_option maxRecDepth 100000 in
theorem table0 (s : ByteArray) (w : World) (hs : s.toList = [97, 114, 103]) :
    Calls Yba.prog 5 #[.string s] w fun e w' => e = .returned (.bool true) ∧ Grown w w' := by
  go_enter Yba.func5, Yba.ntmps5
  go_wp2_with fail
  refine (names_any _).mono ?_
  rintro e w1 ⟨rfl, rfl⟩
  go_wp2_with fail
  refine wp_loop_rounds 1 ?_
  rw [rounds_succ]
  go_wp2
  go_ret
  exact ⟨rfl, by repeat (first | exact Grown.refl _ | apply Grown.drew | apply Grown.alloc)⟩

set_option maxHeartbeats 1000000 in
set_option maxRecDepth 100000 in
theorem table1 (s : ByteArray) (w : World) (hs : s.toList = [99, 104, 111, 105, 99, 101, 115]) :
    Calls Yba.prog 5 #[.string s] w fun e w' => e = .returned (.bool true) ∧ Grown w w' := by
  go_enter Yba.func5, Yba.ntmps5
  go_wp2_with fail
  refine (names_any _).mono ?_
  rintro e w1 ⟨rfl, rfl⟩
  go_wp2_with fail
  refine wp_loop_rounds 2 ?_
  rw [rounds_succ]
  go_wp2
  rw [rounds_succ]
  go_wp2
  go_ret
  exact ⟨rfl, by repeat (first | exact Grown.refl _ | apply Grown.drew | apply Grown.alloc)⟩

set_option maxHeartbeats 1000000 in
set_option maxRecDepth 100000 in
theorem table2 (s : ByteArray) (w : World) (hs : s.toList = [100, 101, 102, 97, 117, 108, 116]) :
    Calls Yba.prog 5 #[.string s] w fun e w' => e = .returned (.bool true) ∧ Grown w w' := by
  go_enter Yba.func5, Yba.ntmps5
  go_wp2_with fail
  refine (names_any _).mono ?_
  rintro e w1 ⟨rfl, rfl⟩
  go_wp2_with fail
  refine wp_loop_rounds 3 ?_
  rw [rounds_succ]
  go_wp2
  rw [rounds_succ]
  go_wp2
  rw [rounds_succ]
  go_wp2
  go_ret
  exact ⟨rfl, by repeat (first | exact Grown.refl _ | apply Grown.drew | apply Grown.alloc)⟩

set_option maxHeartbeats 1000000 in
set_option maxRecDepth 100000 in
theorem table3 (s : ByteArray) (w : World) (hs : s.toList = [97, 108, 105, 97, 115, 101, 115]) :
    Calls Yba.prog 5 #[.string s] w fun e w' => e = .returned (.bool true) ∧ Grown w w' := by
  go_enter Yba.func5, Yba.ntmps5
  go_wp2_with fail
  refine (names_any _).mono ?_
  rintro e w1 ⟨rfl, rfl⟩
  go_wp2_with fail
  refine wp_loop_rounds 4 ?_
  rw [rounds_succ]
  go_wp2
  rw [rounds_succ]
  go_wp2
  rw [rounds_succ]
  go_wp2
  rw [rounds_succ]
  go_wp2
  go_ret
  exact ⟨rfl, by repeat (first | exact Grown.refl _ | apply Grown.drew | apply Grown.alloc)⟩

set_option maxHeartbeats 1000000 in
set_option maxRecDepth 100000 in
theorem table4 (s : ByteArray) (w : World) (hs : s.toList = [104, 101, 108, 112]) :
    Calls Yba.prog 5 #[.string s] w fun e w' => e = .returned (.bool true) ∧ Grown w w' := by
  go_enter Yba.func5, Yba.ntmps5
  go_wp2_with fail
  refine (names_any _).mono ?_
  rintro e w1 ⟨rfl, rfl⟩
  go_wp2_with fail
  refine wp_loop_rounds 5 ?_
  rw [rounds_succ]
  go_wp2
  rw [rounds_succ]
  go_wp2
  rw [rounds_succ]
  go_wp2
  rw [rounds_succ]
  go_wp2
  rw [rounds_succ]
  go_wp2
  go_ret
  exact ⟨rfl, by repeat (first | exact Grown.refl _ | apply Grown.drew | apply Grown.alloc)⟩

set_option maxHeartbeats 1000000 in
set_option maxRecDepth 100000 in
theorem table5 (s : ByteArray) (w : World) (hs : s.toList = [112, 108, 97, 99, 101, 104, 111, 108, 100, 101, 114]) :
    Calls Yba.prog 5 #[.string s] w fun e w' => e = .returned (.bool true) ∧ Grown w w' := by
  go_enter Yba.func5, Yba.ntmps5
  go_wp2_with fail
  refine (names_any _).mono ?_
  rintro e w1 ⟨rfl, rfl⟩
  go_wp2_with fail
  refine wp_loop_rounds 6 ?_
  rw [rounds_succ]
  go_wp2
  rw [rounds_succ]
  go_wp2
  rw [rounds_succ]
  go_wp2
  rw [rounds_succ]
  go_wp2
  rw [rounds_succ]
  go_wp2
  rw [rounds_succ]
  go_wp2
  go_ret
  exact ⟨rfl, by repeat (first | exact Grown.refl _ | apply Grown.drew | apply Grown.alloc)⟩

set_option maxHeartbeats 1000000 in
set_option maxRecDepth 100000 in
theorem table_none (s : ByteArray) (w : World) (h0 : (s.toList == [97, 114, 103]) = false) (g0 : ([97, 114, 103] == s.toList) = false) (h1 : (s.toList == [99, 104, 111, 105, 99, 101, 115]) = false) (g1 : ([99, 104, 111, 105, 99, 101, 115] == s.toList) = false) (h2 : (s.toList == [100, 101, 102, 97, 117, 108, 116]) = false) (g2 : ([100, 101, 102, 97, 117, 108, 116] == s.toList) = false) (h3 : (s.toList == [97, 108, 105, 97, 115, 101, 115]) = false) (g3 : ([97, 108, 105, 97, 115, 101, 115] == s.toList) = false) (h4 : (s.toList == [104, 101, 108, 112]) = false) (g4 : ([104, 101, 108, 112] == s.toList) = false) (h5 : (s.toList == [112, 108, 97, 99, 101, 104, 111, 108, 100, 101, 114]) = false) (g5 : ([112, 108, 97, 99, 101, 104, 111, 108, 100, 101, 114] == s.toList) = false) :
    Calls Yba.prog 5 #[.string s] w fun e w' => e = .returned (.bool true) ∧ Grown w w' := by
  go_enter Yba.func5, Yba.ntmps5
  go_wp2_with fail
  refine (names_any _).mono ?_
  rintro e w1 ⟨rfl, rfl⟩
  go_wp2_with fail
  refine wp_loop_rounds 7 ?_
  rw [rounds_succ]
  go_wp2
  rw [rounds_succ]
  go_wp2
  rw [rounds_succ]
  go_wp2
  rw [rounds_succ]
  go_wp2
  rw [rounds_succ]
  go_wp2
  rw [rounds_succ]
  go_wp2
  rw [rounds_succ]
  go_wp2
  go_ret
  exact ⟨rfl, by repeat (first | exact Grown.refl _ | apply Grown.drew | apply Grown.alloc)⟩

theorem table_any (s : ByteArray) (w : World) : Calls Yba.prog 5 #[.string s] w fun e w' => e = .returned (.bool true) ∧ Grown w w' := by
  by_cases h0 : s.toList = [97, 114, 103]
  · exact table0 s w h0
  by_cases h1 : s.toList = [99, 104, 111, 105, 99, 101, 115]
  · exact table1 s w h1
  by_cases h2 : s.toList = [100, 101, 102, 97, 117, 108, 116]
  · exact table2 s w h2
  by_cases h3 : s.toList = [97, 108, 105, 97, 115, 101, 115]
  · exact table3 s w h3
  by_cases h4 : s.toList = [104, 101, 108, 112]
  · exact table4 s w h4
  by_cases h5 : s.toList = [112, 108, 97, 99, 101, 104, 111, 108, 100, 101, 114]
  · exact table5 s w h5
  exact table_none s w (by simpa using h0) (by simpa using fun e => h0 e.symm) (by simpa using h1) (by simpa using fun e => h1 e.symm) (by simpa using h2) (by simpa using fun e => h2 e.symm) (by simpa using h3) (by simpa using fun e => h3 e.symm) (by simpa using h4) (by simpa using fun e => h4 e.symm) (by simpa using h5) (by simpa using fun e => h5 e.symm)

end Go.Proofs.Ybulkacgk
