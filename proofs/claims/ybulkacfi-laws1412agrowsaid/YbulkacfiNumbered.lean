/-
  The contract of 'group.Numbered' (function 7): a new row of n cells, the numbers 1 .. n; nothing old has turned.
-/
import Derived.Test.YbulkacfiRows
import Derived.WalkKit
import Derived.ProofKit
namespace Go.Proofs.Ybulkacfi
open Go.RowKit

theorem Yba.info3 : (Yba.prog.info? 3).map (fun i => (i.zero, i.size, i.bytes)) = some (some (.int .i64 0), 1, 8) := by kernel_rfl

/-- Behind k rounds: the first k cells are 1 .. k, the rest noughts. -/
def numRow (n k : Nat) : List Value := (List.range n).map fun j => if j < k then Value.int .i64 ((j : Int) + 1) else Value.int .i64 0

theorem numRow_zero (n : Nat) : (madeCells (Value.cells (.int .i64 0)) (n * 1)).toList = numRow n 0 := by
  rw [Nat.mul_one]
  show (madeCells #[Value.int .i64 0] n).toList = _
  rw [toList_madeCells_one]
  apply List.ext_getElem?
  intro j
  by_cases hj : j < n <;> simp [numRow, hj]

theorem numRow_set (n k : Nat) : (numRow n k).set k (.int .i64 ((k : Int) + 1)) = numRow n (k + 1) := by
  apply List.ext_getElem?
  intro j
  rw [List.getElem?_set]
  by_cases hj : j < n
  · by_cases hk : k = j
    · subst hk
      simp [numRow, hj]
    · simp only [numRow, List.getElem?_map, List.getElem?_range hj, if_neg hk, Option.map_some]
      by_cases h2 : j < k
      · rw [if_pos h2, if_pos (by omega)]
      · rw [if_neg h2, if_neg (by omega)]
  · by_cases hk : k = j <;> simp [numRow, hj, hk]

theorem numRow_at (n j : Nat) (hj : j < n) : (numRow n n)[j]? = some (.int .i64 ((j : Int) + 1)) := by
  simp [numRow, hj]

theorem numRow_length (n k : Nat) : (numRow n k).length = n := by simp [numRow]

set_option maxHeartbeats 400000 in
set_option maxRecDepth 100000 in
theorem numbered_any (n : Nat) (w : World) (hn : n ≤ 100000) :
    Calls Yba.prog 7 #[.int .i64 n] w fun e w' => e = .returned (.slice (some ⟨w.heap.size, 0, none⟩) n n) ∧
      w'.ownsRow w.heap.size 3 1 (.slice (some ⟨w.heap.size, 0, none⟩) n n) n (numRow n n) ∧ Below w.heap.size w w' := by
  obtain ⟨i0, hi, hz0, hz1, hz2⟩ := info_parts Yba.info3
  go_enter Yba.func7, Yba.ntmps7
  go_wp2_with (at_make; refine wpList_make_full _ rfl _ _ 22 rfl w.heap.size 3 i0 (.int .i64 0) 1 Yba.underlying22 hi hz0 hz1 _ _ _ _ n rfl rfl rfl rfl (by rw [hz2]; omega) (by unfold maxLen; omega) (Nat.le_refl _) ?_; intro w1 hown1 hgrow1; rw [numRow_zero] at hown1)
  go_loopw [9] (fun i wr => ∃ k : Nat, k ≤ n ∧ i = .int .i64 k ∧ wr.ownsRow w.heap.size 3 1 (.slice (some ⟨w.heap.size, 0, none⟩) n n) n (numRow n k) ∧ Below w.heap.size w wr)
    (fun i _ => n - (intOf i).toNat)
  case atStart => exact ⟨0, Nat.zero_le _, rfl, hown1, (Below.refl _ _).grown hgrow1 (Nat.le_refl _) (fun j hj => by cases hj)⟩
  case round =>
    obtain ⟨k, hk, rfl, hown, hnx⟩ := hrel
    by_cases hlt : k < n
    · have hcell : wr.cell? ⟨w.heap.size, k, none⟩ = (numRow n k)[k]? := hown.cellAt k (by omega)
      have hv : (numRow n k)[k]? = some (.int .i64 0) := by simp [numRow, hlt]
      rw [hv] at hcell
      have hfr : wr.frozen? ⟨w.heap.size, k, none⟩ = false := hown.frozenAt k
      have hst := hown.stored k (.int .i64 ((k : Int) + 1))
      rw [numRow_set] at hst
      clear hv
      go_wp2
      go_roundw
      case rel => exact ⟨k + 1, by omega, by go_num, hst.1, hnx.grown hst.2 hnx.size (fun j hj => by cases hj; exact Nat.le_refl _)⟩
      case measure => simp [intOf]; omega
    · have : k = n := by omega
      subst this
      go_wp2
      go_ret
      exact ⟨rfl, hown, hnx⟩

end Go.Proofs.Ybulkacfi
