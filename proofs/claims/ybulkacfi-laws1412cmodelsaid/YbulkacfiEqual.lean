/-
  'slices.Equal' (function 12) on two rows that hold the same numbers; 'zzs1412crankof' (function 10).
-/
import Derived.Test.YbulkacfiElec
import Derived.Test.YbulkacfiOrder
namespace Go.Proofs.Ybulkacfi
open Go.RowKit Go.Maps

set_option maxHeartbeats 1000000 in
set_option maxRecDepth 100000 in
theorem equal_any (b1 b2 n c1 c2 : Nat) (w : World) (hn : n ≤ 100000)
    (hc : ∀ k, k < n → ∃ z, w.cell? ⟨b1, k, none⟩ = some (.int .i64 z) ∧ w.cell? ⟨b2, k, none⟩ = some (.int .i64 z)) :
    Calls Yba.prog 12 #[.slice (some ⟨b1, 0, none⟩) n c1, .slice (some ⟨b2, 0, none⟩) n c2] w fun e w' => e = .returned (.bool true) ∧ ∃ q, w' = w.drewN q := by
  have HC := hide hc
  clear hc
  go_enter Yba.func12, Yba.ntmps12
  go_wp2
  go_loopw [13] (fun i wr => ∃ k : Nat, k ≤ n ∧ i = .int .i64 k ∧ ∃ q, wr = w.drewN q) (fun i _ => n - (intOf i).toNat)
  case atStart => exact ⟨0, Nat.zero_le _, rfl, 0, rfl⟩
  case round =>
    obtain ⟨k, hk, rfl, q, rfl⟩ := hrel
    by_cases hlt : k < n
    · obtain ⟨z, hA, hB⟩ := HC.out k hlt
      have hk1 : (k : Int) < (n : Int) := by omega
      go_wp2
      go_quiet (fail)
      go_wp2
      go_roundw
      case rel => exact ⟨k + 1, by omega, by go_num, _, rfl⟩
      case measure => simp [intOf]; omega
    · go_wp2
      go_ret
      exact ⟨rfl, _, rfl⟩

set_option maxRecDepth 100000 in
theorem rankof_any (x z : Int) (n : Nat) (hz : z = n) (hn : n ≤ 8) (w : World) :
    Calls Yba.prog 10 #[.int .i64 x, .int .i64 z] w fun e w' => e = .returned (.int .i64 (rk n x)) ∧ w' = w := by
  subst hz
  unfold rk
  by_cases h1 : 1 ≤ x
  · by_cases h2 : x ≤ n
    · rw [if_pos ⟨h1, h2⟩]
      go_enter Yba.func10, Yba.ntmps10
      go_wp2
      go_ret
      exact ⟨rfl, rfl⟩
    · rw [if_neg (fun h => h2 h.2)]
      go_enter Yba.func10, Yba.ntmps10
      go_wp2
      go_ret
      exact ⟨rfl, rfl⟩
  · rw [if_neg (fun h => h1 h.1)]
    go_enter Yba.func10, Yba.ntmps10
    go_wp2
    go_ret
    exact ⟨rfl, rfl⟩

end Go.Proofs.Ybulkacfi
