/-
  'Rows.LawS1412AGrowSaid' proved. The frame is the shell's, its end by 'Below' as the shells over slices have it.
-/
import Derived.Test.YbulkacfiRows
import Derived.Test.YbulkacfiNumbered
import Derived.WalkKit
import Derived.ProofKit
import Derived.OpenShut
import Derived.ShutString
import Derived.ChangeOld
import Derived.Below
import Derived.Deep.QuietTactic
import Derived.BigQuiet
namespace Go.Proofs.Ybulkacfi.lawS1412AGrow
open Go.ChangeShapes Go.WideShapes Go.ChangeAt Go.RowKit
open Go.ChangeMaps (open_string shut_string)
set_option linter.unusedVariables false

theorem own : ownKnob Yba.prog.godebug = none := by kernel_rfl

theorem below_drewN {B : Nat} {a w : World} (h : Below B a w) (n : Nat) : Below B a (w.drewN n) := ⟨h.os, h.tape, h.output, h.size, h.block⟩

set_option maxHeartbeats 400000 in
set_option maxRecDepth 100000 in
theorem walk (a0 : Int) (w0 : (Lit.int .i64 a0).wf = true) (w : World) :
    Calls Yba.prog 4 #[.int .i64 a0] w fun e w' => e = .returned (.bool true) ∧ Below w.heap.size w w' := by
  by_cases h1 : a0 < 0
  · go_enter Yba.func4, Yba.ntmps4
    go_wp2
    go_ret
    exact ⟨rfl, Below.refl _ _⟩
  by_cases h2 : 4096 < a0
  · go_enter Yba.func4, Yba.ntmps4
    go_wp2
    go_ret
    exact ⟨rfl, Below.refl _ _⟩
  obtain ⟨n, rfl⟩ : ∃ n : Nat, a0 = n := ⟨a0.toNat, by omega⟩
  have hn : n ≤ 4096 := by omega
  clear h1 h2 w0
  go_enter Yba.func4, Yba.ntmps4
  go_wp2_with fail
  refine (numbered_any n _ (by omega)).mono ?_
  rintro e w1 ⟨rfl, hown1, hbel1⟩
  go_wp2_with fail
  rw [show ((n : Int) + 1) = ((n + 1 : Nat) : Int) from by omega]
  refine (numbered_any (n + 1) _ (by omega)).mono ?_
  rintro e w2 ⟨rfl, hown2, hbel2⟩
  have hlt1 : w.heap.size < w1.heap.size := (hown1.lt _ rfl).2
  have hbel : Below w.heap.size w w2 := hbel1.trans (hbel2.mono hbel1.size)
  have hA : ∀ k, k < n → w2.cell? ⟨w.heap.size, k, none⟩ = some (.int .i64 ((k : Int) + 1)) := fun k hk => ((hbel2.cell (p := ⟨w.heap.size, k, none⟩) hlt1).trans (hown1.cellAt k (by omega))).trans (numRow_at n k hk)
  have hB : ∀ k, k < n + 1 → w2.cell? ⟨w1.heap.size, k, none⟩ = some (.int .i64 ((k : Int) + 1)) := fun k hk => (hown2.cellAt k (by omega)).trans (numRow_at (n + 1) k hk)
  go_wp2
  go_loopw [5] (fun i wr => ∃ k : Nat, k ≤ n ∧ i = .int .i64 k ∧ ∃ q, wr = w2.drewN q) (fun i _ => n - (intOf i).toNat)
  case atStart => exact ⟨0, Nat.zero_le _, rfl, 0, rfl⟩
  case round =>
    obtain ⟨k, hk, rfl, q, rfl⟩ := hrel
    by_cases hlt : k < n
    · have hcA : w2.cell? ⟨w.heap.size, k, none⟩ = some (.int .i64 ((k : Int) + 1)) := hA k hlt
      have hcB : w2.cell? ⟨w1.heap.size, k, none⟩ = some (.int .i64 ((k : Int) + 1)) := hB k (by omega)
      have hk1 : (k : Int) < (n : Int) := by omega
      have hk2 : (k : Int) < (n : Int) + 1 := by omega
      clear hA hB
      go_wp2
      go_quiet (fail)
      go_wp2
      go_roundw
      case rel => exact ⟨k + 1, by omega, by go_num, _, rfl⟩
      case measure => simp [intOf]; omega
    · have hcB : w2.cell? ⟨w1.heap.size, n, none⟩ = some (.int .i64 ((n : Int) + 1)) := hB n (by omega)
      clear hA hB
      go_wp2
      go_ret
      exact ⟨rfl, below_drewN hbel q⟩

/-! ### THE ROW's STEP: WRITTEN OUT: LEAVE IT -/
set_option maxRecDepth 100000 in
theorem lifted (os : Os) (started : os.Started) (H : Type) (enc : TypeId × Value → H) :
    ReturnsInHanded {} Yba.checked os 4 .any (Rows.lawS1412AGrowSpec.pre6 enc Yba.prog Yba.f4 Rows.lawS1412AGrowRow.domain false) (Rows.lawS1412AGrowSpec.post enc Yba.prog Yba.f4 false true false false) := by
  refine returnsInHanded_of_change (C := Yba.checked) own started (by kernel_rfl) Yba.func4
    (ChangeSpec.witness6 (enc := enc) (C := Yba.checked) false ⟨#[], #[.int .i64 0], []⟩ 8 (by kernel_rfl) (by kernel_rfl) (by kernel_rfl) (by kernel_rfl)) ?_
  intro W base args ds gs before hval0 hW hcnd _
  have hval : ∀ (j : Nat) t v, Yba.f4.params[j]? = some t → args[j]? = some v → Value.okWide Yba.prog W .any base t v := hval0
  have hW' := hW
  obtain ⟨p, q, hA0, hV, rfl, hfz, hnd⟩ := hW
  have hA : DataW.TrodAll enc Yba.prog W 0 (fun _ => true) true Yba.f4.params.toList args.toList ds p := hA0
  rw [Yba.params4] at hA hval
  obtain ⟨v0, vs0, d0, ds0, p0, q0, hargs, rfl, rfl, h0, r0⟩ := trodAll_cons hA
  obtain ⟨rfl, rfl, rfl⟩ := trodAll_nil r0
  obtain rfl : args = #[v0] := by cases args; simp_all
  obtain ⟨rfl, rfl⟩ := trodVars_none hV
  obtain ⟨a0, rfl, rfl, rfl, w0⟩ := open_int Yba.underlying3 (hval 0 3 v0 rfl rfl) h0
  clear hA0 hval0
  refine (walk a0 w0 W).mono fun e W' ⟨he, bel⟩ => ?_
  subst he
  exact ⟨_, rfl, _, _, _, [], _, [], hW', trodAll_mk1 (shut_bool Yba.underlying4 _), (trodAll_cons_mk (shut_int Yba.underlying3 w0) trodAll_mk0), rfl, bel.frame _, fun h => by cases h⟩

theorem over : Rows.lawS1412AGrowRow.holds Yba.pinned (OpenSpec.ofChange Rows.lawS1412AGrowSpec) :=
  OpenClaim.holds_of_wide 4 Yba.f4 rfl rfl rfl rfl rfl rfl rfl ⟨rfl, rfl, rfl, rfl, rfl⟩ rfl rfl rfl rfl rfl (by kernel_rfl) Yba.func4 (by kernel_rfl)
    (of_decide_eq_true (by kernel_rfl)) (by unfold Func.isWrapper; first | (rw [if_pos (by decide +kernel)]; kernel_rfl) | (rw [if_neg (by decide +kernel)]; exact ⟨rfl, rfl⟩))
    (fun os started H enc _ => lifted os started H enc)

/-- ████ THE STATEMENT ████ -/
theorem proved : Rows.LawS1412AGrowSaid :=
  over
end Go.Proofs.Ybulkacfi.lawS1412AGrow
