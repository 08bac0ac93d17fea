/-
  'Rows.LawS1412CModelSaid' proved: the shell's frame; the walk out of the cases (YbulkacfiModelA .. E).
-/
import Derived.Test.YbulkacfiRows
import Derived.Test.YbulkacfiModelA
import Derived.Test.YbulkacfiModelB
import Derived.Test.YbulkacfiModelC
import Derived.Test.YbulkacfiModelD
import Derived.Test.YbulkacfiModelE
import Derived.WalkKit
import Derived.ProofKit
import Derived.OpenShut
import Derived.ShutString
import Derived.ChangeOld
import Derived.Below
namespace Go.Proofs.Ybulkacfi.lawS1412CModel
open Go.ChangeShapes Go.WideShapes Go.ChangeAt Go.RowKit
open Go.ChangeMaps (open_string shut_string)
set_option linter.unusedVariables false

theorem own : ownKnob Yba.prog.godebug = none := by kernel_rfl
theorem laidOut : laidOutB Yba.prog = true := by kernel_rfl

/-- WHAT THE WALK IS TOLD OF A SLICE OF INTEGERS THAT CAME IN: it is nil; or it leads to a row of 'cap' cells, the numbers 'zs' (the first 'len' are its elements, the rest its spare room), each fitting its kind. -/
def IsRow (k : IntKind) (w : World) (a : Option Addr) (len cap : Nat) (zs : List Int) : Prop :=
  (a = none ∧ len = 0 ∧ cap = 0 ∧ zs = []) ∨
  ∃ x, a = some x ∧ len ≤ cap ∧ cap ≤ maxLen ∧ zs.length = cap ∧ (∀ i, i < zs.length → w.cell? (x.add i) = some (.int k (zs.getD i 0))) ∧ ∀ n ∈ zs, (Lit.int k n).wf = true

theorem isRow_rowAt {w : World} {a : Option Addr} {len cap : Nat} {zs : List Int} (h : IsRow .i64 w a len cap zs) : RowAt w a len (cellsOf zs len) := by
  unfold cellsOf
  rcases h with ⟨rfl, rfl, rfl, rfl⟩ | ⟨x, rfl, hl, hm, hz, hc, hw⟩
  · exact ⟨by simp, by simp, by simp⟩
  · refine ⟨by simp; omega, fun v hv => ?_, fun h0 => ⟨x, rfl, ?_, fun j v hj => ?_⟩⟩
    · obtain ⟨z, _, rfl⟩ := List.mem_map.1 hv
      exact ⟨z, rfl⟩
    · have h0' : 0 < len := by simp at h0; omega
      have := World.block_lt_of_cell? w _ (hc 0 (by omega))
      simpa [Addr.add] using this
    · have hj2 := (List.getElem?_eq_some_iff.1 hj).1
      simp at hj2
      rw [hc j (by omega), ← hj]
      have hj3 : j < zs.length := by omega
      simp [List.getD, hj2, List.getElem?_eq_getElem hj3]

set_option maxRecDepth 100000 in
set_option maxHeartbeats 400000 in
theorem walk (a0 : Int) (a1 : Int) (a2 : Int) (a3 : Bool) (a4 : Bool) (a5 : Bool) (a6 : Option Addr) (len6 cap6 : Nat) (z6 : List Int) (a7 : Int) (a8 : Int) (a9 : Int) (w : World) (w0 : (Lit.int .u8 a0).wf = true) (w1 : (Lit.int .u8 a1).wf = true) (w2 : (Lit.int .i64 a2).wf = true) (w6 : IsRow .i64 w a6 len6 cap6 z6) (w7 : (Lit.int .i64 a7).wf = true) (w8 : (Lit.int .u8 a8).wf = true) (w9 : (Lit.int .i64 a9).wf = true) :
    Calls Yba.prog 5 #[.int .u8 a0, .int .u8 a1, .int .i64 a2, .bool a3, .bool a4, .bool a5, .slice a6 len6 cap6, .int .i64 a7, .int .u8 a8, .int .i64 a9] w fun e w' => e = .returned (.bool true) ∧ Below w.heap.size w w' := by
  by_cases hlen : len6 ≤ 1024
  · obtain ⟨b0, b0'⟩ := bounds_u8 w0
    obtain ⟨b1, b1'⟩ := bounds_u8 w1
    obtain ⟨b8, b8'⟩ := bounds_u8 w8
    obtain ⟨n, hn⟩ : ∃ n : Nat, a0 % 8 + 1 = n := ⟨(a0 % 8 + 1).toNat, by omega⟩
    have hn8 : n ≤ 8 := by omega
    have hn0 : (n : Int) ≠ 0 := by omega
    obtain ⟨r, hr⟩ : ∃ r : Nat, a1 % (n : Int) = r := ⟨(a1 % (n : Int)).toNat, by have := Int.emod_nonneg a1 hn0; omega⟩
    have hrn : r < n := by have := Int.emod_lt_of_pos a1 (show 0 < (n : Int) by omega); omega
    have hrow := isRow_rowAt w6
    have mem_t : ∀ x : Int, mem n x = true → 1 ≤ x ∧ x ≤ n := fun x h => by simpa [mem] using h
    by_cases k0 : a8 % 8 = 0
    · cases hmem : mem n a7 with
      | false => exact model_elec_none a0 a1 a2 a7 a8 a9 a3 a4 a5 a6 len6 cap6 n r _ w b0 b0' b1 b1' b8 b8' hn hr hn8 hrn w2 hrow hlen w7 w9 k0 hmem
      | true =>
        obtain ⟨v1, v2⟩ := mem_t a7 hmem
        by_cases hlt : a7 - 1 < (r : Int)
        · by_cases hl : a2 = (r : Int) + 1
          · subst hl
            exact model_elec_lead a0 a1 0 a7 a8 a9 a3 a4 a5 a6 len6 cap6 n r _ w b0 b0' b1 b1' b8 b8' hn hr hn8 hrn (by decide) hrow hlen w7 w9 k0 hmem v1 v2 hlt
          · exact model_elec_yes a0 a1 a2 a7 a8 a9 a3 a4 a5 a6 len6 cap6 n r _ w b0 b0' b1 b1' b8 b8' hn hr hn8 hrn w2 hrow hlen w7 w9 k0 hmem v1 v2 hlt (by simpa using hl)
        · exact model_elec_high a0 a1 a2 a7 a8 a9 a3 a4 a5 a6 len6 cap6 n r _ w b0 b0' b1 b1' b8 b8' hn hr hn8 hrn w2 hrow hlen w7 w9 k0 hmem v1 v2 hlt
    by_cases k2 : a8 % 8 = 2
    · cases hmem : mem n a7 with
      | false => exact model_ok_none a0 a1 a2 a7 a8 a9 a3 a4 a5 a6 len6 cap6 n r _ w b0 b0' b1 b1' b8 b8' hn hr hn8 hrn w2 hrow hlen w7 w9 k2 hmem
      | true =>
        obtain ⟨v1, v2⟩ := mem_t a7 hmem
        by_cases hlt : (r : Int) < a7 - 1
        · exact model_ok_high a0 a1 a2 a7 a8 a9 a3 a4 a5 a6 len6 cap6 n r _ w b0 b0' b1 b1' b8 b8' hn hr hn8 hrn w2 hrow hlen w7 w9 k2 hmem v1 v2 hlt
        · exact model_ok_low a0 a1 a2 a7 a8 a9 a3 a4 a5 a6 len6 cap6 n r _ w b0 b0' b1 b1' b8 b8' hn hr hn8 hrn w2 hrow hlen w7 w9 k2 hmem v1 v2 hlt
    by_cases k1 : a8 % 8 = 1
    · cases hmem : mem n a9 with
      | false => exact model_leader_none a0 a1 a2 a7 a8 a9 a3 a4 a5 a6 len6 cap6 n r _ w b0 b0' b1 b1' b8 b8' hn hr hn8 hrn w2 hrow hlen w7 w9 k1 hmem
      | true =>
        obtain ⟨v1, v2⟩ := mem_t a9 hmem
        cases a3 with
        | false => exact model_leader_first a0 a1 a2 a7 a8 a9 false a4 a5 a6 len6 cap6 n r _ w b0 b0' b1 b1' b8 b8' hn hr hn8 hrn w2 hrow hlen w7 w9 k1 hmem v1 v2
        | true =>
          by_cases hlt : rk n a2 < a9 - 1
          · exact model_leader_more a0 a1 a2 a7 a8 a9 true a4 a5 a6 len6 cap6 n r _ w b0 b0' b1 b1' b8 b8' hn hr hn8 hrn w2 hrow hlen w7 w9 k1 hmem v1 v2 hlt
          · exact model_leader_less a0 a1 a2 a7 a8 a9 true a4 a5 a6 len6 cap6 n r _ w b0 b0' b1 b1' b8 b8' hn hr hn8 hrn w2 hrow hlen w7 w9 k1 hmem v1 v2 hlt
    · exact model_other a0 a1 a2 a7 a8 a9 a3 a4 a5 a6 len6 cap6 n r _ w b0 b0' b1 b1' b8 b8' hn hr hn8 hrn w2 hrow hlen w7 w9 (by omega)
  · have hl : (1024 : Int) < (len6 : Int) := by omega
    clear hlen w6
    go_enter Yba.func5, Yba.ntmps5
    go_wp2
    go_ret
    exact ⟨rfl, Below.refl _ _⟩

/-! ### THE ROW's STEP: WRITTEN OUT: LEAVE IT -/
set_option maxRecDepth 100000 in
theorem lifted (os : Os) (started : os.Started) (H : Type) (enc : TypeId × Value → H) :
    ReturnsInHanded {} Yba.checked os 5 .any (Rows.lawS1412CModelSpec.pre6 enc Yba.prog Yba.f5 Rows.lawS1412CModelRow.domain false) (Rows.lawS1412CModelSpec.post enc Yba.prog Yba.f5 false true false false) := by
  refine returnsInHanded_of_change (C := Yba.checked) own started (by kernel_rfl) Yba.func5
    (ChangeSpec.witness6 (enc := enc) (C := Yba.checked) false ⟨#[], #[.int .u8 0, .int .u8 0, .int .i64 0, .bool false, .bool false, .bool false, .slice none 0 0, .int .i64 0, .int .u8 0, .int .i64 0], []⟩ 8 (by kernel_rfl) (by kernel_rfl) (by kernel_rfl) (by kernel_rfl)) ?_
  intro W base args ds gs before hval0 hW hcnd _
  have hval : ∀ (j : Nat) t v, Yba.f5.params[j]? = some t → args[j]? = some v → Value.okWide Yba.prog W .any base t v := hval0
  have hW' := hW
  obtain ⟨p, q, hA0, hV, rfl, hfz, hnd⟩ := hW
  have hA : DataW.TrodAll enc Yba.prog W 0 (fun _ => true) true Yba.f5.params.toList args.toList ds p := hA0
  rw [Yba.params5] at hA hval
  obtain ⟨v0, vs0, d0, ds0, p0, q0, hargs, rfl, rfl, h0, r0⟩ := trodAll_cons hA
  obtain ⟨v1, vs1, d1, ds1, p1, q1, rfl, rfl, rfl, h1, r1⟩ := trodAll_cons r0
  obtain ⟨v2, vs2, d2, ds2, p2, q2, rfl, rfl, rfl, h2, r2⟩ := trodAll_cons r1
  obtain ⟨v3, vs3, d3, ds3, p3, q3, rfl, rfl, rfl, h3, r3⟩ := trodAll_cons r2
  obtain ⟨v4, vs4, d4, ds4, p4, q4, rfl, rfl, rfl, h4, r4⟩ := trodAll_cons r3
  obtain ⟨v5, vs5, d5, ds5, p5, q5, rfl, rfl, rfl, h5, r5⟩ := trodAll_cons r4
  obtain ⟨v6, vs6, d6, ds6, p6, q6, rfl, rfl, rfl, h6, r6⟩ := trodAll_cons r5
  obtain ⟨v7, vs7, d7, ds7, p7, q7, rfl, rfl, rfl, h7, r7⟩ := trodAll_cons r6
  obtain ⟨v8, vs8, d8, ds8, p8, q8, rfl, rfl, rfl, h8, r8⟩ := trodAll_cons r7
  obtain ⟨v9, vs9, d9, ds9, p9, q9, rfl, rfl, rfl, h9, r9⟩ := trodAll_cons r8
  obtain ⟨rfl, rfl, rfl⟩ := trodAll_nil r9
  obtain rfl : args = #[v0, v1, v2, v3, v4, v5, v6, v7, v8, v9] := by cases args; simp_all
  obtain ⟨rfl, rfl⟩ := trodVars_none hV
  obtain ⟨a0, rfl, rfl, rfl, w0⟩ := open_int Yba.underlying5 (hval 0 5 v0 rfl rfl) h0
  obtain ⟨a1, rfl, rfl, rfl, w1⟩ := open_int Yba.underlying5 (hval 1 5 v1 rfl rfl) h1
  obtain ⟨a2, rfl, rfl, rfl, w2⟩ := open_int Yba.underlying3 (hval 2 3 v2 rfl rfl) h2
  obtain ⟨a3, rfl, rfl, rfl⟩ := open_bool Yba.underlying4 (hval 3 4 v3 rfl rfl) h3
  obtain ⟨a4, rfl, rfl, rfl⟩ := open_bool Yba.underlying4 (hval 4 4 v4 rfl rfl) h4
  obtain ⟨a5, rfl, rfl, rfl⟩ := open_bool Yba.underlying4 (hval 5 4 v5 rfl rfl) h5
  obtain ⟨a6, len6, cap6, rfl⟩ := okWide_slice Yba.underlying22 (hval 6 22 v6 rfl rfl)
  have k6 := h6
  have lt6 : ∀ x ∈ p6, x.block < W.heap.size := by obtain ⟨m, hm⟩ := k6; exact DataW.trod_lt m _ _ _ hm
  obtain ⟨z6, w6⟩ : ∃ zs, IsRow .i64 W a6 len6 cap6 zs := by
    obtain ⟨fuel, hf⟩ := h6
    rcases open_ints Yba.underlying22 Yba.underlying3 (by kernel_rfl) hf with ⟨hcs, _⟩ | ⟨x, l, c, zs, hcs, _, hl, hm, hz, _, hcell, hwz⟩
    · simp [Value.cells] at hcs
      obtain ⟨rfl, rfl, rfl⟩ := hcs
      exact ⟨[], .inl ⟨rfl, rfl, rfl, rfl⟩⟩
    · simp [Value.cells] at hcs
      obtain ⟨rfl, rfl, rfl⟩ := hcs
      exact ⟨zs, .inr ⟨_, rfl, hl, hm, by simpa using hz, hcell, hwz⟩⟩
  obtain ⟨a7, rfl, rfl, rfl, w7⟩ := open_int Yba.underlying3 (hval 7 3 v7 rfl rfl) h7
  obtain ⟨a8, rfl, rfl, rfl, w8⟩ := open_int Yba.underlying5 (hval 8 5 v8 rfl rfl) h8
  obtain ⟨a9, rfl, rfl, rfl, w9⟩ := open_int Yba.underlying3 (hval 9 3 v9 rfl rfl) h9
  clear hA0 hval0
  refine (walk a0 a1 a2 a3 a4 a5 a6 len6 cap6 z6 a7 a8 a9 W w0 w1 w2 w6 w7 w8 w9).mono fun e W' ⟨he, bel⟩ => ?_
  subst he
  exact ⟨_, rfl, _, _, _, [], _, [], hW', trodAll_mk1 (shut_bool Yba.underlying4 _), (trodAll_cons_mk (shut_int Yba.underlying5 w0) (trodAll_cons_mk (shut_int Yba.underlying5 w1) (trodAll_cons_mk (shut_int Yba.underlying3 w2) (trodAll_cons_mk (shut_bool Yba.underlying4 _) (trodAll_cons_mk (shut_bool Yba.underlying4 _) (trodAll_cons_mk (shut_bool Yba.underlying4 _) (trodAll_cons_mk (Below.trod laidOut (by kernel_rfl) (of_decide_eq_true (by kernel_rfl)) k6 bel lt6) (trodAll_cons_mk (shut_int Yba.underlying3 w7) (trodAll_cons_mk (shut_int Yba.underlying5 w8) (trodAll_cons_mk (shut_int Yba.underlying3 w9) trodAll_mk0)))))))))), rfl, bel.frame _, fun h => by cases h⟩

theorem over : Rows.lawS1412CModelRow.holds Yba.pinned (OpenSpec.ofChange Rows.lawS1412CModelSpec) :=
  OpenClaim.holds_of_wide 5 Yba.f5 rfl rfl rfl rfl rfl rfl rfl ⟨rfl, rfl, rfl, rfl, rfl⟩ rfl rfl rfl rfl rfl (by kernel_rfl) Yba.func5 (by kernel_rfl)
    (of_decide_eq_true (by kernel_rfl)) (by unfold Func.isWrapper; first | (rw [if_pos (by decide +kernel)]; kernel_rfl) | (rw [if_neg (by decide +kernel)]; exact ⟨rfl, rfl⟩))
    (fun os started H enc _ => lifted os started H enc)

/-- ████ THE STATEMENT ████ -/
theorem proved : Rows.LawS1412CModelSaid := over
end Go.Proofs.Ybulkacfi.lawS1412CModel
