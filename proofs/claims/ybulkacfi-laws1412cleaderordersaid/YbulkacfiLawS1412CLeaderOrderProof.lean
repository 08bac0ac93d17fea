/-
  'Rows.LawS1412CLeaderOrderSaid' proved. The frame is the shell's, its end by 'Below' as the shells over slices have it.
-/
import Derived.Test.YbulkacfiRows
import Derived.Test.YbulkacfiOrder
import Derived.WalkKit
import Derived.ProofKit
import Derived.OpenShut
import Derived.ShutString
import Derived.ChangeOld
import Derived.Below
namespace Go.Proofs.Ybulkacfi.lawS1412CLeaderOrder
open Go.ChangeShapes Go.WideShapes Go.ChangeAt Go.RowKit
open Go.ChangeMaps (open_string shut_string)
set_option linter.unusedVariables false

theorem own : ownKnob Yba.prog.godebug = none := by kernel_rfl

theorem three {w : World} (o1 o2 o3 : Obj) : (((w.alloc o1).alloc o2).alloc o3).heap[w.heap.size]? = some o1 ∧ (((w.alloc o1).alloc o2).alloc o3).heap[w.heap.size + 1]? = some o2 ∧ (((w.alloc o1).alloc o2).alloc o3).heap[w.heap.size + 1 + 1]? = some o3 := by
  have e1 : (w.alloc o1).heap.size = w.heap.size + 1 := by simp
  have e2 : ((w.alloc o1).alloc o2).heap.size = w.heap.size + 1 + 1 := by simp
  refine ⟨?_, ?_, ?_⟩
  · rw [Below.heap_alloc _ _ _ (by omega), Below.heap_alloc _ _ _ (by omega)]
    exact heap_alloc_new w o1
  · rw [Below.heap_alloc _ _ _ (by omega), ← e1]
    exact heap_alloc_new _ o2
  · rw [← e2]
    exact heap_alloc_new _ o3

theorem below_drewN {B : Nat} {a w : World} (h : Below B a w) (n : Nat) : Below B a (w.drewN n) := ⟨h.os, h.tape, h.output, h.size, h.block⟩

/-- The two members, the group, the sender, in the world W; nothing below the heap's first size has turned. -/
structure St (n g kb mb m : Nat) (r l1 l2 : Int) (c1 c2 : Bool) (w W : World) : Prop where
  grp : GroupAt n g kb mb W
  gm : g < m
  wm : w.heap.size ≤ m
  b1 : W.heap[m]? = some (.cells (bc g r l1 0 false 0 false (.slice none 0 0) false c1) 29 (0, 0))
  b2 : W.heap[m + 1]? = some (.cells (bc g r l2 0 false 0 false (.slice none 0 0) false c2) 29 (0, 0))
  snd : W.heap[m + 1 + 1]? = some (.cells #[.slice none 0 0, .slice none 0 0] 38 (0, 0))
  bel : Below w.heap.size w W
  wf1 : (Lit.int .i64 l1).wf = true
  wf2 : (Lit.int .i64 l2).wf = true

section
variable {n g kb mb m : Nat} {r l1 l2 : Int} {c1 c2 : Bool} {w W : World}
theorem St.recv1 (h : St n g kb mb m r l1 l2 c1 c2 w W) {x : Int} (wx : (Lit.int .i64 x).wf = true) (out : Value) :
    Calls Yba.prog 11 #[.pointer (some ⟨m, 0, none⟩), .int .i64 0, .agg #[.int .u8 1, .bool false, .int .i64 x, .int .i64 0, .int .i64 0], out] W fun e W' => e = .returned (.tuple #[]) ∧ St n g kb mb m r (newLead n l1 x c1) l2 (c1 || mem n x) c2 w W' := by
  refine (recv_leader n g kb mb m r l1 0 0 0 x 0 0 false false false c1 false (.slice none 0 0) out W h.grp h.b1 wx h.wf1).mono ?_
  rintro e W' ⟨rfl, hb, hg⟩
  have l1' := block_lt h.b2
  have l2' := block_lt h.snd
  exact ⟨rfl, ⟨h.grp.grown hg (fun k hk => by cases hk; exact h.gm), h.gm, h.wm, hb, (hg.block _ l1' (by simp)).trans h.b2, (hg.block _ l2' (by intro e; injection e; omega)).trans h.snd, h.bel.grown hg h.bel.size (fun k hk => by cases hk; exact h.wm), wf_newLead h.wf1 wx, h.wf2⟩⟩

theorem St.recv2 (h : St n g kb mb m r l1 l2 c1 c2 w W) {x : Int} (wx : (Lit.int .i64 x).wf = true) (out : Value) :
    Calls Yba.prog 11 #[.pointer (some ⟨m + 1, 0, none⟩), .int .i64 0, .agg #[.int .u8 1, .bool false, .int .i64 x, .int .i64 0, .int .i64 0], out] W fun e W' => e = .returned (.tuple #[]) ∧ St n g kb mb m r l1 (newLead n l2 x c2) c1 (c2 || mem n x) w W' := by
  have hgm := h.gm
  have hwm := h.wm
  refine (recv_leader n g kb mb (m + 1) r l2 0 0 0 x 0 0 false false false c2 false (.slice none 0 0) out W h.grp h.b2 wx h.wf2).mono ?_
  rintro e W' ⟨rfl, hb, hg⟩
  have l1' := block_lt h.b1
  have l2' := block_lt h.snd
  exact ⟨rfl, ⟨h.grp.grown hg (fun k hk => by cases hk; omega), h.gm, h.wm, (hg.block _ l1' (by intro e; injection e; omega)).trans h.b1, hb, (hg.block _ l2' (by intro e; injection e; omega)).trans h.snd, h.bel.grown hg h.bel.size (fun k hk => by cases hk; omega), h.wf1, wf_newLead h.wf2 wx⟩⟩

theorem St.start {wg : World} (hG : GroupAt n g kb mb wg) (hb : Below w.heap.size w wg) (wl : (Lit.int .i64 l1).wf = true) :
    St n g kb mb wg.heap.size r l1 l1 c1 c1 w (((wg.alloc (.cells (bc g r l1 0 false 0 false (.slice none 0 0) false c1) 29)).alloc (.cells (bc g r l1 0 false 0 false (.slice none 0 0) false c1) 29)).alloc (.cells #[.slice none 0 0, .slice none 0 0] 38)) := by
  obtain ⟨M1, M2, S⟩ := three (w := wg) (.cells (bc g r l1 0 false 0 false (.slice none 0 0) false c1) 29) (.cells (bc g r l1 0 false 0 false (.slice none 0 0) false c1) 29) (.cells #[.slice none 0 0, .slice none 0 0] 38)
  have hs := hb.size
  exact ⟨((hG.alloc _).alloc _).alloc _, hG.lt, hs, M1, M2, S, ((hb.alloc hs _).alloc (by simp; omega) _).alloc (by simp; omega) _, wl, wl⟩
end

set_option maxHeartbeats 1000000 in
set_option maxRecDepth 100000 in
theorem walk (a0 : Int) (a1 : Int) (a2 : Int) (a3 : Bool) (a4 : Int) (a5 : Int) (w0 : (Lit.int .u8 a0).wf = true) (w1 : (Lit.int .u8 a1).wf = true) (w2 : (Lit.int .i64 a2).wf = true) (w4 : (Lit.int .i64 a4).wf = true) (w5 : (Lit.int .i64 a5).wf = true) (w : World) :
    Calls Yba.prog 6 #[.int .u8 a0, .int .u8 a1, .int .i64 a2, .bool a3, .int .i64 a4, .int .i64 a5] w fun e w' => e = .returned (.bool true) ∧ Below w.heap.size w w' := by
  obtain ⟨b0, b0'⟩ := bounds_u8 w0
  obtain ⟨b1, b1'⟩ := bounds_u8 w1
  obtain ⟨n, hn⟩ : ∃ n : Nat, a0 % 8 + 1 = n := ⟨(a0 % 8 + 1).toNat, by omega⟩
  have HN : Hid (a0 % 8 + 1 = n) := hn
  have hn8 : n ≤ 8 := by omega
  clear hn
  have hp : 1 ≤ a0 % 8 + 1 := by omega
  go_enter Yba.func6, Yba.ntmps6
  go_wp2_with fail
  refine (group_any _ n HN.out _ hn8).mono ?_
  rintro e wg ⟨g, kb, mb, rfl, hgs, hG, hbg⟩
  have S0 := St.start (r := a1 % (a0 % 8 + 1)) (l1 := a2) (c1 := a3) hG hbg w2
  simp only [bc] at S0
  go_wp2_with fail
  refine (S0.recv1 w4 _).mono ?_
  rintro e W1 ⟨rfl, S1⟩
  clear S0
  go_wp2_with fail
  refine (S1.recv1 w5 _).mono ?_
  rintro e W2 ⟨rfl, S2⟩
  clear S1
  go_wp2_with fail
  refine (S2.recv2 w5 _).mono ?_
  rintro e W3 ⟨rfl, S3⟩
  clear S2
  go_wp2_with fail
  refine (S3.recv2 w4 _).mono ?_
  rintro e W4 ⟨rfl, S4⟩
  clear S3
  have B := S4.bel
  have x1 := S4.b1
  have x2 := S4.b2
  have x3 := S4.snd
  clear S4
  rw [newLead_comm n a2 a5 a4 a3, Bool.or_right_comm] at x2
  generalize newLead n (newLead n a2 a4 a3) a5 (a3 || mem n a4) = L at x1 x2
  have m12 : W4.cell? ⟨wg.heap.size, 2, none⟩ = some (.int .i64 L) := block_cell x1 rfl
  have m22 : W4.cell? ⟨wg.heap.size + 1, 2, none⟩ = some (.int .i64 L) := block_cell x2 rfl
  have c1 : W4.cell? ⟨wg.heap.size, 13, none⟩ = some (.bool (a3 || mem n a4 || mem n a5)) := block_cell x1 rfl
  have c2 : W4.cell? ⟨wg.heap.size + 1, 13, none⟩ = some (.bool (a3 || mem n a4 || mem n a5)) := block_cell x2 rfl
  have s0 : W4.cell? ⟨wg.heap.size + 1 + 1, 0, none⟩ = some (.slice none 0 0) := block_cell x3 rfl
  clear x1 x2 x3
  cases a3 with
  | true =>
    simp only [Bool.true_or] at c1 c2
    go_wp2_with fail
    go_quiet (fail)
    go_wp2_with fail
    go_ret
    exact ⟨rfl, below_drewN B _⟩
  | false =>
    simp only [Bool.false_or] at c1 c2
    cases hm4 : mem n a4 with
    | true =>
      simp only [hm4, Bool.true_or] at c1 c2
      go_wp2_with fail
      go_quiet (fail)
      go_wp2_with fail
      refine (member_any _ _ n HN.out _).mono ?_
      rw [hm4]
      rintro e w' ⟨rfl, rfl⟩
      go_wp2_with fail
      go_ret
      exact ⟨rfl, below_drewN B _⟩
    | false =>
      simp only [hm4, Bool.false_or] at c1 c2
      go_wp2_with fail
      go_quiet (fail)
      go_wp2_with fail
      refine (member_any _ _ n HN.out _).mono ?_
      rw [hm4]
      rintro e w' ⟨rfl, rfl⟩
      go_wp2_with fail
      refine (member_any _ _ n HN.out _).mono ?_
      rintro e w' ⟨rfl, rfl⟩
      go_wp2_with fail
      go_ret
      exact ⟨by simp, below_drewN B _⟩

/-! ### THE ROW's STEP: WRITTEN OUT: LEAVE IT -/
set_option maxRecDepth 100000 in
theorem lifted (os : Os) (started : os.Started) (H : Type) (enc : TypeId × Value → H) :
    ReturnsInHanded {} Yba.checked os 6 .any (Rows.lawS1412CLeaderOrderSpec.pre6 enc Yba.prog Yba.f6 Rows.lawS1412CLeaderOrderRow.domain false) (Rows.lawS1412CLeaderOrderSpec.post enc Yba.prog Yba.f6 false true false false) := by
  refine returnsInHanded_of_change (C := Yba.checked) own started (by kernel_rfl) Yba.func6
    (ChangeSpec.witness6 (enc := enc) (C := Yba.checked) false ⟨#[], #[.int .u8 0, .int .u8 0, .int .i64 0, .bool false, .int .i64 0, .int .i64 0], []⟩ 8 (by kernel_rfl) (by kernel_rfl) (by kernel_rfl) (by kernel_rfl)) ?_
  intro W base args ds gs before hval0 hW hcnd _
  have hval : ∀ (j : Nat) t v, Yba.f6.params[j]? = some t → args[j]? = some v → Value.okWide Yba.prog W .any base t v := hval0
  have hW' := hW
  obtain ⟨p, q, hA0, hV, rfl, hfz, hnd⟩ := hW
  have hA : DataW.TrodAll enc Yba.prog W 0 (fun _ => true) true Yba.f6.params.toList args.toList ds p := hA0
  rw [Yba.params6] at hA hval
  obtain ⟨v0, vs0, d0, ds0, p0, q0, hargs, rfl, rfl, h0, r0⟩ := trodAll_cons hA
  obtain ⟨v1, vs1, d1, ds1, p1, q1, rfl, rfl, rfl, h1, r1⟩ := trodAll_cons r0
  obtain ⟨v2, vs2, d2, ds2, p2, q2, rfl, rfl, rfl, h2, r2⟩ := trodAll_cons r1
  obtain ⟨v3, vs3, d3, ds3, p3, q3, rfl, rfl, rfl, h3, r3⟩ := trodAll_cons r2
  obtain ⟨v4, vs4, d4, ds4, p4, q4, rfl, rfl, rfl, h4, r4⟩ := trodAll_cons r3
  obtain ⟨v5, vs5, d5, ds5, p5, q5, rfl, rfl, rfl, h5, r5⟩ := trodAll_cons r4
  obtain ⟨rfl, rfl, rfl⟩ := trodAll_nil r5
  obtain rfl : args = #[v0, v1, v2, v3, v4, v5] := by cases args; simp_all
  obtain ⟨rfl, rfl⟩ := trodVars_none hV
  obtain ⟨a0, rfl, rfl, rfl, w0⟩ := open_int Yba.underlying5 (hval 0 5 v0 rfl rfl) h0
  obtain ⟨a1, rfl, rfl, rfl, w1⟩ := open_int Yba.underlying5 (hval 1 5 v1 rfl rfl) h1
  obtain ⟨a2, rfl, rfl, rfl, w2⟩ := open_int Yba.underlying3 (hval 2 3 v2 rfl rfl) h2
  obtain ⟨a3, rfl, rfl, rfl⟩ := open_bool Yba.underlying4 (hval 3 4 v3 rfl rfl) h3
  obtain ⟨a4, rfl, rfl, rfl, w4⟩ := open_int Yba.underlying3 (hval 4 3 v4 rfl rfl) h4
  obtain ⟨a5, rfl, rfl, rfl, w5⟩ := open_int Yba.underlying3 (hval 5 3 v5 rfl rfl) h5
  clear hA0 hval0
  refine (walk a0 a1 a2 a3 a4 a5 w0 w1 w2 w4 w5 W).mono fun e W' ⟨he, bel⟩ => ?_
  subst he
  exact ⟨_, rfl, _, _, _, [], _, [], hW', trodAll_mk1 (shut_bool Yba.underlying4 _), (trodAll_cons_mk (shut_int Yba.underlying5 w0) (trodAll_cons_mk (shut_int Yba.underlying5 w1) (trodAll_cons_mk (shut_int Yba.underlying3 w2) (trodAll_cons_mk (shut_bool Yba.underlying4 _) (trodAll_cons_mk (shut_int Yba.underlying3 w4) (trodAll_cons_mk (shut_int Yba.underlying3 w5) trodAll_mk0)))))), rfl, bel.frame _, fun h => by cases h⟩

theorem over : Rows.lawS1412CLeaderOrderRow.holds Yba.pinned (OpenSpec.ofChange Rows.lawS1412CLeaderOrderSpec) :=
  OpenClaim.holds_of_wide 6 Yba.f6 rfl rfl rfl rfl rfl rfl rfl ⟨rfl, rfl, rfl, rfl, rfl⟩ rfl rfl rfl rfl rfl (by kernel_rfl) Yba.func6 (by kernel_rfl)
    (of_decide_eq_true (by kernel_rfl)) (by unfold Func.isWrapper; first | (rw [if_pos (by decide +kernel)]; kernel_rfl) | (rw [if_neg (by decide +kernel)]; exact ⟨rfl, rfl⟩))
    (fun os started H enc _ => lifted os started H enc)

/-- ████ THE STATEMENT ████ -/
theorem proved : Rows.LawS1412CLeaderOrderSaid :=
  over
end Go.Proofs.Ybulkacfi.lawS1412CLeaderOrder
