/-
  The walks of 'election.LawS1412CModel' (function 5), one theorem a case (an ELEC that is answered, the member does not lead). Written by a program of mine (gen/model_cases.py).
-/
import Derived.Test.YbulkacfiModelKit
import Derived.OpenShut
namespace Go.Proofs.Ybulkacfi
open Go.RowKit Go.Maps
set_option linter.unusedVariables false

set_option maxHeartbeats 1000000 in
set_option maxRecDepth 100000 in
theorem model_elec_yes (a0 a1 a2 a7 a8 a9 : Int) (a3 a4 a5 : Bool) (a6 : Option Addr) (len cap n r : Nat) (cs : List Value) (w : World)
    (b0 : 0 ≤ a0) (b0' : a0 ≤ 255) (b1 : 0 ≤ a1) (b1' : a1 ≤ 255) (b8 : 0 ≤ a8) (b8' : a8 ≤ 255) (hn : a0 % 8 + 1 = n) (hr : a1 % (n : Int) = r) (hn8 : n ≤ 8) (hrn : r < n)
    (w2 : (Lit.int .i64 a2).wf = true) (hrow : RowAt w a6 len cs) (hlen : len ≤ 1024) (w7 : (Lit.int .i64 a7).wf = true) (w9 : (Lit.int .i64 a9).wf = true) (hk : a8 % 8 = 0) (hmem : mem n a7 = true) (hv1 : 1 ≤ a7) (hv2 : a7 ≤ n) (hlt : a7 - 1 < (r : Int)) (hl : (a2 == (r : Int) + 1) = false) :
    Calls Yba.prog 5 #[.int .u8 a0, .int .u8 a1, .int .i64 a2, .bool a3, .bool a4, .bool a5, .slice a6 len cap, .int .i64 a7, .int .u8 a8, .int .i64 a9] w fun e w' => e = .returned (.bool true) ∧ Below w.heap.size w w' := by
  have hl1 : (len : Int) ≤ 1024 := by omega
  have hn1' : (1 : Int) ≤ (n : Int) := by omega
  obtain ⟨Z, hZ, hmk⟩ := make_ints len hlen
  have HZ := hide hZ
  have HL : Hid (¬ a2 = (r : Int) + 1) := hide (by simpa using hl)
  have HROW := hide hrow
  clear hZ hrow
  go_enter Yba.func5, Yba.ntmps5
  go_wp2_with fail
  refine (group_any _ n rfl _ hn8).mono ?_
  rintro e wg ⟨g, kb, mb, rfl, hgs, hG, hbg⟩
  have hcp1 := copy_new (cap := cap) HROW.out hbg HZ.out rfl
  have hcp2 := copy_new (cap := cap) (H := wg.heap.size + 1 + 1 + 1) HROW.out (((hbg.alloc hbg.size (.cells cs.toArray 3)).alloc (by simp; have := hbg.size; omega) (.cells #[.pointer (some ⟨g, 0, none⟩), .int .i64 r, .int .i64 a2, .int .i64 5, .bool true, .int .i64 3, .bool false, .int .i64 0, .bool false, .int .i64 0, .bool a4, .slice (some ⟨wg.heap.size, 0, none⟩) len len, .bool a5, .bool a3] 29)).alloc (by simp; have := hbg.size; omega) (.cells #[.int .u8 0, .bool false, .int .i64 a9, .int .i64 7, .int .i64 2] 32)) HZ.out (by simp)
  have HG := hide hG
  clear hG
  go_wp2_with fail
  refine (member_any a7 _ n rfl _).mono ?_
  rw [hmem]
  rintro e w' ⟨rfl, rfl⟩
  go_wp2_with fail
  clear hcp1 hcp2
  obtain ⟨q0, q1, q3, qB⟩ := four (w := wg) (.cells cs.toArray 3) (.cells #[.pointer (some ⟨g, 0, none⟩), .int .i64 r, .int .i64 a2, .int .i64 5, .bool true, .int .i64 3, .bool false, .int .i64 0, .bool false, .int .i64 0, .bool a4, .slice (some ⟨wg.heap.size, 0, none⟩) len len, .bool a5, .bool a3] 29) (.cells #[.int .u8 0, .bool false, .int .i64 a9, .int .i64 7, .int .i64 2] 32) (.cells cs.toArray 3)
  have R := ready_mk (lead := a2) (came := a3) (chd := a4) (ok := a5) HG.out hgs hbg hrn hlen HROW.out.1 q0 q1 qB (wg.heap.size + 1 + 1 + 1 + 1) (by simp)
  refine (rec_elec_yes R _ _ w7 hmem (by rw [rk_of hv1 hv2]; omega)).mono ?_
  rintro e V ⟨rfl, RS, hsent⟩
  rw [if_neg HL.out, if_neg HL.out] at RS
  have hbV := RS.bel
  have hW : V.heap[wg.heap.size + 1 + 1 + 1]? = some (.cells cs.toArray 3 (0, 0)) := (RS.turn.block _ (by simp) (by omega) (by omega) (by omega)).trans ((Below.heap_alloc _ _ _ (by simp)).trans q3)
  obtain ⟨cg, cc, hbm, hcs⟩ := RS.blk
  have EQ := hide (equal_any cg (wg.heap.size + 1 + 1 + 1) len cc len V (by omega) (eq_cells HROW.out hcs (fun k _ => cells_of_block hW k) HROW.out.1 (fun v hv => .inl hv)))
  obtain ⟨g1, c1, g2, c2, hsn, _, _, _, _, t0, tm⟩ := hsent
  have s0 : V.cell? ⟨wg.heap.size + 1 + 1 + 1 + 1, 0, none⟩ = some (.slice (some ⟨g1, 0, none⟩) 1 c1) := block_cell hsn rfl
  have s1 : V.cell? ⟨wg.heap.size + 1 + 1 + 1 + 1, 1, none⟩ = some (.slice (some ⟨g2, 0, none⟩) 1 c2) := block_cell hsn rfl
  have u0 : V.cell? ⟨g2, 0, none⟩ = some (.int .u8 2) := tm 0 (by omega)
  have u1 : V.cell? ⟨g2, 1, none⟩ = some (.bool false) := tm 1 (by omega)
  have u2 : V.cell? ⟨g2, 2, none⟩ = some (.int .i64 ((r : Int) + 1)) := tm 2 (by omega)
  have u3 : V.cell? ⟨g2, 3, none⟩ = some (.int .i64 0) := tm 3 (by omega)
  have u4 : V.cell? ⟨g2, 4, none⟩ = some (.int .i64 0) := tm 4 (by omega)
  have m0 : V.cell? ⟨wg.heap.size + 1, 0, none⟩ = some (.pointer (some ⟨g, 0, none⟩)) := block_cell hbm rfl
  have m1 : V.cell? ⟨wg.heap.size + 1, 1, none⟩ = some (.int .i64 r) := block_cell hbm rfl
  have m2 : V.cell? ⟨wg.heap.size + 1, 2, none⟩ = some (.int .i64 a2) := block_cell hbm rfl
  have m3 : V.cell? ⟨wg.heap.size + 1, 3, none⟩ = some (.int .i64 5) := block_cell hbm rfl
  have m4 : V.cell? ⟨wg.heap.size + 1, 4, none⟩ = some (.bool true) := block_cell hbm rfl
  have m5 : V.cell? ⟨wg.heap.size + 1, 5, none⟩ = some (.int .i64 3) := block_cell hbm rfl
  have m6 : V.cell? ⟨wg.heap.size + 1, 6, none⟩ = some (.bool false) := block_cell hbm rfl
  have m7 : V.cell? ⟨wg.heap.size + 1, 7, none⟩ = some (.int .i64 0) := block_cell hbm rfl
  have m8 : V.cell? ⟨wg.heap.size + 1, 8, none⟩ = some (.bool false) := block_cell hbm rfl
  have m9 : V.cell? ⟨wg.heap.size + 1, 9, none⟩ = some (.int .i64 0) := block_cell hbm rfl
  have m10 : V.cell? ⟨wg.heap.size + 1, 10, none⟩ = some (.bool true) := block_cell hbm rfl
  have m11 : V.cell? ⟨wg.heap.size + 1, 11, none⟩ = some (.slice (some ⟨cg, 0, none⟩) len cc) := block_cell hbm rfl
  have m12 : V.cell? ⟨wg.heap.size + 1, 12, none⟩ = some (.bool a5) := block_cell hbm rfl
  have m13 : V.cell? ⟨wg.heap.size + 1, 13, none⟩ = some (.bool a3) := block_cell hbm rfl
  clear RS R q0 q1 q3 qB hW hcs hbm hsn tm
  have eqg := eql_group
  go_wp2_with fail
  refine EQ.out.mono ?_
  rintro e V2 ⟨rfl, q, rfl⟩
  go_wp2_with fail
  go_ret
  exact ⟨rfl, below_drewN hbV q⟩

end Go.Proofs.Ybulkacfi
