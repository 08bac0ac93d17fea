/-
  The walks of 'election.LawS1412CModel' (function 5), one theorem a case (an ELEC that is answered, the member leads). Written by a program of mine (gen/model_cases.py).
-/
import Derived.Test.YbulkacfiModelKit
import Derived.OpenShut
namespace Go.Proofs.Ybulkacfi
open Go.RowKit Go.Maps
set_option linter.unusedVariables false

set_option maxHeartbeats 1000000 in
set_option maxRecDepth 100000 in
theorem model_elec_lead (a0 a1 a2 a7 a8 a9 : Int) (a3 a4 a5 : Bool) (a6 : Option Addr) (len cap n r : Nat) (cs : List Value) (w : World)
    (b0 : 0 ≤ a0) (b0' : a0 ≤ 255) (b1 : 0 ≤ a1) (b1' : a1 ≤ 255) (b8 : 0 ≤ a8) (b8' : a8 ≤ 255) (hn : a0 % 8 + 1 = n) (hr : a1 % (n : Int) = r) (hn8 : n ≤ 8) (hrn : r < n)
    (w2 : (Lit.int .i64 a2).wf = true) (hrow : RowAt w a6 len cs) (hlen : len ≤ 1024) (w7 : (Lit.int .i64 a7).wf = true) (w9 : (Lit.int .i64 a9).wf = true) (hk : a8 % 8 = 0) (hmem : mem n a7 = true) (hv1 : 1 ≤ a7) (hv2 : a7 ≤ n) (hlt : a7 - 1 < (r : Int)) :
    Calls Yba.prog 5 #[.int .u8 a0, .int .u8 a1, .int .i64 ((r : Int) + 1), .bool a3, .bool a4, .bool a5, .slice a6 len cap, .int .i64 a7, .int .u8 a8, .int .i64 a9] w fun e w' => e = .returned (.bool true) ∧ Below w.heap.size w w' := by
  have hl1 : (len : Int) ≤ 1024 := by omega
  have hn1' : (1 : Int) ≤ (n : Int) := by omega
  obtain ⟨Z, hZ, hmk⟩ := make_ints len hlen
  have HZ := hide hZ
  obtain ⟨i3, hi3, hz30, hz31, hz32⟩ := info_parts Yba.info3'
  have HROW := hide hrow
  clear hZ hrow
  go_enter Yba.func5, Yba.ntmps5
  go_wp2_with fail
  refine (group_any _ n rfl _ hn8).mono ?_
  rintro e wg ⟨g, kb, mb, rfl, hgs, hG, hbg⟩
  have hcp1 := copy_new (cap := cap) HROW.out hbg HZ.out rfl
  have hcp2 := copy_new (cap := cap) (H := wg.heap.size + 1 + 1 + 1) HROW.out (((hbg.alloc hbg.size (.cells cs.toArray 3)).alloc (by simp; have := hbg.size; omega) (.cells #[.pointer (some ⟨g, 0, none⟩), .int .i64 r, .int .i64 ((r : Int) + 1), .int .i64 5, .bool true, .int .i64 3, .bool false, .int .i64 0, .bool false, .int .i64 0, .bool a4, .slice (some ⟨wg.heap.size, 0, none⟩) len len, .bool a5, .bool a3] 29)).alloc (by simp; have := hbg.size; omega) (.cells #[.int .u8 0, .bool false, .int .i64 a9, .int .i64 7, .int .i64 2] 32)) HZ.out (by simp)
  have HG := hide hG
  clear hG
  go_wp2_with fail
  obtain ⟨q0, q1, q3, qB⟩ := four (w := wg) (.cells cs.toArray 3) (.cells #[.pointer (some ⟨g, 0, none⟩), .int .i64 r, .int .i64 ((r : Int) + 1), .int .i64 5, .bool true, .int .i64 3, .bool false, .int .i64 0, .bool false, .int .i64 0, .bool a4, .slice (some ⟨wg.heap.size, 0, none⟩) len len, .bool a5, .bool a3] 29) (.cells #[.int .u8 0, .bool false, .int .i64 a9, .int .i64 7, .int .i64 2] 32) (.cells cs.toArray 3)
  have OW := hide (owns_block q3 hlen HROW.out.1)
  have Q2 := hide (third (w := wg) (.cells cs.toArray 3) (.cells #[.pointer (some ⟨g, 0, none⟩), .int .i64 r, .int .i64 ((r : Int) + 1), .int .i64 5, .bool true, .int .i64 3, .bool false, .int .i64 0, .bool false, .int .i64 0, .bool a4, .slice (some ⟨wg.heap.size, 0, none⟩) len len, .bool a5, .bool a3] 29) (.cells #[.int .u8 0, .bool false, .int .i64 a9, .int .i64 7, .int .i64 2] 32) (.cells cs.toArray 3))
  have Q0 := hide q0
  have Q1 := hide q1
  have QB := hide qB
  clear q0 q1 q3 qB hcp1 hcp2
  refine (member_any a7 _ n rfl _).mono ?_
  rw [hmem]
  rintro e w' ⟨rfl, rfl⟩
  go_wp2_with (at_builtin; refine wpList_append_lies _ rfl (.tmp 95) (.tmp 97) 22 rfl (wg.heap.size + 1 + 1 + 1) 3 i3 (.int .i64 0) 1 8 Yba.underlying22 hi3 hz30 hz31 hz32 rfl (by omega) (.slice (some ⟨wg.heap.size + 1 + 1 + 1, 0, none⟩) len len) len cs rfl (OW.out.alloc _) ⟨wg.heap.size + 1 + 1 + 1 + 1, 0, none⟩ 1 1 [.int .i64 a7] rfl rfl (news_last _ _ _ _ (by simp)) (by simp [Value.oneCell']) (by omega) (by unfold maxLen; omega) (by omega) (by first | (simp; done) | (simp; omega)) (wg.heap.size + 1 + 1 + 1 + 1 + 1) (by simp) ?_; intro g9 c9 wz own9 grow9 at9 lt9; have P2 := msg_kept (by exact grow9) Q2.out (show wg.heap.size + 1 + 1 ≠ wg.heap.size + 1 + 1 + 1 by omega); have z0 : wz.cell? ⟨wg.heap.size + 1 + 1, 0, none⟩ = some (.int .u8 0) := block_cell P2 rfl; have z1 : wz.cell? ⟨wg.heap.size + 1 + 1, 1, none⟩ = some (.bool false) := block_cell P2 rfl; have z2 : wz.cell? ⟨wg.heap.size + 1 + 1, 2, none⟩ = some (.int .i64 a9) := block_cell P2 rfl; have z3 : wz.cell? ⟨wg.heap.size + 1 + 1, 3, none⟩ = some (.int .i64 7) := block_cell P2 rfl; have z4 : wz.cell? ⟨wg.heap.size + 1 + 1, 4, none⟩ = some (.int .i64 2) := block_cell P2 rfl; have zl := block_lt P2)
  clear P2 z0 z1 z2 z3 z4
  have gr9 : (((((wg.alloc (.cells cs.toArray 3)).alloc (.cells #[.pointer (some ⟨g, 0, none⟩), .int .i64 r, .int .i64 ((r : Int) + 1), .int .i64 5, .bool true, .int .i64 3, .bool false, .int .i64 0, .bool false, .int .i64 0, .bool a4, .slice (some ⟨wg.heap.size, 0, none⟩) len len, .bool a5, .bool a3] 29)).alloc (.cells #[.int .u8 0, .bool false, .int .i64 a9, .int .i64 7, .int .i64 2] 32)).alloc (.cells cs.toArray 3)).alloc (.cells #[.int .i64 a7] 3)).grownBy wz (some (wg.heap.size + 1 + 1 + 1)) := grow9
  have at9' : wg.heap.size + 1 + 1 + 1 = g9 ∨ g9 = wg.heap.size + 1 + 1 + 1 + 1 + 1 := by rcases at9 with h | h; exact .inl (by injection h); exact .inr h
  have sz9 : wg.heap.size + 1 + 1 + 1 + 1 + 1 ≤ wz.heap.size := by have h := gr9.size; simpa using h
  have p0 : wz.heap[wg.heap.size]? = _ := (gr9.block _ (by first | (simp; done) | (simp; omega)) (fun e => by injection e; omega)).trans ((Below.heap_alloc _ _ _ (by first | (simp; done) | (simp; omega))).trans Q0.out)
  have p1 : wz.heap[wg.heap.size + 1]? = _ := (gr9.block _ (by first | (simp; done) | (simp; omega)) (fun e => by injection e; omega)).trans ((Below.heap_alloc _ _ _ (by first | (simp; done) | (simp; omega))).trans Q1.out)
  have pB : Below wg.heap.size wg wz := (QB.out.alloc QB.out.size (.cells #[.int .i64 a7] 3)).grown gr9 (by first | (simp; done) | (simp; omega)) (fun k hk => by injection hk; omega)
  have R := ready_mk (lead := ((r : Int) + 1)) (came := a3) (chd := a4) (ok := a5) HG.out hgs hbg hrn hlen HROW.out.1 p0 p1 pB wz.heap.size rfl
  refine (rec_elec_yes R _ _ w7 hmem (by rw [rk_of hv1 hv2]; omega)).mono ?_
  rintro e V ⟨rfl, RS, hsent⟩
  rw [if_pos rfl, if_pos rfl] at RS
  have hbV := RS.bel
  have hW : V.heap[g9]? = wz.heap[g9]? := (RS.turn.block _ (by first | (simp; done) | (simp; omega)) (by omega) (by omega) (by omega)).trans (Below.heap_alloc _ _ _ lt9)
  have ho9 := ownsRow_block own9 hW
  obtain ⟨cg, cc, hbm, hcs⟩ := RS.blk
  have EQ := hide (equal_any cg g9 (len + 1) cc c9 V (by omega) (eq_cells HROW.out hcs (fun k hk => ho9.cellAt k (by omega)) (by simp [HROW.out.1]) (fun v hv => by rcases List.mem_append.1 hv with h | h; exact .inl h; exact .inr ⟨a7, by simpa using h⟩)))
  obtain ⟨g1, c1, g2, c2, hsn, _, _, _, _, t0, tm⟩ := hsent
  have s0 : V.cell? ⟨wz.heap.size, 0, none⟩ = some (.slice (some ⟨g1, 0, none⟩) 1 c1) := block_cell hsn rfl
  have s1 : V.cell? ⟨wz.heap.size, 1, none⟩ = some (.slice (some ⟨g2, 0, none⟩) 1 c2) := block_cell hsn rfl
  have u0 : V.cell? ⟨g2, 0, none⟩ = some (.int .u8 2) := tm 0 (by omega)
  have u1 : V.cell? ⟨g2, 1, none⟩ = some (.bool false) := tm 1 (by omega)
  have u2 : V.cell? ⟨g2, 2, none⟩ = some (.int .i64 ((r : Int) + 1)) := tm 2 (by omega)
  have u3 : V.cell? ⟨g2, 3, none⟩ = some (.int .i64 0) := tm 3 (by omega)
  have u4 : V.cell? ⟨g2, 4, none⟩ = some (.int .i64 0) := tm 4 (by omega)
  have m0 : V.cell? ⟨wg.heap.size + 1, 0, none⟩ = some (.pointer (some ⟨g, 0, none⟩)) := block_cell hbm rfl
  have m1 : V.cell? ⟨wg.heap.size + 1, 1, none⟩ = some (.int .i64 r) := block_cell hbm rfl
  have m2 : V.cell? ⟨wg.heap.size + 1, 2, none⟩ = some (.int .i64 ((r : Int) + 1)) := block_cell hbm rfl
  have m3 : V.cell? ⟨wg.heap.size + 1, 3, none⟩ = some (.int .i64 5) := block_cell hbm rfl
  have m4 : V.cell? ⟨wg.heap.size + 1, 4, none⟩ = some (.bool true) := block_cell hbm rfl
  have m5 : V.cell? ⟨wg.heap.size + 1, 5, none⟩ = some (.int .i64 3) := block_cell hbm rfl
  have m6 : V.cell? ⟨wg.heap.size + 1, 6, none⟩ = some (.bool false) := block_cell hbm rfl
  have m7 : V.cell? ⟨wg.heap.size + 1, 7, none⟩ = some (.int .i64 0) := block_cell hbm rfl
  have m8 : V.cell? ⟨wg.heap.size + 1, 8, none⟩ = some (.bool false) := block_cell hbm rfl
  have m9 : V.cell? ⟨wg.heap.size + 1, 9, none⟩ = some (.int .i64 0) := block_cell hbm rfl
  have m10 : V.cell? ⟨wg.heap.size + 1, 10, none⟩ = some (.bool true) := block_cell hbm rfl
  have m11 : V.cell? ⟨wg.heap.size + 1, 11, none⟩ = some (.slice (some ⟨cg, 0, none⟩) (len + 1) cc) := block_cell hbm rfl
  have m12 : V.cell? ⟨wg.heap.size + 1, 12, none⟩ = some (.bool a5) := block_cell hbm rfl
  have m13 : V.cell? ⟨wg.heap.size + 1, 13, none⟩ = some (.bool a3) := block_cell hbm rfl
  clear RS R p0 p1 pB hW ho9 hcs hbm hsn tm own9 grow9 gr9 at9
  have eqg := eql_group
  go_wp2_with fail
  refine EQ.out.mono ?_
  rintro e V2 ⟨rfl, q, rfl⟩
  go_wp2_with fail
  go_ret
  exact ⟨rfl, below_drewN hbV q⟩

end Go.Proofs.Ybulkacfi
