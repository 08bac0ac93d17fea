/-
  '(*Bully).id', '.leads' (functions 13, 14), and '(*Bully).Receive' (function 11) at an ELEC, an OK, and at any other kind.
-/
import Derived.Test.YbulkacfiSend
namespace Go.Proofs.Ybulkacfi
open Go.RowKit Go.Maps

theorem nil_ahead (a : Addr) (w : World) : (nilAhead 173 35 (.pointer (some a)) "Send").run Yba.prog w = .ok (some false) w := by kernel_rfl
theorem method_send (a : Addr) (w : World) : (method 173 35 (.pointer (some a)) "Send").run Yba.prog w = .ok (32, .pointer (some a)) w := by kernel_rfl

theorem GroupAt.same {n g kb mb : Nat} {w w' : World} (h : GroupAt n g kb mb w) (he : w'.heap = w.heap) : GroupAt n g kb mb w' := h.kept fun k _ => by rw [he]

/-- Only the blocks m, s and ib, and new ones, may have turned. -/
structure Turn (m s ib : Nat) (W W' : World) : Prop where
  os : W'.os = W.os
  tape : W'.tape = W.tape
  output : W'.output = W.output
  size : W.heap.size ≤ W'.heap.size
  block : ∀ k, k < W.heap.size → k ≠ m → k ≠ s → k ≠ ib → W'.heap[k]? = W.heap[k]?

theorem Turn.refl (m s ib : Nat) (W : World) : Turn m s ib W W := ⟨rfl, rfl, rfl, Nat.le_refl _, fun _ _ _ _ _ => rfl⟩
theorem Turn.trans {m s ib : Nat} {a b c : World} (h : Turn m s ib a b) (k : Turn m s ib b c) : Turn m s ib a c :=
  ⟨k.os.trans h.os, k.tape.trans h.tape, k.output.trans h.output, Nat.le_trans h.size k.size, fun i hi h1 h2 h3 => (k.block i (Nat.lt_of_lt_of_le hi h.size) h1 h2 h3).trans (h.block i hi h1 h2 h3)⟩
theorem Turn.grown {m s ib : Nat} {a b c : World} {row : Option Nat} (h : Turn m s ib a b) (hg : b.grownBy c row) (hr : ∀ k, row = some k → k = m ∨ k = s ∨ k = ib) : Turn m s ib a c :=
  h.trans ⟨hg.os, hg.tape, hg.output, hg.size, fun k hk h1 h2 h3 => hg.block k hk (fun e => by rcases hr k e.symm with h | h | h; exact h1 h; exact h2 h; exact h3 h)⟩
theorem Turn.alloc {m s ib : Nat} {a b : World} (h : Turn m s ib a b) (o : Obj) : Turn m s ib a (b.alloc o) := h.grown (World.grownBy_alloc b o none) (fun k hk => by cases hk)
theorem Turn.setCell {m s ib : Nat} {a b : World} (h : Turn m s ib a b) (j : Nat) (v : Value) : Turn m s ib a (b.setCell ⟨m, j, none⟩ v) :=
  h.trans ⟨rfl, rfl, rfl, by simp, fun k _ h1 _ _ => heap_setCell_other b ⟨m, j, none⟩ k v h1⟩
theorem Turn.drewN {m s ib : Nat} {a b : World} (h : Turn m s ib a b) (q : Nat) : Turn m s ib a (b.drewN q) := ⟨h.os, h.tape, h.output, h.size, h.block⟩

/-- What the sender holds behind its one Send. -/
def SentAt (s : Nat) (to : Int) (msg : Array Value) (B : Nat) (w' : World) : Prop := ∃ g1 c1 g2 c2, w'.heap[s]? = some (.cells #[.slice (some ⟨g1, 0, none⟩) 1 c1, .slice (some ⟨g2, 0, none⟩) 1 c2] 38 (0, 0)) ∧
  B ≤ g1 ∧ g1 < w'.heap.size ∧ B ≤ g2 ∧ g2 < w'.heap.size ∧ w'.cell? ⟨g1, 0, none⟩ = some (.int .i64 to) ∧ ∀ j, j < 5 → w'.cell? ⟨g2, j, none⟩ = msg[j]?
theorem SentAt.kept {s : Nat} {to : Int} {msg : Array Value} {B : Nat} {w w' : World} (h : SentAt s to msg B w) (hz : w.heap.size ≤ w'.heap.size) (hs : w'.heap[s]? = w.heap[s]?) (hb : ∀ k, B ≤ k → k < w.heap.size → w'.heap[k]? = w.heap[k]?) : SentAt s to msg B w' := by
  obtain ⟨g1, c1, g2, c2, h1, h2, h3, h4, h5, h6, h7⟩ := h
  exact ⟨g1, c1, g2, c2, hs.trans h1, h2, by omega, h4, by omega, (World.cell?_of_block (w := w) (hb g1 h2 h3)).trans h6, fun j hj => (World.cell?_of_block (w := w) (a := ⟨g2, j, none⟩) (hb g2 h4 h5)).trans (h7 j hj)⟩

theorem ownsRow_same {w w' : World} {base : Nat} {e : TypeId} {size : Nat} {v : Value} {n : Nat} {xs : List Value} (h : w.ownsRow base e size v n xs) (he : w'.heap = w.heap) : w'.ownsRow base e size v n xs := by
  obtain ⟨h1, h2⟩ := h
  refine ⟨h1, ?_⟩
  rcases h2 with h2 | ⟨g, cap, cur, hv, hg, hh, r⟩
  · exact Or.inl h2
  · exact Or.inr ⟨g, cap, cur, hv, hg, by rw [he]; exact hh, r⟩
theorem ownsRow_block {w w' : World} {base : Nat} {e : TypeId} {size : Nat} {g n cap : Nat} {xs : List Value} (h : w.ownsRow base e size (.slice (some ⟨g, 0, none⟩) n cap) n xs) (he : w'.heap[g]? = w.heap[g]?) : w'.ownsRow base e size (.slice (some ⟨g, 0, none⟩) n cap) n xs := by
  obtain ⟨h1, h2⟩ := h
  refine ⟨h1, ?_⟩
  rcases h2 with h2 | ⟨g', cap', cur, hv, hg, hh, r⟩
  · exact Or.inl h2
  · simp only [Value.slice.injEq, Option.some.injEq, Addr.mk.injEq, and_true, true_and] at hv
    obtain ⟨rfl, rfl⟩ := hv
    exact Or.inr ⟨g, cap, cur, rfl, hg, by rw [he]; exact hh, r⟩
theorem after_app {W w9 : World} {o ob : Obj} {q ib k : Nat} (h : ((W.alloc o).drewN q).grownBy w9 (some ib)) (hk : k ≠ ib) (hb : W.heap[k]? = some ob) : w9.heap[k]? = some ob := by
  have hl := (Array.getElem?_eq_some_iff.1 hb).1
  rw [h.block k (by show k < (W.alloc o).heap.size; simp; omega) (fun e => hk (by injection e))]
  exact (Below.heap_alloc W o k hl).trans hb
theorem news_at (w : World) (a : Addr) (x v : Value) (t : TypeId) (q : Nat) : ∀ j u, [v][j]? = some u → (((w.setCell a x).alloc (.cells #[v] t)).drewN q).cell? ((⟨w.heap.size, 0, none⟩ : Addr).add j) = some u := by
  have h := heap_alloc_new (w.setCell a x) (.cells #[v] t)
  rw [show (w.setCell a x).heap.size = w.heap.size by simp] at h
  exact World.news_of_block (cs := #[v]) (t := t) (fr := (0, 0)) h

section
variable (n g kb mb m r s : Nat) (lead now st fr id rank ttl : Int) (el chd ok came u : Bool) (chal out : Value) (w : World)

set_option maxHeartbeats 1000000 in
set_option maxRecDepth 100000 in
theorem id_any (hr : r < n) (hG : GroupAt n g kb mb w) (hm : w.heap[m]? = some (.cells (bc g r lead now el st chd chal ok came) 29 (0, 0))) :
    Calls Yba.prog 13 #[.pointer (some ⟨m, 0, none⟩)] w fun e w' => e = .returned (.int .i64 ((r : Int) + 1)) ∧ ∃ q, w' = w.drewN q := by
  have m0 : w.cell? ⟨m, 0, none⟩ = some (.pointer (some ⟨g, 0, none⟩)) := block_cell hm rfl
  have m1 : w.cell? ⟨m, 1, none⟩ = some (.int .i64 r) := block_cell hm rfl
  have g0 : w.cell? ⟨g, 0, none⟩ = some (.slice (some ⟨kb, 0, none⟩) n n) := block_cell hG.blk rfl
  have k1 := hG.keys r hr
  have hr1 : (r : Int) < (n : Int) := by omega
  have hr0 : (0 : Int) ≤ (r : Int) := by omega
  clear hm hG
  go_enter Yba.func13, Yba.ntmps13
  go_wp2
  go_quiet (fail)
  go_wp2
  go_ret
  exact ⟨rfl, _, rfl⟩

set_option maxHeartbeats 1000000 in
set_option maxRecDepth 100000 in
theorem leads_any (hr : r < n) (hG : GroupAt n g kb mb w) (hm : w.heap[m]? = some (.cells (bc g r lead now el st chd chal ok came) 29 (0, 0))) :
    Calls Yba.prog 14 #[.pointer (some ⟨m, 0, none⟩)] w fun e w' => e = .returned (.bool (lead == (r : Int) + 1)) ∧ ∃ q, w' = w.drewN q := by
  have m2 : w.cell? ⟨m, 2, none⟩ = some (.int .i64 lead) := block_cell hm rfl
  have Hi : ∀ q, Calls Yba.prog 13 #[.pointer (some ⟨m, 0, none⟩)] (w.drewN q) fun e w' => e = .returned (.int .i64 ((r : Int) + 1)) ∧ ∃ q', w' = (w.drewN q).drewN q' := fun q => id_any n g kb mb m r lead now st el chd ok came chal (w.drewN q) hr (hG.drewN q) hm
  have HI := hide Hi
  clear hm hG Hi
  go_enter Yba.func14, Yba.ntmps14
  go_wp2
  go_quiet ((go_at_call 13; exact Calls.quiet_of (HI.out _)))
  go_wp2
  go_ret
  exact ⟨rfl, _, rfl⟩

set_option maxHeartbeats 1000000 in
set_option maxRecDepth 100000 in
theorem recv_other (k : Int) (hk : 3 ≤ k) :
    Calls Yba.prog 11 #[.pointer (some ⟨m, 0, none⟩), .int .i64 fr, .agg (mc k u id rank ttl), out] w fun e w' => e = .returned (.tuple #[]) ∧ w' = w.alloc (.cells (mc k u id rank ttl) 32) := by
  unfold mc
  go_enter Yba.func11, Yba.ntmps11
  go_wp2
  go_end0
  exact ⟨rfl, rfl⟩

set_option maxHeartbeats 1000000 in
set_option maxRecDepth 100000 in
theorem recv_ok_no (hG : GroupAt n g kb mb w) (hm : w.heap[m]? = some (.cells (bc g r lead now el st chd chal ok came) 29 (0, 0)))
    (wfr : (Lit.int .i64 fr).wf = true) (hlt : ¬ (r : Int) < rk n fr) :
    Calls Yba.prog 11 #[.pointer (some ⟨m, 0, none⟩), .int .i64 fr, .agg (mc 2 u id rank ttl), out] w fun e w' => e = .returned (.tuple #[]) ∧ ∃ q, w' = (w.alloc (.cells (mc 2 u id rank ttl) 32)).drewN q := by
  have m0 : w.cell? ⟨m, 0, none⟩ = some (.pointer (some ⟨g, 0, none⟩)) := block_cell hm rfl
  have m1 : w.cell? ⟨m, 1, none⟩ = some (.int .i64 r) := block_cell hm rfl
  have ml := block_lt hm
  have g1 : w.cell? ⟨g, 1, none⟩ = some (.map (some mb)) := block_cell hG.blk rfl
  have gl := hG.lt
  have L2 : ∀ (o : Obj) (q : Nat), (Instr.lookup 44 (.map (some mb)) (.int .i64 fr) false).run Yba.prog ((w.alloc o).drewN q) = .ok (.int .i64 (rk n fr)) ((w.alloc o).drewN q) := fun o q => ((hG.alloc o).drewN q).look wfr
  clear hm hG
  unfold mc
  go_enter Yba.func11, Yba.ntmps11
  go_wp2
  go_quiet (fail)
  go_wp2
  go_end0
  exact ⟨rfl, _, rfl⟩

set_option maxHeartbeats 1000000 in
set_option maxRecDepth 100000 in
theorem recv_ok_yes (hG : GroupAt n g kb mb w) (hm : w.heap[m]? = some (.cells (bc g r lead now el st chd chal ok came) 29 (0, 0)))
    (wfr : (Lit.int .i64 fr).wf = true) (hlt : (r : Int) < rk n fr) :
    Calls Yba.prog 11 #[.pointer (some ⟨m, 0, none⟩), .int .i64 fr, .agg (mc 2 u id rank ttl), out] w fun e w' => e = .returned (.tuple #[]) ∧ ∃ q, w' = ((w.alloc (.cells (mc 2 u id rank ttl) 32)).drewN q).setCell ⟨m, 12, none⟩ (.bool true) := by
  have m0 : w.cell? ⟨m, 0, none⟩ = some (.pointer (some ⟨g, 0, none⟩)) := block_cell hm rfl
  have m1 : w.cell? ⟨m, 1, none⟩ = some (.int .i64 r) := block_cell hm rfl
  have m12 : w.cell? ⟨m, 12, none⟩ = some (.bool ok) := block_cell hm rfl
  have f12 : w.frozen? ⟨m, 12, none⟩ = false := block_free hm
  have ml := block_lt hm
  have g1 : w.cell? ⟨g, 1, none⟩ = some (.map (some mb)) := block_cell hG.blk rfl
  have gl := hG.lt
  have L2 : ∀ (o : Obj) (q : Nat), (Instr.lookup 44 (.map (some mb)) (.int .i64 fr) false).run Yba.prog ((w.alloc o).drewN q) = .ok (.int .i64 (rk n fr)) ((w.alloc o).drewN q) := fun o q => ((hG.alloc o).drewN q).look wfr
  clear hm hG
  unfold mc
  go_enter Yba.func11, Yba.ntmps11
  go_wp2
  go_quiet (fail)
  go_wp2
  go_end0
  exact ⟨rfl, _, rfl⟩

set_option maxHeartbeats 1000000 in
set_option maxRecDepth 100000 in
theorem recv_elec_no (hG : GroupAt n g kb mb w) (hm : w.heap[m]? = some (.cells (bc g r lead now el st chd chal ok came) 29 (0, 0)))
    (wfr : (Lit.int .i64 fr).wf = true) (hno : mem n fr = false ∨ ¬ rk n fr < (r : Int)) :
    Calls Yba.prog 11 #[.pointer (some ⟨m, 0, none⟩), .int .i64 fr, .agg (mc 0 u id rank ttl), out] w fun e w' => e = .returned (.tuple #[]) ∧ w' = w.alloc (.cells (mc 0 u id rank ttl) 32) := by
  have m0 : w.cell? ⟨m, 0, none⟩ = some (.pointer (some ⟨g, 0, none⟩)) := block_cell hm rfl
  have m1 : w.cell? ⟨m, 1, none⟩ = some (.int .i64 r) := block_cell hm rfl
  have ml := block_lt hm
  have g1 : w.cell? ⟨g, 1, none⟩ = some (.map (some mb)) := block_cell hG.blk rfl
  have gl := hG.lt
  have L : ∀ (o : Obj), (Instr.lookup 44 (.map (some mb)) (.int .i64 fr) true).run Yba.prog (w.alloc o) = .ok (.tuple #[.int .i64 (rk n fr), .bool (mem n fr)]) (w.alloc o) := fun o => (hG.alloc o).look_ok wfr
  clear hm hG
  unfold mc
  cases hmem : mem n fr with
  | false =>
    rw [hmem] at L
    go_enter Yba.func11, Yba.ntmps11
    go_wp2
    go_end0
    exact ⟨rfl, rfl⟩
  | true =>
    rw [hmem] at L
    have hlt : ¬ rk n fr < (r : Int) := hno.resolve_left (by rw [hmem]; decide)
    clear hno
    go_enter Yba.func11, Yba.ntmps11
    go_wp2
    go_end0
    exact ⟨rfl, rfl⟩

set_option maxHeartbeats 1000000 in
set_option maxRecDepth 100000 in
theorem recv_elec_yes (ib B len : Nat) (xs : List Value) (hr : r < n) (hG : GroupAt n g kb mb w) (hm : w.heap[m]? = some (.cells (bc g r lead now el st chd (.slice (some ⟨ib, 0, none⟩) len len) ok came) 29 (0, 0))) (hs : w.heap[s]? = some (.cells #[.slice none 0 0, .slice none 0 0] 38 (0, 0)))
    (hown : w.ownsRow B 3 1 (.slice (some ⟨ib, 0, none⟩) len len) len xs) (hlen : len ≤ 1024)
    (hgi : g < ib) (him : ib < m) (hms : m < s) (wfr : (Lit.int .i64 fr).wf = true) (hmem : mem n fr = true) (hlt : rk n fr < (r : Int)) :
    Calls Yba.prog 11 #[.pointer (some ⟨m, 0, none⟩), .int .i64 fr, .agg (mc 0 u id rank ttl), .iface 35 (.pointer (some ⟨s, 0, none⟩))] w fun e w' => e = .returned (.tuple #[]) ∧
      ∃ cg cc, w'.heap[m]? = some (.cells (bc g r lead now el st true (.slice (some ⟨cg, 0, none⟩) (if lead = (r : Int) + 1 then len + 1 else len) cc) ok came) 29 (0, 0)) ∧
        w'.ownsRow B 3 1 (.slice (some ⟨cg, 0, none⟩) (if lead = (r : Int) + 1 then len + 1 else len) cc) (if lead = (r : Int) + 1 then len + 1 else len) (if lead = (r : Int) + 1 then xs ++ [.int .i64 fr] else xs) ∧
        SentAt s fr (mc 2 false ((r : Int) + 1) 0 0) w.heap.size w' ∧ Turn m s ib w w' := by
  obtain ⟨i3, hi3, hz30, hz31, hz32⟩ := info_parts Yba.info3'
  have m0 : w.cell? ⟨m, 0, none⟩ = some (.pointer (some ⟨g, 0, none⟩)) := block_cell hm rfl
  have m1 : w.cell? ⟨m, 1, none⟩ = some (.int .i64 r) := block_cell hm rfl
  have ml := block_lt hm
  have g1 : w.cell? ⟨g, 1, none⟩ = some (.map (some mb)) := block_cell hG.blk rfl
  have gl := hG.lt
  have L : ∀ (o : Obj), (Instr.lookup 44 (.map (some mb)) (.int .i64 fr) true).run Yba.prog (w.alloc o) = .ok (.tuple #[.int .i64 (rk n fr), .bool true]) (w.alloc o) := fun o => by have h := (hG.alloc o).look_ok wfr; rw [hmem] at h; exact h
  have HG := hide hG
  have HM := hide hm
  have HS := hide hs
  have HO := hide hown
  have HMEM := hide hmem
  have hBi := (hown.lt ib rfl).1
  clear hm hG hs hmem hown
  have na := nil_ahead
  have ms := method_send
  have sl := block_lt HS.out
  have sd := fun W => send_any s fr 2 ((r : Int) + 1) 0 0 false W
  simp only [mc] at sd
  have SD := hide sd
  clear sd
  unfold mc
  go_enter Yba.func11, Yba.ntmps11
  go_wp2_with fail
  go_region_with (first
    | (go_at_call 13; refine (id_any n g kb mb m r lead now st el chd ok came (.slice (some ⟨ib, 0, none⟩) len len) _ hr ?_ ?_).mono ?_; exact (HG.out.alloc _).same rfl; exact (Below.heap_alloc w _ m ml).trans HM.out; rintro e w' ⟨rfl, q1, rfl⟩)
    | (go_at_call 32; refine (SD.out _ ?_).mono ?_; exact (Below.heap_alloc w _ s sl).trans HS.out; rintro e w5 ⟨rfl, hsent⟩))
  all_goals
    obtain ⟨g1', c1', g2', c2', k1, k2, k3, k4, k5, k6, k7, k8⟩ := hsent
    have old5 : ∀ k, k < w.heap.size → k ≠ s → w5.heap[k]? = w.heap[k]? := fun k hk hne => (k8.block k (by show k < (w.alloc _).heap.size; simp; omega) (fun e => hne (by injection e))).trans (Below.heap_alloc w _ k hk)
    have z5 : w.heap.size + 1 ≤ w5.heap.size := by have h := k8.size; have h2 : (w.alloc (.cells #[.int .u8 0, .bool u, .int .i64 id, .int .i64 rank, .int .i64 ttl] 32)).heap.size ≤ w5.heap.size := h; simpa using h2
    have M5 := (old5 m ml (by omega)).trans HM.out
    have G5 : GroupAt n g kb mb w5 := HG.out.kept fun k hk => old5 k (by omega) (by omega)
    have O5 := ownsRow_block (w' := w5) HO.out (old5 ib (by omega) (by omega))
    have T5 : Turn m s ib w w5 := ((Turn.refl m s ib w).alloc (.cells #[.int .u8 0, .bool u, .int .i64 id, .int .i64 rank, .int .i64 ttl] 32)).trans ⟨k8.os, k8.tape, k8.output, k8.size, fun k hk h1 h2 h3 => k8.block k hk (fun e => h2 (by injection e))⟩
    have S5 : SentAt s fr #[.int .u8 2, .bool false, .int .i64 ((r : Int) + 1), .int .i64 0, .int .i64 0] w.heap.size w5 := ⟨g1', c1', g2', c2', k1, by have h : (w.alloc (.cells #[.int .u8 0, .bool u, .int .i64 id, .int .i64 rank, .int .i64 ttl] 32)).heap.size ≤ g1' := k2; simp at h; omega, k3, by have h : (w.alloc (.cells #[.int .u8 0, .bool u, .int .i64 id, .int .i64 rank, .int .i64 ttl] 32)).heap.size ≤ g2' := k4; simp at h; omega, k5, k6, k7⟩
    clear k1 k2 k3 k4 k5 k6 k7 k8 old5
    have m10 : w5.cell? ⟨m, 10, none⟩ = some (.bool chd) := block_cell M5 rfl
    have m11 : w5.cell? ⟨m, 11, none⟩ = some (.slice (some ⟨ib, 0, none⟩) len len) := block_cell M5 rfl
    have f10 : w5.frozen? ⟨m, 10, none⟩ = false := block_free M5
    have M6 : (w5.setCell ⟨m, 10, none⟩ (.bool true)).heap[m]? = some (.cells (bc g r lead now el st true (.slice (some ⟨ib, 0, none⟩) len len) ok came) 29 (0, 0)) := heap_setCell_same w5 m 10 _ 29 _ M5
    have G6 : GroupAt n g kb mb (w5.setCell ⟨m, 10, none⟩ (.bool true)) := G5.kept fun k hk => heap_setCell_other w5 ⟨m, 10, none⟩ k _ (by show k ≠ m; omega)
    have O6 := ownsRow_block (w' := w5.setCell ⟨m, 10, none⟩ (.bool true)) O5 (heap_setCell_other w5 ⟨m, 10, none⟩ ib _ (by show ib ≠ m; omega))
    have T6 := T5.setCell 10 (.bool true)
    have S6 : SentAt s fr #[.int .u8 2, .bool false, .int .i64 ((r : Int) + 1), .int .i64 0, .int .i64 0] w.heap.size (w5.setCell ⟨m, 10, none⟩ (.bool true)) := S5.kept (by simp) (heap_setCell_other w5 ⟨m, 10, none⟩ s _ (by show s ≠ m; omega)) (fun k h1 _ => heap_setCell_other w5 ⟨m, 10, none⟩ k _ (by show k ≠ m; omega))
    have M6h := hide M6
    have G6h := hide G6
    have O6h := hide O6
    have S6h := hide S6
    clear M5 G5 O5 T5 S5 M6 G6 O6 S6
    by_cases hl : lead = (r : Int) + 1
    · have hlb : (lead == (r : Int) + 1) = true := by simpa using hl
      have HL := hide hl
      clear hl
      go_wp2_with fail
      have LD := leads_any n g kb mb m r lead now st el true ok came (.slice (some ⟨ib, 0, none⟩) len len) (w5.setCell ⟨m, 10, none⟩ (.bool true)) hr G6h.out M6h.out
      rw [hlb] at LD
      refine LD.mono ?_
      rintro e w6 ⟨rfl, q2, rfl⟩
      clear LD hlb
      go_wp2_with (at_builtin; refine wpList_append_lies _ rfl (.tmp 55) (.tmp 57) 22 rfl B 3 i3 (.int .i64 0) 1 8 Yba.underlying22 hi3 hz30 hz31 hz32 rfl (by omega) (.slice (some ⟨ib, 0, none⟩) len len) len xs rfl (ownsRow_same (O6h.out.alloc _) rfl) ⟨w5.heap.size, 0, none⟩ 1 1 [.int .i64 fr] rfl rfl (news_at _ _ _ _ _ _) (by simp [Value.oneCell']) (by omega) (by unfold maxLen; omega) (by omega) (by simp; omega) (w5.heap.size + 1) (by simp) ?_; intro g9 c9 w9 own9 grow9 at9 lt9; have M9 := after_app (by exact grow9) (show m ≠ ib by omega) M6h.out; have c9' : w9.cell? ⟨m, 11, none⟩ = some (.slice (some ⟨ib, 0, none⟩) len len) := block_cell M9 rfl; have f9 : w9.frozen? ⟨m, 11, none⟩ = false := block_free M9)
      go_end0
      try rw [if_pos HL.out]
      try rw [if_pos HL.out]
      try rw [if_pos HL.out]
      have gr9 : (((w5.setCell ⟨m, 10, none⟩ (.bool true)).alloc (.cells #[.int .i64 fr] 3)).drewN q2).grownBy w9 (some ib) := grow9
      have at9' : ib = g9 ∨ g9 = w5.heap.size + 1 := by rcases at9 with h | h; exact .inl (by injection h); exact .inr h
      rw [HL.out] at M9
      refine ⟨rfl, g9, c9, heap_setCell_same w9 m 11 _ 29 _ M9, ?_, ?_, ?_⟩
      · exact ownsRow_block own9 (heap_setCell_other w9 ⟨m, 11, none⟩ g9 _ (by show g9 ≠ m; omega))
      · refine S6h.out.kept ?_ ?_ ?_
        · have := gr9.size
          simp at this ⊢
          omega
        · rw [heap_setCell_other w9 ⟨m, 11, none⟩ s _ (by show s ≠ m; omega)]
          exact (gr9.block s (by simp; omega) (fun e => by injection e; omega)).trans (Below.heap_alloc _ _ s (by simp; omega))
        · intro k h1 h2
          rw [heap_setCell_other w9 ⟨m, 11, none⟩ k _ (by show k ≠ m; omega)]
          exact (gr9.block k (by simp at h2 ⊢; omega) (fun e => by injection e; omega)).trans (Below.heap_alloc _ _ k h2)
      · exact (((T6.alloc _).drewN q2).grown gr9 (fun k hk => by injection hk; omega)).setCell 11 _
    · have hlb : (lead == (r : Int) + 1) = false := by simpa using hl
      have HL := hide hl
      clear hl
      go_wp2_with fail
      have LD := leads_any n g kb mb m r lead now st el true ok came (.slice (some ⟨ib, 0, none⟩) len len) (w5.setCell ⟨m, 10, none⟩ (.bool true)) hr G6h.out M6h.out
      rw [hlb] at LD
      refine LD.mono ?_
      rintro e w6 ⟨rfl, q2, rfl⟩
      clear LD
      go_wp2_with fail
      go_end0
      try rw [if_neg HL.out]
      try rw [if_neg HL.out]
      try rw [if_neg HL.out]
      exact ⟨rfl, ib, len, M6h.out, ownsRow_same O6h.out rfl, S6h.out.kept (Nat.le_refl _) rfl (fun _ _ _ => rfl), T6.drewN q2⟩
end

end Go.Proofs.Ybulkacfi
