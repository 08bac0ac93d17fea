/-
  '(*zzs1412csender).Send' (function 32) at a sender that has sent nothing yet.
-/
import Derived.Test.YbulkacfiReceive
import Derived.Deep.RegionLaw
import Derived.Deep.AppendLies
import Derived.WalkSpells
import Derived.StillTactics
import Derived.Laws.Pointers
namespace Go.Proofs.Ybulkacfi
open Go.RowKit Go.Maps

theorem Yba.info3' : (Yba.prog.info? 3).map (fun i => (i.zero, i.size, i.bytes)) = some (some (.int .i64 0), 1, 8) := by kernel_rfl
theorem Yba.info32 : (Yba.prog.info? 32).map (fun i => (i.zero, i.size, i.bytes)) = some (some (.agg #[.int .u8 0, .bool false, .int .i64 0, .int .i64 0, .int .i64 0]), 5, 32) := by kernel_rfl

/-- Old blocks behind two new ones and a growth that writes none of them. -/
theorem two_then {w w1 : World} {A B : Obj} (h : ((w.alloc A).alloc B).grownBy w1 none) : (∀ k, k < w.heap.size → w1.heap[k]? = w.heap[k]?) ∧ w1.heap[w.heap.size]? = some A ∧ w.heap.size + 1 + 1 ≤ w1.heap.size := by
  have e1 : (w.alloc A).heap.size = w.heap.size + 1 := by simp
  have e2 : ((w.alloc A).alloc B).heap.size = w.heap.size + 1 + 1 := by simp
  refine ⟨fun k hk => ?_, ?_, ?_⟩
  · rw [h.block k (by omega) (by simp), Below.heap_alloc _ _ _ (by omega), Below.heap_alloc _ _ _ hk]
  · rw [h.block _ (by omega) (by simp), Below.heap_alloc _ _ _ (by omega)]
    exact heap_alloc_new w A
  · have := h.size
    omega

theorem drew_then {W w3 : World} {o ob : Obj} {s : Nat} (h : ((W.alloc o).drew).grownBy w3 none) (hs : W.heap[s]? = some ob) : w3.heap[s]? = some ob := by
  have hl := (Array.getElem?_eq_some_iff.1 hs).1
  rw [h.block s (by show s < (W.alloc o).heap.size; simp; omega) (by simp)]
  exact (Below.heap_alloc W o s hl).trans hs

theorem hide {p : Prop} (h : p) : Hid p := h

theorem news_one (w : World) (A : Obj) (v : Value) (t : TypeId) : ∀ j u, [v][j]? = some u → ((w.alloc A).alloc (.cells #[v] t)).cell? ((⟨w.heap.size + 1, 0, none⟩ : Addr).add j) = some u := by
  have e1 : (w.alloc A).heap.size = w.heap.size + 1 := by simp
  have h := heap_alloc_new (w.alloc A) (.cells #[v] t)
  rw [e1] at h
  exact World.news_of_block (cs := #[v]) (t := t) (fr := (0, 0)) h

/-- Behind one Send: the two slices hold the one receiver, the one message; nothing else has turned. -/
def Sent (s : Nat) (to : Int) (msg : Array Value) (w w' : World) : Prop := ∃ g1 c1 g2 c2, w'.heap[s]? = some (.cells #[.slice (some ⟨g1, 0, none⟩) 1 c1, .slice (some ⟨g2, 0, none⟩) 1 c2] 38 (0, 0)) ∧
  w.heap.size ≤ g1 ∧ g1 < w'.heap.size ∧ w.heap.size ≤ g2 ∧ g2 < w'.heap.size ∧ w'.cell? ⟨g1, 0, none⟩ = some (.int .i64 to) ∧ (∀ j, j < 5 → w'.cell? ⟨g2, j, none⟩ = msg[j]?) ∧ w.grownBy w' (some s)

theorem sent_mk {s : Nat} {toV : Int} {msg : Array Value} {w w1 W2 w3 : World} {A B o : Obj} {g1 c1 g2 c2 : Nat} (sl : s < w.heap.size)
    (grow1 : ((w.alloc A).alloc B).grownBy w1 none) (at1 : g1 = w.heap.size + 1 + 1) (lt1 : g1 < w1.heap.size) (own1 : w1.ownsRow w.heap.size 3 1 (.slice (some ⟨g1, 0, none⟩) 1 c1) 1 [.int .i64 toV])
    (HW : W2 = w1.setCell ⟨s, 0, none⟩ (.slice (some ⟨g1, 0, none⟩) 1 c1)) (S2 : W2.heap[s]? = some (.cells #[.slice (some ⟨g1, 0, none⟩) 1 c1, .slice none 0 0] 38 (0, 0)))
    (grow2 : ((W2.alloc o).drew).grownBy w3 none) (at2 : g2 = W2.heap.size + 1) (lt2 : g2 < w3.heap.size) (own2 : w3.ownsRow w.heap.size 32 5 (.slice (some ⟨g2, 0, none⟩) 1 c2) 1 msg.toList) :
    Sent s toV msg w (w3.setCell ⟨s, 1, none⟩ (.slice (some ⟨g2, 0, none⟩) 1 c2)) := by
  have z2 : W2.heap.size = w1.heap.size := by rw [HW]; simp
  have S3 := drew_then grow2 S2
  have o1 := (two_then grow1).1
  have hs3 : (w3.setCell ⟨s, 1, none⟩ (.slice (some ⟨g2, 0, none⟩) 1 c2)).heap.size = w3.heap.size := by simp
  have hz3 : W2.heap.size + 1 ≤ w3.heap.size := by have := grow2.size; simp at this; omega
  have old3 : ∀ k, k < w1.heap.size → k ≠ s → (w3.setCell ⟨s, 1, none⟩ (.slice (some ⟨g2, 0, none⟩) 1 c2)).heap[k]? = w1.heap[k]? := fun k hk hne => by
    rw [heap_setCell_other _ ⟨s, 1, none⟩ k _ hne, grow2.block k (by show k < (W2.alloc o).heap.size; simp; omega) (by simp)]
    show (W2.alloc o).heap[k]? = _
    rw [Below.heap_alloc W2 o k (by omega), HW, heap_setCell_other _ ⟨s, 0, none⟩ k _ hne]
  refine ⟨g1, c1, g2, c2, heap_setCell_same w3 s 1 _ 38 _ S3, by omega, by omega, by omega, by omega, ?_, fun j hj => ?_, ?_⟩
  · rw [World.cell?_of_block (w := w1) (old3 g1 lt1 (by omega)), own1.cellAt 0 (by omega)]
    rfl
  · rw [World.cell?_of_block (w := w3) (a := ⟨g2, j, none⟩) (heap_setCell_other _ ⟨s, 1, none⟩ g2 _ (by show g2 ≠ s; omega)), own2.cellAt j (by omega)]
    simp
  · have g1s := grow1.size
    refine ⟨?_, ?_, ?_, ?_, fun k hk hne => ?_⟩
    · show w3.os = w.os
      rw [grow2.os]; show W2.os = _; rw [HW]; show w1.os = _; rw [grow1.os]; rfl
    · show w3.tape = w.tape
      rw [grow2.tape]; show W2.tape = _; rw [HW]; show w1.tape = _; rw [grow1.tape]; rfl
    · show w3.output = w.output
      rw [grow2.output]; show W2.output = _; rw [HW]; show w1.output = _; rw [grow1.output]; rfl
    · simp at g1s ⊢; omega
    · rw [old3 k (by simp at g1s; omega) (fun e => hne (by rw [e])), o1 k hk]

set_option maxHeartbeats 1000000 in
set_option maxRecDepth 100000 in
theorem send_any (s : Nat) (to kind id rank ttl : Int) (u : Bool) (w : World) (hs : w.heap[s]? = some (.cells #[.slice none 0 0, .slice none 0 0] 38 (0, 0))) :
    Calls Yba.prog 32 #[.pointer (some ⟨s, 0, none⟩), .int .i64 to, .agg (mc kind u id rank ttl)] w fun e w' => e = .returned (.tuple #[]) ∧ Sent s to (mc kind u id rank ttl) w w' := by
  obtain ⟨i3, hi3, hz30, hz31, hz32⟩ := info_parts Yba.info3'
  obtain ⟨i32, hi32, hz0, hz1, hz2⟩ := info_parts Yba.info32
  have s0 : w.cell? ⟨s, 0, none⟩ = some (.slice none 0 0) := block_cell hs rfl
  have sl := block_lt hs
  unfold mc
  go_enter Yba.func32, Yba.ntmps32
  go_wp2_with (at_builtin; refine wpList_append_lies _ rfl (.tmp 10) (.tmp 12) 22 rfl w.heap.size 3 i3 (.int .i64 0) 1 8 Yba.underlying22 hi3 hz30 hz31 hz32 rfl (by omega) (.slice none 0 0) 0 [] rfl (World.ownsRow_nil _ _ _ _) ⟨w.heap.size + 1, 0, none⟩ 1 1 [.int .i64 to] rfl rfl (news_one _ _ _ _) (by simp [Value.oneCell']) (by omega) (by unfold maxLen; omega) (by omega) (by simp; omega) (w.heap.size + 1 + 1) (by simp) ?_; intro g1 c1 w1 own1 grow1 at1 lt1; obtain ⟨old1, box1, sz1⟩ := two_then (by exact grow1); have S1 := (old1 s sl).trans hs; have c0 : w1.cell? ⟨s, 0, none⟩ = some (.slice none 0 0) := block_cell S1 rfl; have f0 : w1.frozen? ⟨s, 0, none⟩ = false := block_free S1)
  obtain ⟨W2, hW2⟩ : ∃ W2, W2 = w1.setCell ⟨s, 0, none⟩ (.slice (some ⟨g1, 0, none⟩) 1 c1) := ⟨_, rfl⟩
  rw [← hW2]
  have S2 : W2.heap[s]? = some (.cells #[.slice (some ⟨g1, 0, none⟩) 1 c1, .slice none 0 0] 38 (0, 0)) := by
    rw [hW2]
    exact heap_setCell_same w1 s 0 _ 38 _ S1
  have X2 : W2.heap[w.heap.size]? = some (.cells #[.int .u8 kind, .bool u, .int .i64 id, .int .i64 rank, .int .i64 ttl] 32 (0, 0)) := by
    rw [hW2, heap_setCell_other _ ⟨s, 0, none⟩ _ _ (by show w.heap.size ≠ s; omega)]
    exact box1
  have HW : Hid (W2 = w1.setCell ⟨s, 0, none⟩ (.slice (some ⟨g1, 0, none⟩) 1 c1)) := hW2
  clear hW2
  have c1' : W2.cell? ⟨s, 1, none⟩ = some (.slice none 0 0) := block_cell S2 rfl
  have f1' : W2.frozen? ⟨s, 1, none⟩ = false := block_free S2
  have x0 : W2.cell? ⟨w.heap.size, 0, none⟩ = some (.int .u8 kind) := block_cell X2 rfl
  have x1 : W2.cell? ⟨w.heap.size, 1, none⟩ = some (.bool u) := block_cell X2 rfl
  have x2 : W2.cell? ⟨w.heap.size, 2, none⟩ = some (.int .i64 id) := block_cell X2 rfl
  have x3 : W2.cell? ⟨w.heap.size, 3, none⟩ = some (.int .i64 rank) := block_cell X2 rfl
  have x4 : W2.cell? ⟨w.heap.size, 4, none⟩ = some (.int .i64 ttl) := block_cell X2 rfl
  have sl2 := block_lt S2
  have xl2 := block_lt X2
  have S1h := hide S1
  have S2h := hide S2
  have X2h := hide X2
  have oldh := hide old1
  have boxh := hide box1
  have hsh := hide hs
  have own1h := hide own1
  clear S1 S2 X2 old1 box1 hs s0 c0 f0 own1
  go_region_law
    ((refine step_append_lies _ (by rfl) _ _ _ (by rfl) w.heap.size 32 i32 _ 5 32 Yba.underlying36 hi32 hz0 hz1 hz2 rfl (by omega) (.slice none 0 0) 0 [] (by rfl) (World.ownsRow_nil _ _ _ _)
        ⟨W2.heap.size, 0, none⟩ 1 1 [.int .u8 kind, .bool u, .int .i64 id, .int .i64 rank, .int .i64 ttl] (by rfl) (by rfl) (World.news_of_block (cs := #[.int .u8 kind, .bool u, .int .i64 id, .int .i64 rank, .int .i64 ttl]) (t := 32) (fr := (0, 0)) (heap_alloc_new W2 _)) (by simp [Value.oneCell'])
        (by omega) (by unfold maxLen; omega) (by omega) (by simp; omega) (W2.heap.size + 1) (by simp) ?_; intro g2 c2 w3 own2 hgrow at2 lt2; have f3 : w3.frozen? ⟨s, 1, none⟩ = false := block_free (drew_then (by exact hgrow) S2h.out); have c3 : w3.cell? ⟨s, 1, none⟩ = some (.slice none 0 0) := block_cell (drew_then (by exact hgrow) S2h.out) rfl))
  all_goals go_end0
  all_goals exact ⟨rfl, sent_mk sl (by exact grow1) (by simpa [Value.ownBlock] using at1) lt1 (by exact own1h.out) HW.out S2h.out (by exact hgrow) (by simpa [Value.ownBlock] using at2) lt2 (by exact own2)⟩

end Go.Proofs.Ybulkacfi
