/-
  '(*Bully).Receive' (function 11) at a LEADER message: by cases.
-/
import Derived.Test.YbulkacfiGroup
import Derived.Deep.QuietTactic
import Derived.BigQuiet
namespace Go.Proofs.Ybulkacfi
open Go.RowKit Go.Maps

/-- A member's fourteen cells. -/
def bc (g : Nat) (r : Int) (lead now : Int) (el : Bool) (st : Int) (chd : Bool) (chal : Value) (ok came : Bool) : Array Value :=
  #[.pointer (some ⟨g, 0, none⟩), .int .i64 r, .int .i64 lead, .int .i64 now, .bool el, .int .i64 st, .bool false, .int .i64 0, .bool false, .int .i64 0, .bool chd, chal, .bool ok, .bool came]

/-- A message's five cells. -/
def mc (kind : Int) (u : Bool) (id rank ttl : Int) : Array Value := #[.int .u8 kind, .bool u, .int .i64 id, .int .i64 rank, .int .i64 ttl]

theorem block_cell {w : World} {b j : Nat} {cs : Array Value} {t : TypeId} {v : Value} (h : w.heap[b]? = some (.cells cs t (0, 0))) (hv : cs[j]? = some v) : w.cell? ⟨b, j, none⟩ = some v := by
  rw [cell_of_row w b j cs t (0, 0) h, hv]
theorem block_free {w : World} {b j : Nat} {cs : Array Value} {t : TypeId} (h : w.heap[b]? = some (.cells cs t (0, 0))) : w.frozen? ⟨b, j, none⟩ = false := frozen_of_row w b j cs t h
theorem block_lt {w : World} {b : Nat} {o : Obj} (h : w.heap[b]? = some o) : b < w.heap.size := (Array.getElem?_eq_some_iff.1 h).1

theorem GroupAt.drewN {n g kb mb : Nat} {w : World} (h : GroupAt n g kb mb w) (q : Nat) : GroupAt n g kb mb (w.drewN q) := h.kept fun _ _ => rfl

/-- What a LEADER leaves: the leader that is named. -/
def newLead (n : Nat) (lead id : Int) (came : Bool) : Int := if mem n id && (!came || decide (rk n lead < rk n id)) then id else lead

theorem grown_alloc_set2 {w : World} {o : Obj} {m j1 j2 : Nat} {v1 v2 : Value} (q : Nat) : w.grownBy ((((w.alloc o).drewN q).setCell ⟨m, j1, none⟩ v1).setCell ⟨m, j2, none⟩ v2) (some m) :=
  ⟨rfl, rfl, rfl, by simp [World.drewN], fun k hk hne => by
    have h : k ≠ m := fun e => hne (by rw [e])
    rw [heap_setCell_other _ ⟨m, j2, none⟩ k _ h, heap_setCell_other _ ⟨m, j1, none⟩ k _ h]
    exact Below.heap_alloc w o k hk⟩
theorem grown_alloc_drewN {w : World} {o : Obj} {m : Option Nat} (q : Nat) : w.grownBy ((w.alloc o).drewN q) m :=
  ⟨rfl, rfl, rfl, by simp [World.drewN], fun k hk _ => Below.heap_alloc w o k hk⟩

section
variable (n g kb mb m : Nat) (r lead now st fr id rank ttl : Int) (el chd ok came u : Bool) (chal out : Value) (w : World)

set_option maxHeartbeats 1000000 in
set_option maxRecDepth 100000 in
theorem recv_leader_not (hG : GroupAt n g kb mb w) (hm : w.heap[m]? = some (.cells (bc g r lead now el st chd chal ok came) 29 (0, 0)))
    (wid : (Lit.int .i64 id).wf = true) (hmem : mem n id = false) :
    Calls Yba.prog 11 #[.pointer (some ⟨m, 0, none⟩), .int .i64 fr, .agg (mc 1 u id rank ttl), out] w fun e w' => e = .returned (.tuple #[]) ∧ ∃ q, w' = (w.alloc (.cells (mc 1 u id rank ttl) 32)).drewN q := by
  have m0 : w.cell? ⟨m, 0, none⟩ = some (.pointer (some ⟨g, 0, none⟩)) := block_cell hm rfl
  have ml := block_lt hm
  have g1 : w.cell? ⟨g, 1, none⟩ = some (.map (some mb)) := block_cell hG.blk rfl
  have gl := hG.lt
  have L1 : ∀ (o : Obj) (q : Nat), (Instr.lookup 44 (.map (some mb)) (.int .i64 id) true).run Yba.prog ((w.alloc o).drewN q) = .ok (.tuple #[.int .i64 (rk n id), .bool false]) ((w.alloc o).drewN q) := fun o q => by
    have h := ((hG.alloc o).drewN q).look_ok wid; rw [hmem] at h; exact h
  clear hm hG
  unfold mc
  go_enter Yba.func11, Yba.ntmps11
  go_wp2
  go_quiet (fail)
  go_wp2
  go_quiet (fail)
  go_wp2
  go_end0
  exact ⟨rfl, _, by rw [World.drewN_drewN]⟩

set_option maxHeartbeats 1000000 in
set_option maxRecDepth 100000 in
theorem recv_leader_first (hG : GroupAt n g kb mb w) (hm : w.heap[m]? = some (.cells (bc g r lead now el st chd chal ok false) 29 (0, 0)))
    (wid : (Lit.int .i64 id).wf = true) (hmem : mem n id = true) :
    Calls Yba.prog 11 #[.pointer (some ⟨m, 0, none⟩), .int .i64 fr, .agg (mc 1 u id rank ttl), out] w fun e w' => e = .returned (.tuple #[]) ∧ ∃ q, w' = (((w.alloc (.cells (mc 1 u id rank ttl) 32)).drewN q).setCell ⟨m, 2, none⟩ (.int .i64 id)).setCell ⟨m, 13, none⟩ (.bool true) := by
  have m0 : w.cell? ⟨m, 0, none⟩ = some (.pointer (some ⟨g, 0, none⟩)) := block_cell hm rfl
  have m2 : w.cell? ⟨m, 2, none⟩ = some (.int .i64 lead) := block_cell hm rfl
  have m13 : w.cell? ⟨m, 13, none⟩ = some (.bool false) := block_cell hm rfl
  have f2 : w.frozen? ⟨m, 2, none⟩ = false := block_free hm
  have f13 : w.frozen? ⟨m, 13, none⟩ = false := block_free hm
  have ml := block_lt hm
  have g1 : w.cell? ⟨g, 1, none⟩ = some (.map (some mb)) := block_cell hG.blk rfl
  have gl := hG.lt
  have L1 : ∀ (o : Obj) (q : Nat), (Instr.lookup 44 (.map (some mb)) (.int .i64 id) true).run Yba.prog ((w.alloc o).drewN q) = .ok (.tuple #[.int .i64 (rk n id), .bool true]) ((w.alloc o).drewN q) := fun o q => by
    have h := ((hG.alloc o).drewN q).look_ok wid; rw [hmem] at h; exact h
  clear hm hG
  unfold mc
  go_enter Yba.func11, Yba.ntmps11
  go_wp2
  go_quiet (fail)
  go_wp2
  go_quiet (fail)
  go_wp2
  go_end0
  exact ⟨rfl, _, rfl⟩

set_option maxHeartbeats 1000000 in
set_option maxRecDepth 100000 in
theorem recv_leader_more (hG : GroupAt n g kb mb w) (hm : w.heap[m]? = some (.cells (bc g r lead now el st chd chal ok true) 29 (0, 0)))
    (wid : (Lit.int .i64 id).wf = true) (wle : (Lit.int .i64 lead).wf = true) (hmem : mem n id = true) (hlt : rk n lead < rk n id) :
    Calls Yba.prog 11 #[.pointer (some ⟨m, 0, none⟩), .int .i64 fr, .agg (mc 1 u id rank ttl), out] w fun e w' => e = .returned (.tuple #[]) ∧ ∃ q, w' = (((w.alloc (.cells (mc 1 u id rank ttl) 32)).drewN q).setCell ⟨m, 2, none⟩ (.int .i64 id)).setCell ⟨m, 13, none⟩ (.bool true) := by
  have m0 : w.cell? ⟨m, 0, none⟩ = some (.pointer (some ⟨g, 0, none⟩)) := block_cell hm rfl
  have m2 : w.cell? ⟨m, 2, none⟩ = some (.int .i64 lead) := block_cell hm rfl
  have m13 : w.cell? ⟨m, 13, none⟩ = some (.bool true) := block_cell hm rfl
  have f2 : w.frozen? ⟨m, 2, none⟩ = false := block_free hm
  have f13 : w.frozen? ⟨m, 13, none⟩ = false := block_free hm
  have ml := block_lt hm
  have g1 : w.cell? ⟨g, 1, none⟩ = some (.map (some mb)) := block_cell hG.blk rfl
  have gl := hG.lt
  have L1 : ∀ (o : Obj) (q : Nat), (Instr.lookup 44 (.map (some mb)) (.int .i64 id) true).run Yba.prog ((w.alloc o).drewN q) = .ok (.tuple #[.int .i64 (rk n id), .bool true]) ((w.alloc o).drewN q) := fun o q => by
    have h := ((hG.alloc o).drewN q).look_ok wid; rw [hmem] at h; exact h
  have L2 : ∀ (o : Obj) (q : Nat), (Instr.lookup 44 (.map (some mb)) (.int .i64 lead) false).run Yba.prog ((w.alloc o).drewN q) = .ok (.int .i64 (rk n lead)) ((w.alloc o).drewN q) := fun o q => ((hG.alloc o).drewN q).look wle
  clear hm hG
  unfold mc
  go_enter Yba.func11, Yba.ntmps11
  go_wp2
  go_quiet (fail)
  go_wp2
  go_quiet (fail)
  go_wp2
  go_end0
  exact ⟨rfl, _, rfl⟩

set_option maxHeartbeats 1000000 in
set_option maxRecDepth 100000 in
theorem recv_leader_less (hG : GroupAt n g kb mb w) (hm : w.heap[m]? = some (.cells (bc g r lead now el st chd chal ok true) 29 (0, 0)))
    (wid : (Lit.int .i64 id).wf = true) (wle : (Lit.int .i64 lead).wf = true) (hmem : mem n id = true) (hlt : ¬ rk n lead < rk n id) :
    Calls Yba.prog 11 #[.pointer (some ⟨m, 0, none⟩), .int .i64 fr, .agg (mc 1 u id rank ttl), out] w fun e w' => e = .returned (.tuple #[]) ∧ ∃ q, w' = (w.alloc (.cells (mc 1 u id rank ttl) 32)).drewN q := by
  have m0 : w.cell? ⟨m, 0, none⟩ = some (.pointer (some ⟨g, 0, none⟩)) := block_cell hm rfl
  have m2 : w.cell? ⟨m, 2, none⟩ = some (.int .i64 lead) := block_cell hm rfl
  have m13 : w.cell? ⟨m, 13, none⟩ = some (.bool true) := block_cell hm rfl
  have ml := block_lt hm
  have g1 : w.cell? ⟨g, 1, none⟩ = some (.map (some mb)) := block_cell hG.blk rfl
  have gl := hG.lt
  have L1 : ∀ (o : Obj) (q : Nat), (Instr.lookup 44 (.map (some mb)) (.int .i64 id) true).run Yba.prog ((w.alloc o).drewN q) = .ok (.tuple #[.int .i64 (rk n id), .bool true]) ((w.alloc o).drewN q) := fun o q => by
    have h := ((hG.alloc o).drewN q).look_ok wid; rw [hmem] at h; exact h
  have L2 : ∀ (o : Obj) (q : Nat), (Instr.lookup 44 (.map (some mb)) (.int .i64 lead) false).run Yba.prog ((w.alloc o).drewN q) = .ok (.int .i64 (rk n lead)) ((w.alloc o).drewN q) := fun o q => ((hG.alloc o).drewN q).look wle
  clear hm hG
  unfold mc
  go_enter Yba.func11, Yba.ntmps11
  go_wp2
  go_quiet (fail)
  go_wp2
  go_quiet (fail)
  go_wp2
  go_end0
  exact ⟨rfl, _, by rw [World.drewN_drewN]⟩

/-- ONE CONTRACT for a LEADER message. -/
theorem recv_leader (hG : GroupAt n g kb mb w) (hm : w.heap[m]? = some (.cells (bc g r lead now el st chd chal ok came) 29 (0, 0)))
    (wid : (Lit.int .i64 id).wf = true) (wle : (Lit.int .i64 lead).wf = true) :
    Calls Yba.prog 11 #[.pointer (some ⟨m, 0, none⟩), .int .i64 fr, .agg (mc 1 u id rank ttl), out] w fun e w' => e = .returned (.tuple #[]) ∧
      w'.heap[m]? = some (.cells (bc g r (newLead n lead id came) now el st chd chal ok (came || mem n id)) 29 (0, 0)) ∧ w.grownBy w' (some m) := by
  have ml := block_lt hm
  have keep : ∀ (o : Obj) (q : Nat), ((w.alloc o).drewN q).heap[m]? = some (.cells (bc g r lead now el st chd chal ok came) 29 (0, 0)) := fun o q => (Below.heap_alloc w o m ml).trans hm
  have upd : ∀ (o : Obj) (q : Nat), ((((w.alloc o).drewN q).setCell ⟨m, 2, none⟩ (.int .i64 id)).setCell ⟨m, 13, none⟩ (.bool true)).heap[m]? = some (.cells (bc g r id now el st chd chal ok true) 29 (0, 0)) := fun o q => by
    have h1 : ((w.alloc o).drewN q).heap[m]? = _ := (Below.heap_alloc w o m ml).trans hm
    have h2 := heap_setCell_same _ m 2 _ 29 (.int .i64 id) h1
    exact heap_setCell_same _ m 13 _ 29 (.bool true) h2
  cases hmem : mem n id with
  | false =>
    refine (recv_leader_not n g kb mb m r lead now st fr id rank ttl el chd ok came u chal out w hG hm wid hmem).mono ?_
    rintro e w' ⟨rfl, q, rfl⟩
    exact ⟨rfl, by simp only [newLead, hmem, Bool.false_and, Bool.or_false]; exact keep _ q, grown_alloc_drewN q⟩
  | true =>
    cases came with
    | false =>
      refine (recv_leader_first n g kb mb m r lead now st fr id rank ttl el chd ok u chal out w hG hm wid hmem).mono ?_
      rintro e w' ⟨rfl, q, rfl⟩
      exact ⟨rfl, by simpa [newLead, hmem] using upd _ q, grown_alloc_set2 q⟩
    | true =>
      by_cases hlt : rk n lead < rk n id
      · refine (recv_leader_more n g kb mb m r lead now st fr id rank ttl el chd ok u chal out w hG hm wid wle hmem hlt).mono ?_
        rintro e w' ⟨rfl, q, rfl⟩
        exact ⟨rfl, by simpa [newLead, hmem, hlt] using upd _ q, grown_alloc_set2 q⟩
      · refine (recv_leader_less n g kb mb m r lead now st fr id rank ttl el chd ok u chal out w hG hm wid wle hmem hlt).mono ?_
        rintro e w' ⟨rfl, q, rfl⟩
        exact ⟨rfl, by simpa [newLead, hmem, hlt] using keep _ q, grown_alloc_drewN q⟩
end

end Go.Proofs.Ybulkacfi
