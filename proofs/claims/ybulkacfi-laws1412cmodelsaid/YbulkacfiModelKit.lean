/-
  What the law LawS1412CModel stands on: the slice that came in, its two copies, the state ahead of Receive.
-/
import Derived.Test.YbulkacfiEqual
import Derived.Laws.CopyOwn
import Derived.LaidEqlPtr
namespace Go.Proofs.Ybulkacfi
open Go.RowKit Go.Maps

/-- The cells of the first 'len' numbers. -/
def cellsOf (zs : List Int) (len : Nat) : List Value := (zs.take len).map (Value.int .i64)

/-- What the walk asks of the slice that came in: where it has an element, its cells. -/
def RowAt (w : World) (a : Option Addr) (len : Nat) (cs : List Value) : Prop :=
  cs.length = len ∧ (∀ v ∈ cs, ∃ z : Int, v = .int .i64 z) ∧ (0 < cs.length → ∃ ad, a = some ad ∧ ad.block < w.heap.size ∧ ∀ j v, cs[j]? = some v → w.cell? (ad.add j) = some v)

theorem RowAt.below {w w' : World} {a : Option Addr} {len : Nat} {cs : List Value} (h : RowAt w a len cs) (hb : Below w.heap.size w w') : 0 < cs.length → ∃ ad, a = some ad ∧ ∀ j v, cs[j]? = some v → w'.cell? (ad.add j) = some v := fun h0 => by
  obtain ⟨ad, h1, h2, h3⟩ := h.2.2 h0
  exact ⟨ad, h1, fun j v hj => (hb.cell (p := ad.add j) (by unfold Addr.add; split <;> exact h2)).trans (h3 j v hj)⟩

theorem RowAt.one {w : World} {a : Option Addr} {len : Nat} {cs : List Value} (h : RowAt w a len cs) : ∀ v ∈ cs, v.oneCell' = true := fun v hv => by
  obtain ⟨z, rfl⟩ := h.2.1 v hv
  rfl

/-- 'make([]int, len)'. -/
theorem make_ints (len : Nat) (hl : len ≤ 1024) : ∃ Z : List Value, Z.length = len ∧ ∀ w : World, (Instr.makeSlice 22 (.int .i64 len) (.int .i64 len)).run Yba.prog w = .ok (.slice (some ⟨w.heap.size, 0, none⟩) len len) (w.alloc (.cells Z.toArray 3)) := by
  obtain ⟨i3, hi3, hz30, hz31, hz32⟩ := info_parts Yba.info3'
  refine ⟨(madeCells (Value.cells (.int .i64 0)) (len * 1)).toList, ?_, fun w => ?_⟩
  · show (madeCells #[Value.int .i64 0] (len * 1)).toList.length = len
    rw [Nat.mul_one, toList_madeCells_one]; simp
  · have h := run_make (P := Yba.prog) w 22 3 i3 (.int .i64 0) Yba.underlying22 hi3 hz30 .i64 .i64 len len (by omega) (Int.le_refl _) (by rw [hz32]; omega) (by omega)
    rw [hz31] at h
    simpa using h

theorem Yba.size48 : (Yba.prog.info? 48).map (·.size) = some 5 := by kernel_rfl
/-- 'm.group == g', the same group. -/
theorem eql_group (a : Addr) (w : World) : (binOp .eql 25 (.pointer (some a)) (.pointer (some a))).run Yba.prog w = .ok (.bool true) w := by
  obtain ⟨j, hj, _⟩ := Option.map_eq_some_iff.1 Yba.size48
  exact run_eql_ptr_same (P := Yba.prog) w a Yba.underlying25 hj

theorem Yba.size3 : (Yba.prog.info? 3).map (·.size) = some 1 := by kernel_rfl

theorem setRow_alloc_new (W : World) (a b : Array Value) (t : TypeId) : (W.alloc (.cells a t)).setRow W.heap.size b = W.alloc (.cells b t) := by
  have h : ((W.alloc (.cells a t)).setRow W.heap.size b).heap = (W.alloc (.cells b t)).heap := by
    apply Array.ext_getElem?
    intro i
    by_cases hi : i = W.heap.size
    · subst hi
      rw [setRow_heap _ W.heap.size a b t (0, 0) (heap_alloc_new W _)]
      exact (heap_alloc_new W _).symm
    · rw [setRow_other _ _ _ _ hi]
      show (W.heap.push _)[i]? = (W.heap.push _)[i]?
      rw [Array.getElem?_push, Array.getElem?_push, if_neg hi, if_neg hi]
  have e : ∀ w1 w2 : World, w1.heap = w2.heap → w1.tape = w2.tape → w1.drawn = w2.drawn → w1.os = w2.os → w1.output = w2.output → w1 = w2 := fun w1 w2 h1 h2 h3 h4 h5 => by
    cases w1; cases w2; simp_all
  exact e _ _ h rfl rfl rfl rfl

/-- 'copy(new, chal)', new just made. -/
theorem copy_new {w W : World} {a : Option Addr} {len cap H : Nat} {cs Z : List Value} (h : RowAt w a len cs) (hb : Below w.heap.size w W) (hZ : Z.length = len) (hH : W.heap.size = H) :
    (Builtin.copy_ #[22, 22] 3 #[.slice (some ⟨H, 0, none⟩) len len, .slice a len cap]).run Yba.prog (W.alloc (.cells Z.toArray 3)) = .ok (.int .i64 len) (W.alloc (.cells cs.toArray 3)) := by
  subst hH
  have hl := h.1
  by_cases h0 : len = 0
  · have e1 : cs = [] := List.eq_nil_of_length_eq_zero (by omega)
    have e2 : Z = [] := List.eq_nil_of_length_eq_zero (by omega)
    subst e1 e2 h0
    exact run_copy_none (P := Yba.prog) _ 22 22 3 3 _ a 0 0 0 cap Yba.underlying22 Yba.size3 (by simp)
  · obtain ⟨ad, rfl, hc⟩ := h.below (hb.alloc hb.size (.cells Z.toArray 3)) (by omega)
    have hr := run_copy_row (P := Yba.prog) (W.alloc (.cells Z.toArray 3)) 22 22 3 3 W.heap.size 0 len len ad len cap Z.toArray 3 cs Yba.underlying22 Yba.size3 (heap_alloc_new W _) (by simp [hl]) hc (by simp [hZ, hl]) h.one
    rw [hr, hl]
    congr 1
    have : (List.take 0 Z.toArray.toList ++ cs ++ List.drop (0 + len) Z.toArray.toList) = cs := by simp [hZ]
    rw [this]
    exact setRow_alloc_new W _ _ 3

/-- The state ahead of Receive. 'w': the world in which the law began; W: the world now. -/
structure Ready (n g kb mb ib m s len r : Nat) (lead : Int) (came chd ok : Bool) (cs : List Value) (w W : World) : Prop where
  grp : GroupAt n g kb mb W
  wg : w.heap.size ≤ g
  gi : g < ib
  im : ib < m
  ms : m < s
  rn : r < n
  hlen : len ≤ 1024
  hcl : cs.length = len
  hi : W.heap[ib]? = some (.cells cs.toArray 3 (0, 0))
  hm : W.heap[m]? = some (.cells (bc g r lead 5 true 3 chd (.slice (some ⟨ib, 0, none⟩) len len) ok came) 29 (0, 0))
  hs : W.heap[s]? = some (.cells #[.slice none 0 0, .slice none 0 0] 38 (0, 0))
  bel : Below w.heap.size w W

/-- What the law looks at behind Receive. -/
structure Res (g m s ib r : Nat) (lead : Int) (came chd ok : Bool) (len : Nat) (cs : List Value) (w W V : World) : Prop where
  blk : ∃ cg cc, V.heap[m]? = some (.cells (bc g r lead 5 true 3 chd (.slice (some ⟨cg, 0, none⟩) len cc) ok came) 29 (0, 0)) ∧ ∀ k, k < len → V.cell? ⟨cg, k, none⟩ = cs[k]?
  turn : Turn m s ib W V
  bel : Below w.heap.size w V

section
variable {n g kb mb ib m s len r : Nat} {lead : Int} {came chd ok : Bool} {cs : List Value} {w W : World}

theorem Turn.below (h : Ready n g kb mb ib m s len r lead came chd ok cs w W) {V : World} (t : Turn m s ib W V) : Below w.heap.size w V := by
  have h1 := h.wg
  have h2 := h.gi
  have h3 := h.im
  have h4 := h.ms
  exact h.bel.trans ⟨t.os, t.tape, t.output, t.size, fun k hk => t.block k (Nat.lt_of_lt_of_le hk h.bel.size) (by omega) (by omega) (by omega)⟩

theorem Ready.owns (h : Ready n g kb mb ib m s len r lead came chd ok cs w W) : W.ownsRow ib 3 1 (.slice (some ⟨ib, 0, none⟩) len len) len cs := by
  have h1 := h.hcl
  have h2 := h.hlen
  exact ⟨by omega, .inr ⟨ib, len, cs.toArray, rfl, Nat.le_refl _, h.hi, Nat.le_refl _, by unfold maxLen; omega, by simp; omega, by rw [← h1]; simp⟩⟩

theorem cells_of_block {V : World} {b : Nat} {cs : List Value} {t : TypeId} (h : V.heap[b]? = some (.cells cs.toArray t (0, 0))) (k : Nat) : V.cell? ⟨b, k, none⟩ = cs[k]? := by
  rw [cell_of_row V b k cs.toArray t (0, 0) h]; simp

/-- Receive has written block m alone (and laid new ones). -/
theorem Ready.res (h : Ready n g kb mb ib m s len r lead came chd ok cs w W) {V : World} {lead' : Int} {came' chd' ok' : Bool} (hg : W.grownBy V (some m))
    (hm : V.heap[m]? = some (.cells (bc g r lead' 5 true 3 chd' (.slice (some ⟨ib, 0, none⟩) len len) ok' came') 29 (0, 0))) :
    Res g m s ib r lead' came' chd' ok' len cs w W V ∧ V.heap[s]? = some (.cells #[.slice none 0 0, .slice none 0 0] 38 (0, 0)) := by
  have h3 := h.im
  have h4 := h.ms
  have t : Turn m s ib W V := (Turn.refl m s ib W).grown hg (fun k hk => by injection hk; omega)
  have hI : V.heap[ib]? = _ := (hg.block ib (block_lt h.hi) (fun e => by injection e; omega)).trans h.hi
  exact ⟨⟨⟨ib, len, hm, fun k _ => cells_of_block hI k⟩, t, Turn.below h t⟩, (hg.block s (block_lt h.hs) (fun e => by injection e; omega)).trans h.hs⟩

theorem rec_other (h : Ready n g kb mb ib m s len r lead came chd ok cs w W) (k fr id : Int) (hk : 3 ≤ k) (out : Value) :
    Calls Yba.prog 11 #[.pointer (some ⟨m, 0, none⟩), .int .i64 fr, .agg #[.int .u8 k, .bool false, .int .i64 id, .int .i64 7, .int .i64 2], out] W fun e V => e = .returned (.tuple #[]) ∧ Res g m s ib r lead came chd ok len cs w W V ∧ V.heap[s]? = some (.cells #[.slice none 0 0, .slice none 0 0] 38 (0, 0)) := by
  refine (recv_other m fr id 7 2 false out W k hk).mono ?_
  rintro e V ⟨rfl, rfl⟩
  exact ⟨rfl, h.res (World.grownBy_alloc _ _ _) ((Below.heap_alloc W _ m (block_lt h.hm)).trans h.hm)⟩

theorem rec_elec_no (h : Ready n g kb mb ib m s len r lead came chd ok cs w W) (fr id : Int) (wfr : (Lit.int .i64 fr).wf = true) (hno : mem n fr = false ∨ ¬ rk n fr < (r : Int)) (out : Value) :
    Calls Yba.prog 11 #[.pointer (some ⟨m, 0, none⟩), .int .i64 fr, .agg #[.int .u8 0, .bool false, .int .i64 id, .int .i64 7, .int .i64 2], out] W fun e V => e = .returned (.tuple #[]) ∧ Res g m s ib r lead came chd ok len cs w W V ∧ V.heap[s]? = some (.cells #[.slice none 0 0, .slice none 0 0] 38 (0, 0)) := by
  refine (recv_elec_no n g kb mb m r lead 5 3 fr id 7 2 true chd ok came false _ out W h.grp h.hm wfr hno).mono ?_
  rintro e V ⟨rfl, rfl⟩
  exact ⟨rfl, h.res (World.grownBy_alloc _ _ _) ((Below.heap_alloc W _ m (block_lt h.hm)).trans h.hm)⟩

theorem rec_ok (h : Ready n g kb mb ib m s len r lead came chd ok cs w W) (fr id : Int) (wfr : (Lit.int .i64 fr).wf = true) (out : Value) :
    Calls Yba.prog 11 #[.pointer (some ⟨m, 0, none⟩), .int .i64 fr, .agg #[.int .u8 2, .bool false, .int .i64 id, .int .i64 7, .int .i64 2], out] W fun e V => e = .returned (.tuple #[]) ∧ Res g m s ib r lead came chd (ok || decide ((r : Int) < rk n fr)) len cs w W V ∧ V.heap[s]? = some (.cells #[.slice none 0 0, .slice none 0 0] 38 (0, 0)) := by
  have ml := block_lt h.hm
  by_cases hlt : (r : Int) < rk n fr
  · refine (recv_ok_yes n g kb mb m r lead 5 3 fr id 7 2 true chd ok came false _ out W h.grp h.hm wfr hlt).mono ?_
    rintro e V ⟨rfl, q, rfl⟩
    have h1 : ((W.alloc (.cells (mc 2 false id 7 2) 32)).drewN q).heap[m]? = _ := (Below.heap_alloc W _ m ml).trans h.hm
    rw [decide_eq_true hlt, Bool.or_true]
    refine ⟨rfl, h.res ⟨rfl, rfl, rfl, by simp [World.drewN], fun k hk hne => ?_⟩ (heap_setCell_same _ m 12 _ 29 (.bool true) h1)⟩
    rw [heap_setCell_other _ ⟨m, 12, none⟩ k _ (fun e => hne (by rw [e]))]
    exact Below.heap_alloc W _ k hk
  · refine (recv_ok_no n g kb mb m r lead 5 3 fr id 7 2 true chd ok came false _ out W h.grp h.hm wfr hlt).mono ?_
    rintro e V ⟨rfl, q, rfl⟩
    rw [decide_eq_false hlt, Bool.or_false]
    exact ⟨rfl, h.res (grown_alloc_drewN q) ((Below.heap_alloc W _ m ml).trans h.hm)⟩

theorem rec_leader (h : Ready n g kb mb ib m s len r lead came chd ok cs w W) (fr id : Int) (wid : (Lit.int .i64 id).wf = true) (wle : (Lit.int .i64 lead).wf = true) (out : Value) :
    Calls Yba.prog 11 #[.pointer (some ⟨m, 0, none⟩), .int .i64 fr, .agg #[.int .u8 1, .bool false, .int .i64 id, .int .i64 7, .int .i64 2], out] W fun e V => e = .returned (.tuple #[]) ∧ Res g m s ib r (newLead n lead id came) (came || mem n id) chd ok len cs w W V ∧ V.heap[s]? = some (.cells #[.slice none 0 0, .slice none 0 0] 38 (0, 0)) := by
  refine (recv_leader n g kb mb m r lead 5 3 fr id 7 2 true chd ok came false _ out W h.grp h.hm wid wle).mono ?_
  rintro e V ⟨rfl, hb, hg⟩
  exact ⟨rfl, h.res hg hb⟩

theorem rec_elec_yes (h : Ready n g kb mb ib m s len r lead came chd ok cs w W) (fr id : Int) (wfr : (Lit.int .i64 fr).wf = true) (hmem : mem n fr = true) (hlt : rk n fr < (r : Int)) :
    Calls Yba.prog 11 #[.pointer (some ⟨m, 0, none⟩), .int .i64 fr, .agg #[.int .u8 0, .bool false, .int .i64 id, .int .i64 7, .int .i64 2], .iface 35 (.pointer (some ⟨s, 0, none⟩))] W fun e V => e = .returned (.tuple #[]) ∧
      Res g m s ib r lead came true ok (if lead = (r : Int) + 1 then len + 1 else len) (if lead = (r : Int) + 1 then cs ++ [.int .i64 fr] else cs) w W V ∧ SentAt s fr (mc 2 false ((r : Int) + 1) 0 0) W.heap.size V := by
  refine (recv_elec_yes n g kb mb m r s lead 5 3 fr id 7 2 true chd ok came false W ib ib len cs h.rn h.grp h.hm h.hs h.owns h.hlen h.gi h.im h.ms wfr hmem hlt).mono ?_
  rintro e V ⟨rfl, cg, cc, hb, ho, hs, ht⟩
  exact ⟨rfl, ⟨⟨cg, cc, hb, fun k hk => ho.cellAt k (by omega)⟩, ht, Turn.below h ht⟩, hs⟩
end

theorem four {w : World} (o1 o2 o3 o4 : Obj) : ((((w.alloc o1).alloc o2).alloc o3).alloc o4).heap[w.heap.size]? = some o1 ∧ ((((w.alloc o1).alloc o2).alloc o3).alloc o4).heap[w.heap.size + 1]? = some o2 ∧
    ((((w.alloc o1).alloc o2).alloc o3).alloc o4).heap[w.heap.size + 1 + 1 + 1]? = some o4 ∧ Below w.heap.size w ((((w.alloc o1).alloc o2).alloc o3).alloc o4) := by
  have e1 : (w.alloc o1).heap.size = w.heap.size + 1 := by simp
  have e2 : ((w.alloc o1).alloc o2).heap.size = w.heap.size + 1 + 1 := by simp
  have e3 : (((w.alloc o1).alloc o2).alloc o3).heap.size = w.heap.size + 1 + 1 + 1 := by simp
  refine ⟨?_, ?_, ?_, ((((Below.refl _ _).alloc (Nat.le_refl _) _).alloc (by omega) _).alloc (by omega) _).alloc (by omega) _⟩
  · rw [Below.heap_alloc _ _ _ (by omega), Below.heap_alloc _ _ _ (by omega), Below.heap_alloc _ _ _ (by omega)]
    exact heap_alloc_new w o1
  · rw [Below.heap_alloc _ _ _ (by omega), Below.heap_alloc _ _ _ (by omega), ← e1]
    exact heap_alloc_new _ o2
  · rw [← e3]
    exact heap_alloc_new _ o4

theorem below_drewN {B : Nat} {a w : World} (h : Below B a w) (n : Nat) : Below B a (w.drewN n) := ⟨h.os, h.tape, h.output, h.size, h.block⟩

theorem rk_of {n : Nat} {x : Int} (h1 : 1 ≤ x) (h2 : x ≤ n) : rk n x = x - 1 := by rw [rk, if_pos ⟨h1, h2⟩]
theorem rk_none {n : Nat} {x : Int} (h : mem n x = false) : rk n x = 0 := by
  rw [rk, if_neg]
  simpa [mem] using h
theorem newLead_none {n : Nat} {lead id : Int} {came : Bool} (h : mem n id = false) : newLead n lead id came = lead := by simp [newLead, h]
theorem newLead_first {n : Nat} {lead id : Int} (h : mem n id = true) : newLead n lead id false = id := by simp [newLead, h]
theorem newLead_more {n : Nat} {lead id : Int} (h : mem n id = true) (hl : rk n lead < rk n id) : newLead n lead id true = id := by simp [newLead, h, hl]
theorem newLead_less {n : Nat} {lead id : Int} (h : mem n id = true) (hl : ¬ rk n lead < rk n id) : newLead n lead id true = lead := by simp [newLead, h, hl]

/-- Two rows of the same cells, for 'slices.Equal'. -/
theorem eq_cells {V w : World} {a : Option Addr} {len cg wb n' : Nat} {cs cs' : List Value} (h : RowAt w a len cs) (hc : ∀ k, k < n' → V.cell? ⟨cg, k, none⟩ = cs'[k]?) (hw : ∀ k, k < n' → V.cell? ⟨wb, k, none⟩ = cs'[k]?) (hl : cs'.length = n') (hz : ∀ v ∈ cs', v ∈ cs ∨ ∃ z : Int, v = .int .i64 z) :
    ∀ k, k < n' → ∃ z, V.cell? ⟨cg, k, none⟩ = some (.int .i64 z) ∧ V.cell? ⟨wb, k, none⟩ = some (.int .i64 z) := fun k hk => by
  have hkl : k < cs'.length := by omega
  have e : cs'[k]? = some (cs'[k]'hkl) := List.getElem?_eq_getElem hkl
  obtain ⟨z, hv⟩ : ∃ z : Int, cs'[k]'hkl = .int .i64 z := by
    rcases hz _ (List.getElem_mem hkl) with h1 | h1
    · exact h.2.1 _ h1
    · exact h1
  exact ⟨z, by rw [hc k hk, e, hv], by rw [hw k hk, e, hv]⟩

theorem owns_block {W : World} {b len : Nat} {cs : List Value} (h : W.heap[b]? = some (.cells cs.toArray 3 (0, 0))) (hl : len ≤ 1024) (hc : cs.length = len) : W.ownsRow b 3 1 (.slice (some ⟨b, 0, none⟩) len len) len cs :=
  ⟨by omega, .inr ⟨b, len, cs.toArray, rfl, Nat.le_refl _, h, Nat.le_refl _, by unfold maxLen; omega, by simp; omega, by rw [← hc]; simp⟩⟩

theorem news_last (W : World) (v : Value) (t : TypeId) (H : Nat) (hH : W.heap.size = H) : ∀ j u, [v][j]? = some u → (W.alloc (.cells #[v] t)).cell? ((⟨H, 0, none⟩ : Addr).add j) = some u := by
  subst hH
  exact World.news_of_block (cs := #[v]) (t := t) (fr := (0, 0)) (heap_alloc_new W _)

theorem third {w : World} (o1 o2 o3 o4 : Obj) : ((((w.alloc o1).alloc o2).alloc o3).alloc o4).heap[w.heap.size + 1 + 1]? = some o3 := by
  have e2 : ((w.alloc o1).alloc o2).heap.size = w.heap.size + 1 + 1 := by simp
  rw [Below.heap_alloc _ _ _ (by simp), ← e2]
  exact heap_alloc_new _ o3

/-- The message's cells behind the append. -/
theorem msg_kept {W wz : World} {o : Obj} {b wb : Nat} {cs : Array Value} {t : TypeId} (h : (W.alloc o).grownBy wz (some wb)) (hb : W.heap[b]? = some (.cells cs t (0, 0))) (hne : b ≠ wb) : wz.heap[b]? = some (.cells cs t (0, 0)) := by
  have hl := block_lt hb
  exact (h.block b (by simp; omega) (fun e => hne (by injection e))).trans ((Below.heap_alloc _ _ _ hl).trans hb)

/-- The state ahead of Receive, out of the four blocks that the law has laid and the sender's, laid last. -/
theorem ready_mk {n g kb mb len r : Nat} {lead : Int} {came chd ok : Bool} {cs : List Value} {w wg W4 : World} (hG : GroupAt n g kb mb wg) (hgs : w.heap.size ≤ g) (hb : Below w.heap.size w wg) (rn : r < n) (hlen : len ≤ 1024) (hcl : cs.length = len)
    (h0 : W4.heap[wg.heap.size]? = some (.cells cs.toArray 3 (0, 0))) (h1 : W4.heap[wg.heap.size + 1]? = some (.cells (bc g r lead 5 true 3 chd (.slice (some ⟨wg.heap.size, 0, none⟩) len len) ok came) 29 (0, 0)))
    (hB : Below wg.heap.size wg W4) (S : Nat) (hS : W4.heap.size = S) :
    Ready n g kb mb wg.heap.size (wg.heap.size + 1) S len r lead came chd ok cs w (W4.alloc (.cells #[.slice none 0 0, .slice none 0 0] 38)) := by
  subst hS
  have l1 := block_lt h1
  have l0 := block_lt h0
  have gl := hG.lt
  refine ⟨hG.kept (fun k hk => (Below.heap_alloc _ _ k (by omega)).trans (hB.block k (by omega))), hgs, gl, by omega, l1, rn, hlen, hcl, (Below.heap_alloc _ _ _ l0).trans h0, (Below.heap_alloc _ _ _ l1).trans h1, heap_alloc_new _ _, ?_⟩
  exact (hb.trans (hB.mono hb.size)).alloc (by have := hb.size; have := hB.size; omega) _

end Go.Proofs.Ybulkacfi
