/-
  The contract of 'election.zzs1412cgroup' (function 8): n keys and the map from id to rank, in new memory.
-/
import Derived.Test.YbulkacfiRows
import Derived.WalkKit
import Derived.ProofKit
import Derived.Maps.OwnSet
import Derived.Maps.OwnOps
namespace Go.Proofs.Ybulkacfi
open Go.RowKit Go.Maps

theorem Yba.info46 : (Yba.prog.info? 46).map (fun i => (i.zero, i.size, i.bytes)) = some (some (.agg #[.int .i64 0, .int .i64 0]), 2, 16) := by kernel_rfl
theorem law3 : Keyed Yba.prog 3 := int_keyed Yba.underlying3
theorem zero3 (w : World) : (zeroValue 3).run Yba.prog w = .ok (.int .i64 0) w := by kernel_rfl
theorem run_makeMap_hint (n : Int) (w : World) : (Instr.makeMap 44 (some (.int .i64 n))).run Yba.prog w = .ok (.map (some w.heap.size)) (w.alloc (.map #[] 0)) := by
  simp [Instr.makeMap, run_underlying Yba.underlying44, asInt]
  rfl

/-- The ranks behind k rounds: id j has rank j - 1. -/
def rankMap : Nat → DataW Unit
  | 0 => .map []
  | k + 1 => (rankMap k).put (.int .i64 ((k : Int) + 1)) (.lit (.int .i64 k))

/-- The keys behind k rounds, two cells each: the aptitude 0, the id. -/
def keyRow (n k : Nat) : List Value := (List.range (n * 2)).map fun j => if j % 2 = 1 ∧ j / 2 < k then Value.int .i64 (((j / 2 : Nat) : Int) + 1) else Value.int .i64 0

theorem rankMap_isMap (k : Nat) : IsMap (rankMap k) := by
  induction k with
  | zero => exact isMap_empty
  | succ k ih => exact ih.put _ _

theorem rankMap_has (k : Nat) (x : Int) : Maps.has (rankMap k) (.int .i64 x) = decide (1 ≤ x ∧ x ≤ k) := by
  induction k with
  | zero => simp [rankMap, Maps.has]; omega
  | succ k ih =>
    by_cases h : x = (k : Int) + 1
    · subst h
      rw [rankMap, has_put_same (rankMap_isMap k) (by trivial)]
      symm
      exact decide_eq_true (by omega)
    · rw [rankMap, has_put_other (by intro e; cases e; exact h rfl), ih]
      exact decide_eq_decide.2 (by omega)

theorem rankMap_at (k : Nat) (x : Int) : (rankMap k).atKey (.int .i64 x) (.lit (.int .i64 0)) = .lit (.int .i64 (if 1 ≤ x ∧ x ≤ k then x - 1 else 0)) := by
  induction k with
  | zero => rw [atKey_of_not_has (by rw [rankMap_has]; exact decide_eq_false (by omega)), if_neg (by omega)]
  | succ k ih =>
    by_cases h : x = (k : Int) + 1
    · subst h
      rw [rankMap, atKey_put_same (rankMap_isMap k) (by trivial), if_pos (by omega)]
      congr 2
      omega
    · rw [rankMap, atKey_put_other (by intro e; cases e; exact h rfl), ih]
      by_cases h2 : 1 ≤ x ∧ x ≤ k
      · rw [if_pos h2, if_pos (by omega)]
      · rw [if_neg h2, if_neg (by omega)]

theorem keyRow_zero (n : Nat) : (madeCells (Value.cells (.agg #[.int .i64 0, .int .i64 0])) (n * 2)).toList = keyRow n 0 := by
  show (madeCells #[Value.int .i64 0, Value.int .i64 0] (n * 2)).toList = _
  apply List.ext_getElem?
  intro j
  by_cases hj : j < n * 2
  · have h2 : j % 2 < 2 := Nat.mod_lt _ (by omega)
    match hm : j % 2, h2 with
    | 0, _ => simp [keyRow, hj, madeCells, hm]
    | 1, _ => simp [keyRow, hj, madeCells, hm]
  · simp [keyRow, hj, madeCells]

theorem keyRow_set (n k : Nat) : ((keyRow n k).set (k * 2) (.int .i64 0)).set (k * 2 + 1) (.int .i64 ((k : Int) + 1)) = keyRow n (k + 1) := by
  apply List.ext_getElem?
  intro j
  rw [List.getElem?_set, List.getElem?_set]
  simp only [keyRow, List.length_set, List.length_map, List.length_range, List.getElem?_map]
  by_cases hj : j < n * 2
  · rw [List.getElem?_range hj]
    by_cases h1 : k * 2 + 1 = j
    · subst h1
      rw [if_pos rfl, if_pos hj]
      simp only [Option.map_some]
      rw [if_pos (by omega)]
      congr 3
      omega
    · rw [if_neg h1]
      by_cases h2 : k * 2 = j
      · subst h2
        rw [if_pos rfl, if_pos hj]
        simp only [Option.map_some]
        rw [if_neg (by omega)]
      · rw [if_neg h2]
        simp only [Option.map_some]
        by_cases h3 : j % 2 = 1 ∧ j / 2 < k
        · rw [if_pos h3, if_pos (by omega)]
        · rw [if_neg h3, if_neg (by omega)]
  · rw [List.getElem?_eq_none (by simpa using hj)]
    by_cases h1 : k * 2 + 1 = j
    · rw [if_pos h1, if_neg (by omega)]; rfl
    · rw [if_neg h1]
      by_cases h2 : k * 2 = j
      · rw [if_pos h2, if_neg (by omega)]; rfl
      · rw [if_neg h2]; rfl

theorem keyRow_at (n j : Nat) (hj : j < n) : (keyRow n n)[j * 2 + 1]? = some (.int .i64 ((j : Int) + 1)) := by
  simp only [keyRow, List.getElem?_map]
  rw [List.getElem?_range (by omega)]
  simp only [Option.map_some]
  rw [if_pos (by omega)]
  congr 3
  omega

/-- What lies at a group of n members: its block g, the keys' ids, the ranks. The three blocks: kb, mb below g. -/
structure GroupAt (n g kb mb : Nat) (w : World) : Prop where
  blk : w.heap[g]? = some (.cells #[.slice (some ⟨kb, 0, none⟩) n n, .map (some mb), .int .i64 2, .int .i64 3, .int .i64 2] 48 (0, 0))
  keys : ∀ k, k < n → w.cell? ⟨kb, k * 2 + 1, none⟩ = some (.int .i64 ((k : Int) + 1))
  map : w.ownsMap Yba.prog 3 (plainElem Yba.prog 3) mb n (rankMap n)
  klt : kb < g
  mlt : mb < g

theorem GroupAt.lt {n g kb mb : Nat} {w : World} (h : GroupAt n g kb mb w) : g < w.heap.size := (Array.getElem?_eq_some_iff.1 h.blk).1

/-- The group stays while the blocks up to its own stay. -/
theorem GroupAt.kept {n g kb mb : Nat} {w w' : World} (h : GroupAt n g kb mb w) (hb : ∀ k, k ≤ g → w'.heap[k]? = w.heap[k]?) : GroupAt n g kb mb w' where
  blk := (hb g (Nat.le_refl _)).trans h.blk
  keys := fun k hk => (World.cell?_of_block (w := w) (hb kb (Nat.le_of_lt h.klt))).trans (h.keys k hk)
  map := by
    obtain ⟨es, clock, he, r⟩ := h.map
    exact ⟨es, clock, (hb mb (Nat.le_of_lt h.mlt)).trans he, r⟩
  klt := h.klt
  mlt := h.mlt

theorem GroupAt.grown {n g kb mb : Nat} {w w' : World} {row : Option Nat} (h : GroupAt n g kb mb w) (hg : w.grownBy w' row) (hr : ∀ k, row = some k → g < k) : GroupAt n g kb mb w' :=
  h.kept fun k hk => hg.block k (by have := h.lt; omega) (fun e => by have := hr k e.symm; omega)

theorem GroupAt.alloc {n g kb mb : Nat} {w : World} (h : GroupAt n g kb mb w) (o : Obj) : GroupAt n g kb mb (w.alloc o) := h.grown (World.grownBy_alloc w o none) (fun k hk => by cases hk)

/-- Is x a member's id; its rank (0 where it is none). -/
def mem (n : Nat) (x : Int) : Bool := decide (1 ≤ x ∧ x ≤ n)
def rk (n : Nat) (x : Int) : Int := if 1 ≤ x ∧ x ≤ n then x - 1 else 0

/-- 'r, member := g.rank[x]' and 'g.rank[x]' in whatever world holds the group. -/
theorem GroupAt.look_ok {n g kb mb : Nat} {w : World} (h : GroupAt n g kb mb w) {x : Int} (hx : (Lit.int .i64 x).wf = true) :
    (Instr.lookup 44 (.map (some mb)) (.int .i64 x) true).run Yba.prog w = .ok (.tuple #[.int .i64 (rk n x), .bool (mem n x)]) w := by
  have hk := keyOf_int_mk (P := Yba.prog) Yba.underlying3 hx
  obtain ⟨v, ps, hrun, hv⟩ := h.map.look_ok law3 Yba.underlying44 (zero3 w) (plainElem_int Yba.underlying3 (by decide)) hk
  obtain ⟨c, rfl, hc, _⟩ := plainElem_int_inv Yba.underlying3 hv
  rw [rankMap_has] at hrun
  rw [rankMap_at] at hc
  have : c = rk n x := by
    have := congrArg Prod.fst hc
    simp at this
    exact this.symm
  rw [hrun, this]
  rfl

theorem GroupAt.look {n g kb mb : Nat} {w : World} (h : GroupAt n g kb mb w) {x : Int} (hx : (Lit.int .i64 x).wf = true) :
    (Instr.lookup 44 (.map (some mb)) (.int .i64 x) false).run Yba.prog w = .ok (.int .i64 (rk n x)) w := by
  have hk := keyOf_int_mk (P := Yba.prog) Yba.underlying3 hx
  obtain ⟨c, hrun, hc, _⟩ := h.map.lookup_int law3 Yba.underlying44 Yba.underlying3 (zero3 w) hk
  rw [rankMap_at] at hc
  have : c = rk n x := by
    simp at hc
    exact hc.symm
  rw [hrun, this]

set_option maxHeartbeats 400000 in
set_option maxRecDepth 100000 in
theorem group_any (z : Int) (n : Nat) (hz : z = n) (w : World) (hn : n ≤ 8) :
    Calls Yba.prog 8 #[.int .i64 z] w fun e w' => ∃ g kb mb, e = .returned (.pointer (some ⟨g, 0, none⟩)) ∧ w.heap.size ≤ g ∧ GroupAt n g kb mb w' ∧ Below w.heap.size w w' := by
  subst hz
  obtain ⟨i0, hi, hz0, hz1, hz2⟩ := info_parts Yba.info46
  have hmm := run_makeMap_hint
  go_enter Yba.func8, Yba.ntmps8
  go_wp2_with (at_make; refine wpList_make_full _ rfl _ _ 43 rfl w.heap.size 46 i0 (.agg #[.int .i64 0, .int .i64 0]) 2 Yba.underlying43 hi hz0 hz1 _ _ _ _ n rfl rfl rfl rfl (by rw [hz2]; omega) (by unfold maxLen; omega) (Nat.le_refl _) ?_; intro w1 hown1 hgrow1)
  have hlt1 : w.heap.size < w1.heap.size := (hown1.lt _ rfl).2
  rw [keyRow_zero] at hown1
  go_loopw [5] (fun i wr => ∃ k : Nat, k ≤ n ∧ i = .int .i64 k ∧ wr.ownsRow w.heap.size 46 2 (.slice (some ⟨w.heap.size, 0, none⟩) n n) n (keyRow n k) ∧ wr.ownsMap Yba.prog 3 (plainElem Yba.prog 3) w1.heap.size k (rankMap k) ∧ Below w.heap.size w wr)
    (fun i _ => n - (intOf i).toNat)
  case atStart => exact ⟨0, Nat.zero_le _, rfl, hown1.alloc _, World.ownsMap_made _ _ _ _, ((Below.refl _ _).grown hgrow1 (Nat.le_refl _) (fun j hj => by cases hj)).alloc (by omega) _⟩
  case round =>
    obtain ⟨k, hk, rfl, hown, hmap, hnx⟩ := hrel
    by_cases hlt : k < n
    · have hc0 : ∃ v, wr.cell? ⟨w.heap.size, k * 2, none⟩ = some v := by
        rw [hown.cellAt (k * 2) (by omega)]
        exact ⟨_, List.getElem?_eq_getElem (by simp [keyRow]; omega)⟩
      have hc1 : ∃ v, wr.cell? ⟨w.heap.size, k * 2 + 1, none⟩ = some v := by
        rw [hown.cellAt (k * 2 + 1) (by omega)]
        exact ⟨_, List.getElem?_eq_getElem (by simp [keyRow]; omega)⟩
      obtain ⟨v0, hc0⟩ := hc0
      obtain ⟨v1, hc1⟩ := hc1
      have hf0 : wr.frozen? ⟨w.heap.size, k * 2, none⟩ = false := hown.frozenAt _
      have hf1 : wr.frozen? ⟨w.heap.size, k * 2 + 1, none⟩ = false := hown.frozenAt _
      have s1 := hown.stored (k * 2) (.int .i64 0)
      have s2 := s1.1.stored (k * 2 + 1) (.int .i64 ((k : Int) + 1))
      rw [keyRow_set] at s2
      have hm2 : ((wr.setCell ⟨w.heap.size, k * 2, none⟩ (.int .i64 0)).setCell ⟨w.heap.size, k * 2 + 1, none⟩ (.int .i64 ((k : Int) + 1))).ownsMap Yba.prog 3 (plainElem Yba.prog 3) w1.heap.size k (rankMap k) := (hmap.setCell (by simp; omega) _).setCell (by simp; omega) _
      have hb2 := (hnx.setCell (p := ⟨w.heap.size, k * 2, none⟩) (Nat.le_refl _) (.int .i64 0)).setCell (p := ⟨w.heap.size, k * 2 + 1, none⟩) (Nat.le_refl _) (.int .i64 ((k : Int) + 1))
      have hkey : keyOf Yba.prog 3 (.int .i64 ((k : Int) + 1)) = some (.int .i64 ((k : Int) + 1)) := keyOf_int_mk Yba.underlying3 (WalkArith.wf_i64 (by omega))
      have o2 := s2.1
      clear s1 s2 hmap hown
      go_wp2_with (at_mapUpdate; refine wpList_mapUpdate_own _ rfl _ _ _ 44 rfl 3 3 law3 Yba.underlying44 _ w1.heap.size k _ rfl hm2 (by unfold maxLen; omega) _ _ _ rfl rfl hkey _ [] (plainElem_int Yba.underlying3 (WalkArith.wf_i64 (by omega))) ?_; intro w2 hmap3 hgrow3)
      have o3 := o2.kept hgrow3 (.inr (by simp [Value.ownBlock]; omega))
      go_roundw
      case rel => exact ⟨k + 1, by omega, by go_num, o3, hmap3, hb2.grown hgrow3 hb2.size (fun j hj => by cases hj; omega)⟩
      case measure => simp [intOf]; omega
    · have : k = n := by omega
      subst this
      go_wp2
      have hl := hmap.lt
      have hG : GroupAt k wr.heap.size w.heap.size w1.heap.size (wr.alloc (.cells #[.slice (some ⟨w.heap.size, 0, none⟩) k k, .map (some w1.heap.size), .int .i64 2, .int .i64 3, .int .i64 2] 48)) := {
        blk := heap_alloc_new wr _
        keys := fun j hj => (World.cell?_alloc_past _ _ _ (by show w.heap.size < wr.heap.size; omega)).trans ((hown.cellAt (j * 2 + 1) (by omega)).trans (keyRow_at k j hj))
        map := hmap.alloc _
        klt := by omega
        mlt := by omega }
      go_ret
      exact ⟨_, _, _, rfl, hnx.size, hG, hnx.alloc hnx.size _⟩

end Go.Proofs.Ybulkacfi
