/-
  The walks of 'LawS1415BCloser' (function 4).
-/
import Derived.Test.YbulkacgyFmtAnswer
namespace Go.Proofs.YbulkacgyFmt
open Go.RowKit Go.Extern.Stop Go.Stop Go.Extern

set_option maxHeartbeats 1000000 in
set_option maxRecDepth 100000 in
theorem closer_long (ad : Option Addr) (len cap : Nat) (w : World) (hlen : (1024 : Int) < (len : Int)) :
    Calls Ybaf.prog 4 #[.slice ad len cap] w fun e w' => e = .returned (.bool true) ∧ Below w.heap.size w w' := by
  go_enter Ybaf.func4, Ybaf.ntmps4
  go_wp2
  go_ret
  exact ⟨rfl, Below.refl _ _⟩

theorem block_cell {w : World} {b j : Nat} {cs : Array Value} {t : TypeId} {v : Value} (h : w.heap[b]? = some (.cells cs t (0, 0))) (hv : cs[j]? = some v) : w.cell? ⟨b, j, none⟩ = some v := by
  rw [cell_of_row w b j cs t (0, 0) h, hv]
theorem block_free {w : World} {b j : Nat} {cs : Array Value} {t : TypeId} (h : w.heap[b]? = some (.cells cs t (0, 0))) : w.frozen? ⟨b, j, none⟩ = false := frozen_of_row w b j cs t h
theorem block_lt {w : World} {b : Nat} {o : Obj} (h : w.heap[b]? = some o) : b < w.heap.size := (Array.getElem?_eq_some_iff.1 h).1

set_option maxHeartbeats 1000000 in
set_option maxRecDepth 100000 in
theorem closer_any (F : Interp) (ad : Option Addr) (len cap : Nat) (xs : List Int) (a : Addr) (s : ByteArray) (w : World) (hF : F.answers w.tape) (hlen : len ≤ 1024)
    (hrow : 0 < len → ∃ db off, ad = some ⟨db, off, none⟩ ∧ ∀ k, k < len → w.cell? ⟨db, off + k, none⟩ = some (.int .u8 (xs.getD k 0)))
    (hg : w.cell? ⟨0, 0, none⟩ = some (.iface 56 (.pointer (some a)))) (hs : w.cell? a = some (.string s)) :
    Calls Ybaf.prog 4 #[.slice ad len cap] w fun e w' => e = .returned (.bool true) ∧ Below w.heap.size w w' := by
  have hl := World.block_lt_of_cell? w _ hg
  have hal := World.block_lt_of_cell? w _ hs
  have hlen' : (len : Int) ≤ 1024 := by omega
  have HROW := hide hrow
  have HG := hide hg
  have HS := hide hs
  have HF := hide hF
  clear hrow hg hs hF
  go_enter Ybaf.func4, Ybaf.ntmps4
  go_wp2
  go_loopw [4] (fun i wr => ∃ k : Nat, k ≤ len + 1 ∧ i = .int .i64 k ∧ (∃ v, wr.heap[w.heap.size]? = some (.cells #[.slice ad len cap, v, .int .i64 0] 26 (0, 0))) ∧ Below w.heap.size w wr) (fun i _ => len + 1 - (intOf i).toNat)
  case atStart => exact ⟨0, Nat.zero_le _, rfl, ⟨_, heap_alloc_new w _⟩, (Below.refl _ _).alloc (Nat.le_refl _) _⟩
  case round =>
    obtain ⟨k, hk, rfl, ⟨v, hD⟩, hnx⟩ := hrel
    have sz := block_lt hD
    have d0 : wr.cell? ⟨w.heap.size, 0, none⟩ = some (.slice ad len cap) := block_cell hD rfl
    have d1 : wr.cell? ⟨w.heap.size, 1, none⟩ = some v := block_cell hD rfl
    have f1 : wr.frozen? ⟨w.heap.size, 1, none⟩ = false := block_free hD
    have hD2 : (wr.setCell ⟨w.heap.size, 1, none⟩ (.int .i64 k)).heap[w.heap.size]? = some (.cells #[.slice ad len cap, .int .i64 k, .int .i64 0] 26 (0, 0)) := heap_setCell_same wr w.heap.size 1 _ 26 _ hD
    have hnx2 := hnx.setCell (p := ⟨w.heap.size, 1, none⟩) (Nat.le_refl _) (.int .i64 k)
    have HD2 := hide hD2
    have HN2 := hide hnx2
    have HN := hide hnx
    clear hD hD2 hnx2 hnx
    by_cases hlt : k < len
    · have hlt' : (k : Int) < (len : Int) := by omega
      obtain ⟨db, off, rfl, hc⟩ := HROW.out (by omega)
      have hx : (wr.setCell ⟨w.heap.size, 1, none⟩ (.int .i64 k)).cell? ⟨db, off + k, none⟩ = some (.int .u8 (xs.getD k 0)) := (HN2.out.cell (p := ⟨db, off + k, none⟩) (World.block_lt_of_cell? w _ (hc k hlt))).trans (hc k hlt)
      have hx1 : wr.cell? ⟨db, off + k, none⟩ = some (.int .u8 (xs.getD k 0)) := (HN.out.cell (p := ⟨db, off + k, none⟩) (World.block_lt_of_cell? w _ (hc k hlt))).trans (hc k hlt)
      have hdb := World.block_lt_of_cell? w _ (hc k hlt)
      have AE := hide (atEnd_in w.heap.size db off len cap k (xs.getD k 0) _ hlt (block_cell HD2.out rfl) (block_cell HD2.out rfl) hx)
      obtain ⟨x, hxe⟩ : ∃ x, x = xs.getD k 0 := ⟨_, rfl⟩
      rw [← hxe] at AE hx1
      clear hc hx hxe
      go_wp2_with fail
      refine AE.out.mono ?_
      rintro e w1 ⟨rfl, q, rfl⟩
      go_wp2_with fail
      go_roundw
      case rel => exact ⟨k + 1, by omega, by go_num, ⟨_, HD2.out⟩, below_drewN HN2.out q⟩
      case measure => simp [intOf]; omega
    by_cases he : k = len
    · subst he
      have hg2 : (wr.setCell ⟨w.heap.size, 1, none⟩ (.int .i64 k)).cell? ⟨0, 0, none⟩ = some (.iface 56 (.pointer (some a))) := (HN2.out.cell (p := ⟨0, 0, none⟩) hl).trans HG.out
      have hs2 : (wr.setCell ⟨w.heap.size, 1, none⟩ (.int .i64 k)).cell? a = some (.string s) := (HN2.out.cell (p := a) hal).trans HS.out
      have hF2 : F.answers (wr.setCell ⟨w.heap.size, 1, none⟩ (.int .i64 k)).tape := by rw [HN2.out.tape]; exact HF.out
      have AE := hide (atEnd_past F w.heap.size k cap k ad a s _ hF2 (Nat.le_refl _) (block_cell HD2.out rfl) (block_cell HD2.out rfl) hg2 hs2)
      have HG2 := hide hg2
      clear hg2 hs2 hF2
      go_wp2_with fail
      refine AE.out.mono ?_
      rintro e w1 ⟨pb, rfl, h2, h3, h4⟩
      have hz : (wr.setCell ⟨w.heap.size, 1, none⟩ (.int .i64 k)).heap.size = wr.heap.size := by simp
      have cg : w1.cell? ⟨0, 0, none⟩ = some (.iface 56 (.pointer (some a))) := (h4.cell (p := ⟨0, 0, none⟩) (by show 0 < (wr.setCell _ _).heap.size; omega)).trans HG2.out
      have D3 := hide ((h4.block w.heap.size (by rw [hz]; exact sz)).trans HD2.out)
      have B3 := hide (HN2.out.trans (h4.mono HN2.out.size))
      have IS := hide (is_wrap_same pb 0 a w1 h3)
      clear h2 h3 h4 AE
      go_wp2_with fail
      refine IS.out.mono ?_
      rintro e w2 ⟨rfl, rfl⟩
      go_wp2_with fail
      go_roundw
      case rel => exact ⟨k + 1, by omega, by go_num, ⟨_, D3.out⟩, B3.out⟩
      case measure => simp [intOf]
    · have hgt : (len : Int) < (k : Int) := by omega
      go_wp2
      go_ret
      exact ⟨rfl, HN.out⟩

end Go.Proofs.YbulkacgyFmt
