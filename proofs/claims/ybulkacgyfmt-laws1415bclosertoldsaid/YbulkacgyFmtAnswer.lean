/-
  The walks of 'LawS1415BAnswer' (function 3).
-/
import Derived.Test.YbulkacgyFmtEnd
namespace Go.Proofs.YbulkacgyFmt
open Go.RowKit Go.Extern.Stop Go.Stop Go.Extern

theorem below_drewN {B : Nat} {a w : World} (h : Below B a w) (n : Nat) : Below B a (w.drewN n) := ⟨h.os, h.tape, h.output, h.size, h.block⟩

set_option maxHeartbeats 1000000 in
set_option maxRecDepth 100000 in
theorem answer_long (ad : Option Addr) (len cap : Nat) (pos depth : Int) (w : World) (hlen : (1024 : Int) < (len : Int)) :
    Calls Ybaf.prog 3 #[.slice ad len cap, .int .u64 pos, .int .i64 depth] w fun e w' => e = .returned (.bool true) ∧ Below w.heap.size w w' := by
  go_enter Ybaf.func3, Ybaf.ntmps3
  go_wp2
  go_ret
  exact ⟨rfl, Below.refl _ _⟩

set_option maxHeartbeats 1000000 in
set_option maxRecDepth 100000 in
theorem answer_in (db off len cap p : Nat) (pos depth x : Int) (w : World) (hlen : len ≤ 1024) (h0 : 0 ≤ pos) (h0' : pos ≤ 18446744073709551615) (hp : pos % ((len : Int) + 2) = p) (hpl : p < len)
    (hx : w.cell? ⟨db, off + p, none⟩ = some (.int .u8 x)) :
    Calls Ybaf.prog 3 #[.slice (some ⟨db, off, none⟩) len cap, .int .u64 pos, .int .i64 depth] w fun e w' => e = .returned (.bool true) ∧ Below w.heap.size w w' := by
  have hl := World.block_lt_of_cell? w _ hx
  have hlen' : (len : Int) ≤ 1024 := by omega
  have hpl' : (p : Int) < (len : Int) := by omega
  go_enter Ybaf.func3, Ybaf.ntmps3
  go_wp2_with fail
  refine (atEnd_in w.heap.size db off len cap p x _ hpl ?_ ?_ ?_).mono ?_
  · go_simp
  · go_simp
  · exact (World.cell?_alloc_past _ _ _ hl).trans hx
  · rintro e w1 ⟨rfl, q, rfl⟩
    go_wp2
    go_ret
    exact ⟨rfl, below_drewN ((Below.refl _ _).alloc (Nat.le_refl _) _) q⟩

set_option maxHeartbeats 1000000 in
set_option maxRecDepth 100000 in
theorem answer_past (F : Interp) (ad : Option Addr) (len cap p : Nat) (pos depth : Int) (a : Addr) (s : ByteArray) (w : World) (hF : F.answers w.tape) (hlen : len ≤ 1024) (h0 : 0 ≤ pos) (h0' : pos ≤ 18446744073709551615) (hp : pos % ((len : Int) + 2) = p) (hpl : len ≤ p) (hp2 : p ≤ 1026)
    (hg : w.cell? ⟨0, 0, none⟩ = some (.iface 56 (.pointer (some a)))) (hs : w.cell? a = some (.string s)) :
    Calls Ybaf.prog 3 #[.slice ad len cap, .int .u64 pos, .int .i64 depth] w fun e w' => e = .returned (.bool true) ∧ Below w.heap.size w w' := by
  have hl := World.block_lt_of_cell? w _ hg
  have hal := World.block_lt_of_cell? w _ hs
  have hlen' : (len : Int) ≤ 1024 := by omega
  have hpl' : (len : Int) ≤ (p : Int) := by omega
  have hp2' : (p : Int) ≤ 1026 := by omega
  go_enter Ybaf.func3, Ybaf.ntmps3
  go_wp2_with fail
  refine (atEnd_past F w.heap.size len cap p ad a s _ ?_ hpl ?_ ?_ ?_ ?_).mono ?_
  · exact hF
  · go_simp
  · go_simp
  · exact (World.cell?_alloc_past _ _ _ hl).trans hg
  · exact (((Below.refl w.heap.size w).alloc (Nat.le_refl _) _).cell (p := a) hal).trans hs
  · rintro e w1 ⟨pb, rfl, h2, h3, h4⟩
    have c0 : w1.cell? ⟨w.heap.size, 0, none⟩ = some (.slice ad len cap) := (h4.cell (p := ⟨w.heap.size, 0, none⟩) (by simp)).trans (by go_simp)
    have c1 : w1.cell? ⟨w.heap.size, 1, none⟩ = some (.int .i64 p) := (h4.cell (p := ⟨w.heap.size, 1, none⟩) (by simp)).trans (by go_simp)
    have c2 : w1.cell? ⟨w.heap.size, 2, none⟩ = some (.int .i64 depth) := (h4.cell (p := ⟨w.heap.size, 2, none⟩) (by simp)).trans (by go_simp)
    have cg : w1.cell? ⟨0, 0, none⟩ = some (.iface 56 (.pointer (some a))) := (h4.cell (p := ⟨0, 0, none⟩) (by simp)).trans ((World.cell?_alloc_past _ _ _ hl).trans hg)
    have HB : Hid (Below w.heap.size w w1) := ((Below.refl _ _).alloc (Nat.le_refl _) _).trans (h4.mono (by simp))
    have IS := hide (is_wrap_same pb 0 a w1 h3)
    clear h4 hg hs h3
    go_wp2_with fail
    refine IS.out.mono ?_
    rintro e w2 ⟨rfl, rfl⟩
    go_wp2_with fail
    go_ret
    exact ⟨rfl, HB.out⟩

end Go.Proofs.YbulkacgyFmt
