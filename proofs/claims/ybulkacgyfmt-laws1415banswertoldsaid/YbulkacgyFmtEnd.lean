/-
  '(*Decoder).atEnd' (function 5), by its two ways.
-/
import Derived.Test.YbulkacgyFmtIs
import Derived.Deep.QuietTactic
import Derived.BigQuiet
namespace Go.Proofs.YbulkacgyFmt
open Go.RowKit Go.Extern.Stop Go.Stop Go.Extern

theorem hide {p : Prop} (h : p) : Hid p := h

set_option maxHeartbeats 1000000 in
set_option maxRecDepth 100000 in
theorem atEnd_in (d db off len cap p : Nat) (x : Int) (w : World) (hp : p < len)
    (d0 : w.cell? ⟨d, 0, none⟩ = some (.slice (some ⟨db, off, none⟩) len cap)) (d1 : w.cell? ⟨d, 1, none⟩ = some (.int .i64 p)) (hx : w.cell? ⟨db, off + p, none⟩ = some (.int .u8 x)) :
    Calls Ybaf.prog 5 #[.pointer (some ⟨d, 0, none⟩)] w fun e w' => e = .returned (.tuple #[.bool (x == 101), .nilIface]) ∧ ∃ q, w' = w.drewN q := by
  have h1 : (p : Int) < (len : Int) := by omega
  have hd : decide ((len : Int) ≤ (p : Int)) = false := decide_eq_false (by omega)
  go_enter Ybaf.func5, Ybaf.ntmps5
  go_wp2
  go_quiet (fail)
  go_wp2
  go_quiet (fail)
  go_wp2
  go_ret2
  exact ⟨rfl, _, by rw [World.drewN_drewN]⟩

set_option maxHeartbeats 1000000 in
set_option maxRecDepth 100000 in
theorem atEnd_past (F : Interp) (d len cap p : Nat) (ad : Option Addr) (a : Addr) (s : ByteArray) (w : World) (hF : F.answers w.tape) (hp : len ≤ p)
    (d0 : w.cell? ⟨d, 0, none⟩ = some (.slice ad len cap)) (d1 : w.cell? ⟨d, 1, none⟩ = some (.int .i64 p))
    (hg : w.cell? ⟨0, 0, none⟩ = some (.iface 56 (.pointer (some a)))) (hs : w.cell? a = some (.string s)) :
    Calls Ybaf.prog 5 #[.pointer (some ⟨d, 0, none⟩)] w fun e w' => ∃ pb, e = .returned (.tuple #[.bool false, .iface 55 (.pointer (some ⟨pb, 0, none⟩))]) ∧ w.heap.size ≤ pb ∧ w'.cell? ⟨pb, 0 + 1, none⟩ = some (.iface 56 (.pointer (some a))) ∧ Below w.heap.size w w' := by
  have h1 : (len : Int) ≤ (p : Int) := by omega
  have hd : decide ((len : Int) ≤ (p : Int)) = true := decide_eq_true h1
  have SE := hide (fun q dt v => serr_any F v (p : Int) dt a s (w.drewN q) hF hg hs)
  clear hg hs
  go_enter Ybaf.func5, Ybaf.ntmps5
  go_wp2
  go_quiet (fail)
  go_wp2_with fail
  refine (SE.out _ _ _).mono ?_
  rintro e w1 ⟨pb, rfl, h2, h3, h4⟩
  go_wp2
  go_ret2
  exact ⟨pb, rfl, h2, h3, ⟨h4.os, h4.tape, h4.output, h4.size, h4.block⟩⟩

end Go.Proofs.YbulkacgyFmt
