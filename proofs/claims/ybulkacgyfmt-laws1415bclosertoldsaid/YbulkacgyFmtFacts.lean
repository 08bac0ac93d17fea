/-
  Closed facts for a walk over the stop at fmt.errorf in this dump (after the guide's SentryFmt, IpowFmt), each by the kernel; and fmt.Errorf (function 11) at the one format of this dump (a wrapped error, a number, a text) by its contract.
-/
import Derived.Test.YbulkacgyFmtRows
import Derived.Stop.CallBack
import Derived.Stop.IfaceNil
import Derived.WalkKit
import Derived.ProofKit
import Derived.WalkSpells
import GoSem.ClaimData
namespace Go.Proofs.YbulkacgyFmt
open Go.RowKit Go.Extern.Stop Go.Stop Go.Extern

theorem call12 (args : Array Value) (w : World) : (callFunc 12 args).run Ybaf.prog w = ((FmtStop.errorf #[9, 53] #[28] args).run Ybaf.prog w).andThen fun v w' => .ok (.value v) w' :=
  run_callFunc_extern Ybaf.func12 (by kernel_rfl) (by kernel_rfl) (by kernel_rfl) (by kernel_rfl) args w
theorem guardF (name : String) (w : World) : (FmtStop.guard name).run Ybaf.prog w = .ok () w := by kernel_rfl
theorem fmt0 : FmtStop.printed? ⟨#[37, 119, 32, 97, 116, 32, 98, 121, 116, 101, 32, 37, 100, 58, 32, 37, 115]⟩ 3 = some [(0, 119, false), (1, 100, false), (2, 115, false)] := by kernel_rfl
theorem fmt0r (w : World) : (FmtDoors.printed ⟨#[37, 119, 32, 97, 116, 32, 98, 121, 116, 101, 32, 37, 100, 58, 32, 37, 115]⟩ 3).run Ybaf.prog w = .ok [(0, 119, false), (1, 100, false), (2, 115, false)] w := by kernel_rfl
def shape3 : List UInt8 := [5, 3, 0, 0, 0, 0, 0, 0, 0, 105, 110, 116]
theorem op3_100w (name : String) (x : Int) (w : World) : (FmtStop.operand name true 100 false (.iface 3 (.int .i64 x))).run Ybaf.prog w = .ok (shape3, Go.Extern.Stop.digits 8 (x % 2 ^ 64).toNat) w := by kernel_rfl
def shape9 : List UInt8 := [12, 6, 0, 0, 0, 0, 0, 0, 0, 115, 116, 114, 105, 110, 103]
theorem op9_115w (name : String) (x : ByteArray) (w : World) : (FmtStop.operand name true 115 false (.iface 9 (.string x))).run Ybaf.prog w = .ok (shape9, FmtStop.pack x.data.toList) w := by kernel_rfl
theorem ptr56 (w : World) : (FmtStop.ptrTo "errors.errorString").run Ybaf.prog w = .ok 56 w := by kernel_rfl
theorem elem56 (w : World) : (elemOf 56).run Ybaf.prog w = .ok 58 w := by kernel_rfl
theorem isError56 (w : World) : (FmtDoors.textMethod 56 "Error").run Ybaf.prog w = .ok true w := by kernel_rfl
/-- The name of the pointer type to errors.errorString, as the row's datum has it. -/
def tn : String := match (Rows.laid_example_com_swarmline_swarmline_bencode_ErrSyntax (H := Unit)) with
  | .iface n _ => n
  | _ => ""
theorem name56 : Ybaf.prog.typeName? 3 56 = some tn := by kernel_rfl
def plain56 : List UInt8 := 14 :: FmtStop.pack tn.toUTF8.data.toList
theorem opPlain56_119w (name : String) (a : Addr) (s : ByteArray) (w : World) (hc : w.cell? a = some (.string s)) :
    (FmtStop.operand name true 119 false (.iface 56 (.pointer (some a)))).run Ybaf.prog w = .ok (plain56, s.data.toList) w := by
  have h1 : (typeStr 56).run Ybaf.prog w = .ok tn w := by kernel_rfl
  have d2 : Ybaf.t56.desc = .pointer 58 := rfl
  have d3 : Ybaf.t58.desc = .named "errors.errorString" 57 := rfl
  simp [FmtStop.operand, h1, d2, d3, run_load, hc, plain56]
theorem ptr55 (w : World) : (FmtStop.ptrTo "fmt.wrapError").run Ybaf.prog w = .ok 55 w := by kernel_rfl
theorem elem55 (w : World) : (elemOf 55).run Ybaf.prog w = .ok 85 w := by kernel_rfl
theorem isError55 (w : World) : (FmtDoors.textMethod 55 "Error").run Ybaf.prog w = .ok true w := by kernel_rfl

attribute [local go_sem] call12 guardF fmt0 fmt0r op3_100w op9_115w ptr56 elem56 isError56 ptr55 elem55 isError55

set_option maxHeartbeats 1000000 in
theorem errorf_wrap (F : Interp) (at' : Int) (d : ByteArray) (a : Addr) (s : ByteArray) (blk : Nat) (w : World) (hF : F.answers w.tape)
    (hc0 : w.cell? ⟨blk, 0, none⟩ = some (.iface 56 (.pointer (some a)))) (hc1 : w.cell? ⟨blk, 1, none⟩ = some (.iface 3 (.int .i64 at'))) (hc2 : w.cell? ⟨blk, 2, none⟩ = some (.iface 9 (.string d)))
    (hs : w.cell? a = some (.string s)) :
    Calls Ybaf.prog 11 #[.string ⟨#[37, 119, 32, 97, 116, 32, 98, 121, 116, 101, 32, 37, 100, 58, 32, 37, 115]⟩, .slice (some ⟨blk, 0, none⟩) 3 3] w fun e w' =>
      e = .returned (.iface 55 (.pointer (some ⟨w.heap.size, 0, none⟩))) ∧ ∃ t, w' = (w.alloc (.cells #[.string t, .iface 56 (.pointer (some a))] 85)).drew := by
  have hF' := answers_open hF
  have hop := opPlain56_119w "fmt.errorf" a s w hs
  go_enter Ybaf.func11, Ybaf.ntmps11
  go_wp2
  go_ret
  exact ⟨rfl, _, rfl⟩

/-! ### function 8 -/
set_option maxHeartbeats 1000000 in
set_option maxRecDepth 100000 in
theorem serr_any (F : Interp) (v : Value) (at' : Int) (d : ByteArray) (a : Addr) (s : ByteArray) (w : World) (hF : F.answers w.tape) (hg : w.cell? ⟨0, 0, none⟩ = some (.iface 56 (.pointer (some a)))) (hs : w.cell? a = some (.string s)) :
    Calls Ybaf.prog 8 #[v, .int .i64 at', .string d] w fun e w' => ∃ pb, e = .returned (.iface 55 (.pointer (some ⟨pb, 0, none⟩))) ∧ w.heap.size ≤ pb ∧ w'.cell? ⟨pb, 0 + 1, none⟩ = some (.iface 56 (.pointer (some a))) ∧ Below w.heap.size w w' := by
  have hl := World.block_lt_of_cell? w _ hg
  have hal := World.block_lt_of_cell? w _ hs
  go_enter Ybaf.func8, Ybaf.ntmps8
  go_wp2_with fail
  refine (errorf_wrap F at' d a s w.heap.size _ ?_ ?_ ?_ ?_ ?_).mono ?_
  · exact hF
  · go_simp
  · go_simp
  · go_simp
  · exact (((Below.refl w.heap.size w).alloc (Nat.le_refl _) _).cell (p := a) hal).trans hs
  · rintro e w1 ⟨rfl, t, rfl⟩
    go_wp2
    go_ret
    exact ⟨_, rfl, by simp, by go_simp, (((Below.refl _ _).alloc (Nat.le_refl _) _).alloc (by simp) _).drew⟩

end Go.Proofs.YbulkacgyFmt
