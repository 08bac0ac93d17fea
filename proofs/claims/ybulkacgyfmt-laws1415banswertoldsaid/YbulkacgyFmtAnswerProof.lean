/-
  'Rows.LawS1415BAnswerToldSaid' proved: the told and tied card of 'bencode.LawS1415BAnswer'. After the guide's IpowTold, PortSeven; the tie is given (YbulkacgyFmtTie).
-/
import Derived.Test.YbulkacgyFmtRows
import Derived.Test.YbulkacgyFmtTie
import Derived.Test.YbulkacgyFmtCards
import Derived.Test.YbulkacgyFmtAnswer
import Derived.Test.YbulkacgyFmtKit
import Derived.SevenTiedAt
namespace Go.Proofs.YbulkacgyFmt.lawS1415BAnswer
open Go.ChangeShapes Go.WideShapes Go.ChangeAt Go.RowKit Go.Kit
open Go.Extern.Stop Go.Stop Go.Extern
set_option linter.unusedVariables false

theorem walk (F : Interp) (a0 : Option Addr) (len cap : Nat) (zs : List Int) (a1 a2 : Int) (a : Addr) (s : ByteArray) (w : World) (hF : F.answers w.tape) (h0 : IsRow .u8 w a0 len cap zs) (w1 : (Lit.int .u64 a1).wf = true)
    (hg : w.cell? ⟨0, 0, none⟩ = some (.iface 56 (.pointer (some a)))) (hs : w.cell? a = some (.string s)) :
    Calls Ybaf.prog 3 #[.slice a0 len cap, .int .u64 a1, .int .i64 a2] w fun e w' => e = .returned (.bool true) ∧ Below w.heap.size w w' := by
  obtain ⟨b1, b1'⟩ := bounds_u64 w1
  by_cases hlen : len ≤ 1024
  · have hpos : (0 : Int) < (len : Int) + 2 := by omega
    obtain ⟨p, hp⟩ : ∃ p : Nat, a1 % ((len : Int) + 2) = p := ⟨(a1 % ((len : Int) + 2)).toNat, by have := Int.emod_nonneg a1 (show (len : Int) + 2 ≠ 0 by omega); omega⟩
    have hp2 : (p : Int) < (len : Int) + 2 := by have := Int.emod_lt_of_pos a1 hpos; omega
    by_cases hpl : p < len
    · obtain ⟨db, off, rfl, hc⟩ := h0.cells (by omega)
      exact answer_in db off len cap p a1 a2 _ w hlen b1 b1' hp hpl (hc p hpl)
    · exact answer_past F a0 len cap p a1 a2 a s w hF hlen b1 b1' hp (by omega) (by omega) hg hs
  · exact answer_long a0 len cap a1 a2 w (by omega)

set_option maxRecDepth 100000 in
set_option maxHeartbeats 1600000 in
theorem lifted (os : Os) (started : os.Started) (H : Type) (enc : TypeId × Value → H) :
    ReturnsInTold none {} Ybaf.checked os 3 .any Input.okWide ((OpenSpec.ofChange Rows.lawS1415BAnswerSpec).preRow enc Ybaf.prog Ybaf.f3 [] false Rows.lawS1415BAnswerRow.laid)
      (fun F => ((OpenSpec.ofChange Rows.lawS1415BAnswerSpec).at F).post enc Ybaf.prog Ybaf.f3 false true false false) (aloneAtReturn Ybaf.prog) nothingAlways := by
  refine returnsInTold_of_row (C := Ybaf.checked) (s := OpenSpec.ofChange Rows.lawS1415BAnswerSpec) (by kernel_rfl) own started (by kernel_rfl) Ybaf.func3
    (OpenSpec.witness_stopped_at (enc := enc) (C := Ybaf.checked) false (laidWorldOf Ybaf.prog os) #[.slice none 0 0, .int .u64 0, .int .i64 0] rfl (by kernel_rfl) (by kernel_rfl) (by kernel_rfl)
      (OpenSpec.preRow_of_B rfl 8 (by kernel_rfl) (by kernel_rfl) (laid_met os _))) ?_
  intro F W base args ds gs before _ hF hval0 hW _ _ _ hL0 _
  have hval : ∀ (j : Nat) t v, Ybaf.f3.params[j]? = some t → args[j]? = some v → Value.okWide Ybaf.prog W .any base t v := hval0
  have hW' := hW
  obtain ⟨p, q, hA0, hV0, rfl, hfz, hnd⟩ := hW
  have hA : DataW.TrodAll enc Ybaf.prog W 0 (fun _ => true) true Ybaf.f3.params.toList args.toList ds p := hA0
  have hV : DataW.TrodVars enc Ybaf.prog W (fun _ => true) [vn] gs q := hV0
  rw [Ybaf.params3] at hA hval
  obtain ⟨v0, v1, v2, d0, d1, d2, p0, p1, p2, rfl, rfl, rfl, h0, h1, h2⟩ := trodAll_three hA
  obtain ⟨a0, len0, cap0, rfl⟩ := okWide_slice Ybaf.underlying22 (hval 0 22 v0 rfl rfl)
  have k0 := h0
  have lt0 : ∀ x ∈ p0, x.block < W.heap.size := by obtain ⟨m, hm⟩ := k0; exact DataW.trod_lt m _ _ _ hm
  obtain ⟨z0, w0⟩ : ∃ zs, IsRow .u8 W a0 len0 cap0 zs := by
    obtain ⟨fuel, hf⟩ := h0
    rcases open_ints Ybaf.underlying22 Ybaf.underlying5 (by kernel_rfl) hf with ⟨hcs, _⟩ | ⟨x, l, c, zs, hcs, _, hl, hm, hz, _, hcell, hwz⟩
    · simp [Value.cells] at hcs
      obtain ⟨rfl, rfl, rfl⟩ := hcs
      exact ⟨[], .inl ⟨rfl, rfl, rfl, rfl⟩⟩
    · simp [Value.cells] at hcs
      obtain ⟨rfl, rfl, rfl⟩ := hcs
      exact ⟨zs, .inr ⟨_, rfl, hl, hm, by simpa using hz, hcell, hwz⟩⟩
  obtain ⟨a1, rfl, rfl, rfl, w1⟩ := open_int Ybaf.underlying23 (hval 1 23 v1 rfl rfl) h1
  obtain ⟨a2, rfl, rfl, rfl, w2⟩ := open_int Ybaf.underlying3 (hval 2 3 v2 rfl rfl) h2
  rw [MakeChecks.laidMetH_plain _ _ _ (by kernel_rfl)] at hL0
  have hL : laidMet Ybaf.prog [(vn, .iface tn (.ptr (.agg [.lit (.string [105, 110, 118, 97, 108, 105, 100, 32, 98, 101, 110, 99, 111, 100, 105, 110, 103])])))] W := hL0
  obtain ⟨ae, se, hve, hce, hse, hze⟩ := laid_sentinel hL gE gEType Ybaf.underlying28 row56 Ybaf.underlying56 Ybaf.underlying58 rfl rfl Ybaf.underlying9 cells58 cells9
  obtain ⟨rfl, rfl⟩ := hV.unique (vars_read1 enc gE gEType Ybaf.underlying28 hve trivial _)
  clear hA0 hV0 hval0
  have hge : W.cell? ⟨0, 0, none⟩ = some (.iface 56 (.pointer (some ae))) := by simpa using World.var?_cell gE hve 0
  have h0lt : 0 < W.heap.size := World.block_lt_of_cell? W _ hge
  refine (walk F.told a0 len0 cap0 z0 a1 a2 ae se W hF w0 w1 hge hce).mono fun e W' ⟨he, bel⟩ => ?_
  subst he
  exact ⟨_, rfl, _, _, _, [], _, [.cell 0 0], hW', trodAll_mk1 (shut_bool Ybaf.underlying4 _), (trodAll_cons_mk (Below.trod laidOut (by kernel_rfl) (of_decide_eq_true (by kernel_rfl)) k0 bel lt0) (trodAll_cons_mk (shut_int Ybaf.underlying23 w1) (trodAll_cons_mk (shut_int Ybaf.underlying3 w2) trodAll_mk0))),
    vars_read1 enc gE gEType Ybaf.underlying28 (var?_below bel gE h0lt hve) trivial _, bel.frame _, fun h => by cases h⟩

/-- THE CARD. -/
theorem proved : Rows.LawS1415BAnswerToldSaid :=
  Claim7.holds_of_told_tied_any_at .later 3 Ybaf.f3 "fmt.errorf" [] [] _ _ _ _ _ (by kernel_rfl) rfl rfl rfl laidOut (by kernel_rfl) rfl ⟨rfl, rfl, rfl, rfl, rfl, rfl, rfl⟩ rfl rfl (by kernel_rfl) (by kernel_rfl) Ybaf.func3 (by kernel_rfl)
    (of_decide_eq_true (by kernel_rfl)) (of_decide_eq_true (by kernel_rfl)) stopsIs.symm rfl stopKnobsIs.symm (by kernel_rfl)
    (by kernel_rfl) (by kernel_rfl) (by kernel_rfl) (by kernel_rfl) (by kernel_rfl) (by kernel_rfl) (by kernel_rfl) (by kernel_rfl) (by kernel_rfl) rfl (by kernel_rfl) rfl rfl
    rfl rfl
    rfl (by kernel_rfl) (by kernel_rfl) (by kernel_rfl) (by decide) (by kernel_rfl) lawS1415BAnswer_row_tie
    (OpenClaim.moreEntering_of (by kernel_rfl) (by kernel_rfl) (by kernel_rfl) (by kernel_rfl) (by kernel_rfl) (by kernel_rfl) (by kernel_rfl) (by kernel_rfl) (by kernel_rfl) (by kernel_rfl))
    ⟨_, WideRow.started_initial, quietIs _⟩
    (fun os started _ H enc _ => lifted os started H enc)
end Go.Proofs.YbulkacgyFmt.lawS1415BAnswer
