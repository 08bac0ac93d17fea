/-
  'Rows.LawS1415BCloserToldSaid' proved: the told and tied card of 'bencode.LawS1415BCloser'. After the guide's IpowTold, PortSeven; the tie is given (YbulkacgyFmtTie).
-/
import Derived.Test.YbulkacgyFmtRows
import Derived.Test.YbulkacgyFmtTie
import Derived.Test.YbulkacgyFmtCards
import Derived.Test.YbulkacgyFmtCloser
import Derived.Test.YbulkacgyFmtKit
import Derived.SevenTiedAt
namespace Go.Proofs.YbulkacgyFmt.lawS1415BCloser
open Go.ChangeShapes Go.WideShapes Go.ChangeAt Go.RowKit Go.Kit
open Go.Extern.Stop Go.Stop Go.Extern
set_option linter.unusedVariables false

theorem walk (F : Interp) (a0 : Option Addr) (len cap : Nat) (zs : List Int) (a : Addr) (s : ByteArray) (w : World) (hF : F.answers w.tape) (h0 : IsRow .u8 w a0 len cap zs)
    (hg : w.cell? ⟨0, 0, none⟩ = some (.iface 56 (.pointer (some a)))) (hs : w.cell? a = some (.string s)) :
    Calls Ybaf.prog 4 #[.slice a0 len cap] w fun e w' => e = .returned (.bool true) ∧ Below w.heap.size w w' := by
  by_cases hlen : len ≤ 1024
  · exact closer_any F a0 len cap zs a s w hF hlen h0.cells hg hs
  · exact closer_long a0 len cap w (by omega)

set_option maxRecDepth 100000 in
set_option maxHeartbeats 1600000 in
theorem lifted (os : Os) (started : os.Started) (H : Type) (enc : TypeId × Value → H) :
    ReturnsInTold none {} Ybaf.checked os 4 .any Input.okWide ((OpenSpec.ofChange Rows.lawS1415BCloserSpec).preRow enc Ybaf.prog Ybaf.f4 [] false Rows.lawS1415BCloserRow.laid)
      (fun F => ((OpenSpec.ofChange Rows.lawS1415BCloserSpec).at F).post enc Ybaf.prog Ybaf.f4 false true false false) (aloneAtReturn Ybaf.prog) nothingAlways := by
  refine returnsInTold_of_row (C := Ybaf.checked) (s := OpenSpec.ofChange Rows.lawS1415BCloserSpec) (by kernel_rfl) own started (by kernel_rfl) Ybaf.func4
    (OpenSpec.witness_stopped_at (enc := enc) (C := Ybaf.checked) false (laidWorldOf Ybaf.prog os) #[.slice none 0 0] rfl (by kernel_rfl) (by kernel_rfl) (by kernel_rfl)
      (OpenSpec.preRow_of_B rfl 8 (by kernel_rfl) (by kernel_rfl) (laid_met os _))) ?_
  intro F W base args ds gs before _ hF hval0 hW _ _ _ hL0 _
  have hval : ∀ (j : Nat) t v, Ybaf.f4.params[j]? = some t → args[j]? = some v → Value.okWide Ybaf.prog W .any base t v := hval0
  have hW' := hW
  obtain ⟨p, q, hA0, hV0, rfl, hfz, hnd⟩ := hW
  have hA : DataW.TrodAll enc Ybaf.prog W 0 (fun _ => true) true Ybaf.f4.params.toList args.toList ds p := hA0
  have hV : DataW.TrodVars enc Ybaf.prog W (fun _ => true) [vn] gs q := hV0
  rw [Ybaf.params4] at hA hval
  obtain ⟨v0, vs0, d0, ds0, p0, q0, hargs, rfl, rfl, h0, r0⟩ := trodAll_cons hA
  obtain ⟨rfl, rfl, rfl⟩ := trodAll_nil r0
  obtain rfl : args = #[v0] := by cases args; simp_all
  obtain ⟨a0, len0, cap0, rfl⟩ := okWide_slice Ybaf.underlying22 (hval 0 22 v0 rfl rfl)
  have k0 := h0
  have lt0 : ∀ x ∈ p0, x.block < W.heap.size := by obtain ⟨m, hm⟩ := k0; exact DataW.trod_lt m _ _ _ hm
  obtain ⟨z0, w0⟩ : ∃ zs, IsRow .u8 W a0 len0 cap0 zs := by
    obtain ⟨fuel, hf⟩ := h0
    rcases open_ints Ybaf.underlying22 Ybaf.underlying5 (by kernel_rfl) hf with ⟨hcs, _⟩ | ⟨x, l, c, zs, hcs, _, hl, hm, hz, _, hcell, hwz⟩
    · simp [Value.cells] at hcs
      obtain ⟨rfl, rfl, rfl⟩ := hcs
      exact ⟨[], .inl ⟨rfl, rfl, rfl, rfl⟩⟩
    · simp [Value.cells] at hcs
      obtain ⟨rfl, rfl, rfl⟩ := hcs
      exact ⟨zs, .inr ⟨_, rfl, hl, hm, by simpa using hz, hcell, hwz⟩⟩
  rw [MakeChecks.laidMetH_plain _ _ _ (by kernel_rfl)] at hL0
  have hL : laidMet Ybaf.prog [(vn, .iface tn (.ptr (.agg [.lit (.string [105, 110, 118, 97, 108, 105, 100, 32, 98, 101, 110, 99, 111, 100, 105, 110, 103])])))] W := hL0
  obtain ⟨ae, se, hve, hce, hse, hze⟩ := laid_sentinel hL gE gEType Ybaf.underlying28 row56 Ybaf.underlying56 Ybaf.underlying58 rfl rfl Ybaf.underlying9 cells58 cells9
  obtain ⟨rfl, rfl⟩ := hV.unique (vars_read1 enc gE gEType Ybaf.underlying28 hve trivial _)
  clear hA0 hV0 hval0
  have hge : W.cell? ⟨0, 0, none⟩ = some (.iface 56 (.pointer (some ae))) := by simpa using World.var?_cell gE hve 0
  have h0lt : 0 < W.heap.size := World.block_lt_of_cell? W _ hge
  refine (walk F.told a0 len0 cap0 z0 ae se W hF w0 hge hce).mono fun e W' ⟨he, bel⟩ => ?_
  subst he
  exact ⟨_, rfl, _, _, _, [], _, [.cell 0 0], hW', trodAll_mk1 (shut_bool Ybaf.underlying4 _), (trodAll_cons_mk (Below.trod laidOut (by kernel_rfl) (of_decide_eq_true (by kernel_rfl)) k0 bel lt0) trodAll_mk0),
    vars_read1 enc gE gEType Ybaf.underlying28 (var?_below bel gE h0lt hve) trivial _, bel.frame _, fun h => by cases h⟩

/-- THE CARD. -/
theorem proved : Rows.LawS1415BCloserToldSaid :=
  Claim7.holds_of_told_tied_any_at .later 4 Ybaf.f4 "fmt.errorf" [] [] _ _ _ _ _ (by kernel_rfl) rfl rfl rfl laidOut (by kernel_rfl) rfl ⟨rfl, rfl, rfl, rfl, rfl, rfl, rfl⟩ rfl rfl (by kernel_rfl) (by kernel_rfl) Ybaf.func4 (by kernel_rfl)
    (of_decide_eq_true (by kernel_rfl)) (of_decide_eq_true (by kernel_rfl)) stopsIs.symm rfl stopKnobsIs.symm (by kernel_rfl)
    (by kernel_rfl) (by kernel_rfl) (by kernel_rfl) (by kernel_rfl) (by kernel_rfl) (by kernel_rfl) (by kernel_rfl) (by kernel_rfl) (by kernel_rfl) rfl (by kernel_rfl) rfl rfl
    rfl rfl
    rfl (by kernel_rfl) (by kernel_rfl) (by kernel_rfl) (by decide) (by kernel_rfl) lawS1415BCloser_row_tie
    (OpenClaim.moreEntering_of (by kernel_rfl) (by kernel_rfl) (by kernel_rfl) (by kernel_rfl) (by kernel_rfl) (by kernel_rfl) (by kernel_rfl) (by kernel_rfl) (by kernel_rfl) (by kernel_rfl))
    ⟨_, WideRow.started_initial, quietIs _⟩
    (fun os started _ H enc _ => lifted os started H enc)
end Go.Proofs.YbulkacgyFmt.lawS1415BCloser
