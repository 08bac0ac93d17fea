/-
  Plain laws on what two LEADERs leave, in either order; the contract of 'zzs1412cmember' (function 9).
-/
import Derived.Test.YbulkacfiReceive
namespace Go.Proofs.Ybulkacfi
open Go.RowKit Go.Maps

theorem wf_newLead {n : Nat} {lead id : Int} {came : Bool} (h1 : (Lit.int .i64 lead).wf = true) (h2 : (Lit.int .i64 id).wf = true) : (Lit.int .i64 (newLead n lead id came)).wf = true := by
  unfold newLead
  split
  · exact h2
  · exact h1

theorem newLead_comm (n : Nat) (lead a b : Int) (came : Bool) : newLead n (newLead n lead a came) b (came || mem n a) = newLead n (newLead n lead b came) a (came || mem n b) := by
  unfold newLead mem rk
  cases came <;> simp only [Bool.false_or, Bool.true_or, Bool.not_false, Bool.not_true, Bool.and_true, Bool.and_eq_true, Bool.or_eq_true, decide_eq_true_eq, Bool.not_eq_true', decide_eq_false_iff_not]
  · repeat' split
    all_goals omega
  · repeat' split
    all_goals omega

set_option maxRecDepth 100000 in
theorem member_any (x z : Int) (n : Nat) (hz : z = n) (w : World) :
    Calls Yba.prog 9 #[.int .i64 x, .int .i64 z] w fun e w' => e = .returned (.bool (mem n x)) ∧ w' = w := by
  subst hz
  unfold mem
  by_cases h1 : 1 ≤ x
  · by_cases h2 : x ≤ n
    · rw [decide_eq_true (show 1 ≤ x ∧ x ≤ (n : Int) from ⟨h1, h2⟩)]
      go_enter Yba.func9, Yba.ntmps9
      go_wp2
      go_ret
      exact ⟨rfl, rfl⟩
    · rw [decide_eq_false (show ¬ (1 ≤ x ∧ x ≤ (n : Int)) from fun h => h2 h.2)]
      go_enter Yba.func9, Yba.ntmps9
      go_wp2
      go_ret
      exact ⟨rfl, rfl⟩
  · rw [decide_eq_false (show ¬ (1 ≤ x ∧ x ≤ (n : Int)) from fun h => h1 h.1)]
    go_enter Yba.func9, Yba.ntmps9
    go_wp2
    go_ret
    exact ⟨rfl, rfl⟩

end Go.Proofs.Ybulkacfi
