/-
  THE CLOSED FACTS OF THE ROW OF FnAppendTextJoinsWithBar, each a lemma of its own (in one piece the kernel outgrows its lid).
-/
import Derived.Test.Qxb6600096aWords
import Derived.ProofKit
namespace Go.Proofs.Qxb6600096a.fnAppendTextJoinsWithBar
set_option maxHeartbeats 40000000 in
set_option maxRecDepth 100000 in
theorem closed : joinedFacts Try.pinned.checked.prog 7 Try.f7 Rows.fnAppendTextJoinsWithBarSpec Rows.fnAppendTextJoinsWithBarRow = true := by
  have e : Try.pinned.checked.prog = Try.prog := rfl
  rw [e]
  unfold joinedFacts
  rw [Words.mayEnter, Words.liftsFinal, Words.make]
  simp only [Bool.and_eq_true]
  and_intros
  all_goals first | exact True.intro | (as_aux_lemma => kernel_rfl)
end Go.Proofs.Qxb6600096a.fnAppendTextJoinsWithBar
