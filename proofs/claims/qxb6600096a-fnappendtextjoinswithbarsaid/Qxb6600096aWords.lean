/-
  THE WORDS OF THE DUMP'S HEAD, read by laws and not by the kernel alone (which takes 9 GiB to read the words of a head of 700 signs).
-/
import Derived.Test.Qxb6600096aRows
import Derived.ProofKit
namespace Go.Proofs.Qxb6600096a.Words

/-- A word without a blank, and the blank behind it. -/
theorem ws_word : (w r : List Char) → w.all (fun c => c != ' ') = true → wordsSigns (w ++ ' ' :: r) = w :: wordsSigns r
  | [], r, _ => rfl
  | c :: w, r, h => by
    rw [List.all_cons, Bool.and_eq_true] at h
    have ih := ws_word w r h.2
    have hc : c ≠ ' ' := by simpa using h.1
    rw [List.cons_append, wordsSigns, ih]
    exact hc

/-- The first word and its blank, the sum, the third word with its blanks. -/
theorem ws_three (l : List Char) (h1 : l.take 8 = ['h','a','r','n','e','s','s'] ++ [' ']) (h2 : ((l.drop 8).take 64).all (fun c => c != ' ') = true) (h3 : (l.drop 72).take 5 = [' ','c','u','t',' ']) :
    wordsSigns l = ['h','a','r','n','e','s','s'] :: (l.drop 8).take 64 :: ['c','u','t'] :: wordsSigns (l.drop 77) := by
  have e3 : l.drop 72 = [' ','c','u','t',' '] ++ l.drop 77 := by
    rw [← List.take_append_drop 5 (l.drop 72), h3, List.drop_drop]
  have e2 : l.drop 8 = (l.drop 8).take 64 ++ l.drop 72 := by
    have := (List.take_append_drop 64 (l.drop 8)).symm
    rwa [List.drop_drop] at this
  have e1 : l = ['h','a','r','n','e','s','s'] ++ ' ' :: ((l.drop 8).take 64 ++ ' ' :: (['c','u','t'] ++ ' ' :: l.drop 77)) := by
    have := (List.take_append_drop 8 l).symm
    rw [h1, e2, e3] at this
    exact this
  generalize (l.drop 8).take 64 = s at *
  generalize l.drop 77 = r at *
  rw [e1, ws_word _ _ (by decide), ws_word _ _ h2, ws_word _ _ (by decide)]

/-- The head's words of a dump that is cut. -/
def Cut (P : Program) : Prop := ∃ ws, behindMainWord (wordsSigns P.initOrder.toList) = ['c','u','t'] :: ws

theorem cut_of {P : Program} {l : List Char} (e : P.initOrder = String.ofList l) (h1 : l.take 8 = ['h','a','r','n','e','s','s'] ++ [' ']) (h2 : ((l.drop 8).take 64).all (fun c => c != ' ') = true) (h3 : (l.drop 72).take 5 = [' ','c','u','t',' ']) (h4 : isSumSigns ((l.drop 8).take 64) = true) : Cut P := by
  refine ⟨wordsSigns (l.drop 77), ?_⟩
  rw [e, String.toList_ofList, ws_three l h1 h2 h3]
  generalize (l.drop 8).take 64 = s at *
  have hh : ((['h','a','r','n','e','s','s'] == "harness".toList || ['h','a','r','n','e','s','s'] == "ownmain".toList) && isSumSigns s) = true := by
    rw [h4]; decide
  show (if ((['h','a','r','n','e','s','s'] == "harness".toList || ['h','a','r','n','e','s','s'] == "ownmain".toList) && isSumSigns s) = true then _ else _) = _
  rw [if_pos hh]

theorem strip (ws : List (List Char)) : stripLifts liftWords (['c','u','t'] :: ws) = ([], ['c','u','t'] :: ws) := by kernel_rfl

theorem headLifts_of {P : Program} (h : Cut P) : P.headLifts = [] := by
  obtain ⟨ws, e⟩ := h
  unfold Program.headLifts
  rw [e, strip]
  rfl

theorem mayEnter_of {P : Program} (h : Cut P) (hl : P.laysLater = false) (hr : P.bearsReflect = false) (hd : P.doorFits [] = true) : P.mayEnter = true := by
  obtain ⟨ws, e⟩ := h
  unfold Program.mayEnter
  rw [e]
  simp only [strip, hl, hr, hd]
  rfl

theorem liftsFinal_of {P : Program} (h : Cut P) : P.liftsFinal = false := by
  have hh := headLifts_of h
  obtain ⟨ws, e⟩ := h
  unfold Program.liftsFinal
  rw [e, hh]
  rfl

theorem make_of {P : Program} (h : Cut P) : P.make = some .cut := by
  have hh := headLifts_of h
  obtain ⟨ws, e⟩ := h
  unfold Program.make
  rw [e, hh]
  rfl

set_option maxRecDepth 100000 in
theorem head : ∃ l, Try.prog.initOrder = String.ofList l ∧ l.take 8 = ['h','a','r','n','e','s','s'] ++ [' '] ∧ ((l.drop 8).take 64).all (fun c => c != ' ') = true ∧ (l.drop 72).take 5 = [' ','c','u','t',' '] ∧ isSumSigns ((l.drop 8).take 64) = true :=
  ⟨_, rfl, by kernel_rfl, by kernel_rfl, by kernel_rfl, by kernel_rfl⟩

theorem cut : Cut Try.prog := by
  obtain ⟨l, e, h1, h2, h3, h4⟩ := head
  exact cut_of e h1 h2 h3 h4

theorem laysLater : Try.prog.laysLater = false := by kernel_rfl
theorem bearsReflect : Try.prog.bearsReflect = false := by kernel_rfl
theorem doorFits : Try.prog.doorFits [] = true := by kernel_rfl
theorem mayEnter : Try.prog.mayEnter = true := mayEnter_of cut laysLater bearsReflect doorFits
theorem liftsFinal : Try.prog.liftsFinal = false := liftsFinal_of cut
theorem make : Try.prog.make = some .cut := make_of cut

end Go.Proofs.Qxb6600096a.Words
