/-
  THE WALKS OF strings.ContainsRune AT "-._~", OF notUnreserved AND ZZnotUnreserved.
-/
import Derived.Test.Qxb6001210aRune2
namespace Go.Proofs.Qxb6001210a
open Go.RowKit
set_option linter.unusedVariables false

/-- One of the four marks. -/
def mark (r : Int) : Bool := r == 45 || r == 46 || r == 95 || r == 126
/-- A letter or a digit. -/
def alnum (r : Int) : Bool := decide ((65 ≤ r ∧ r ≤ 90) ∨ (97 ≤ r ∧ r ≤ 122) ∨ (48 ≤ r ∧ r ≤ 57))
/-- Unreserved. -/
def unres (r : Int) : Bool := alnum r || mark r

def marks : ByteArray := ⟨#[45, 46, 95, 126]⟩
theorem marks_ascii : ∀ b ∈ marks.data.toList, b.toNat < 128 := by decide
theorem marks_ascii' : ∀ (j : Nat) b, marks.data.toList[j]? = some b → b.toNat < 128 := fun j b h => marks_ascii b (List.mem_of_getElem? h)

theorem mark_index : ∀ n : Fin 128, decide (0 ≤ Lib.indexByte [45, 46, 95, 126] n.val.toUInt8) = mark (n.val : Int) := by decide +kernel
theorem mark_beyond (r : Int) (h : r < 0 ∨ 128 ≤ r) : mark r = false := by
  unfold mark
  simp
  omega

theorem index_marks (r : Int) (w : World) (hr : (Lit.int .i32 r).wf = true) :
    Calls Try.prog 10 #[.string marks, .int .i32 r] w fun e w' => ∃ n : Int, e = .returned (.int .i64 n) ∧ decide (0 ≤ n) = mark r ∧ Below w.heap.size w w' := by
  by_cases ha : 0 ≤ r ∧ r < 128
  · refine (indexRune_ascii marks r w ha.1 ha.2).mono ?_
    rintro e w' ⟨rfl, rfl⟩
    refine ⟨_, rfl, ?_, Below.refl _ _⟩
    have h := mark_index ⟨r.toNat, by omega⟩
    rw [show ((r.toNat : Nat) : Int) = r from by omega] at h
    exact h
  · rw [mark_beyond r (by omega)]
    by_cases hv : r < 0 ∨ (55296 ≤ r ∧ r ≤ 57343) ∨ 1114111 < r
    · refine (indexRune_invalid marks r w hv).mono ?_
      rintro e w' ⟨rfl, rfl⟩
      exact ⟨_, rfl, rfl, Below.refl _ _⟩
    · by_cases he : r = 65533
      · subst he
        refine (indexRune_error marks w marks_ascii').mono ?_
        rintro e w' ⟨rfl, hb⟩
        exact ⟨_, rfl, rfl, hb⟩
      · have hval : Utf8.valid r = true := by rw [validRune_eq]; exact decide_eq_true (by omega)
        obtain ⟨f1, f2, f3⟩ := encode_facts r hval (by omega)
        refine (indexRune_beyond marks (Utf8.encode r) r ((Utf8.encode r).size - 1) w rfl marks_ascii (by omega) (beq_eq_false_iff_ne.2 he) (by omega) rfl (by omega) (by omega) (by omega) f3).mono ?_
        rintro e w' ⟨rfl, hb⟩
        exact ⟨_, rfl, rfl, hb⟩

theorem ret_bool {b c : Bool} (h : b = c) : Ending.returned (.bool b) = .returned (.bool c) := by rw [h]

theorem contains_marks (r : Int) (w : World) (hr : (Lit.int .i32 r).wf = true) :
    Calls Try.prog 9 #[.string marks, .int .i32 r] w fun e w' => e = .returned (.bool (mark r)) ∧ Below w.heap.size w w' := by
  have H := index_marks r w hr
  generalize marks = s at *
  go_enter Try.func9, Try.ntmps9
  go_wp2_with fail
  refine H.mono ?_
  rintro e w' ⟨n, rfl, hn, hb⟩
  have HN : Hid (decide (0 ≤ n) = mark r) := hn
  clear hn H
  go_wp2
  go_ret
  exact ⟨ret_bool HN.out, hb⟩

set_option maxHeartbeats 1000000 in
theorem notUnreserved (r : Int) (w : World) (hr : (Lit.int .i32 r).wf = true) :
    Calls Try.prog 7 #[.int .i32 r] w fun e w' => e = .returned (.bool (!unres r)) ∧ Below w.heap.size w w' := by
  cases ha : alnum r
  · have hu : unres r = mark r := by unfold unres; rw [ha]; rfl
    rw [hu]
    have H := contains_marks r w hr
    unfold marks at H
    generalize mark r = m at *
    have ha' := of_decide_eq_false ha
    clear ha hu
    have h1 : ¬ (65 ≤ r ∧ r ≤ 90) := fun h => ha' (.inl h)
    have h2 : ¬ (97 ≤ r ∧ r ≤ 122) := fun h => ha' (.inr (.inl h))
    have h3 : ¬ (48 ≤ r ∧ r ≤ 57) := fun h => ha' (.inr (.inr h))
    clear ha'
    by_cases c1 : 65 ≤ r <;> by_cases c2 : 97 ≤ r <;> by_cases c3 : 48 ≤ r <;> try omega
    all_goals
      go_enter Try.func7, Try.ntmps7
      go_wp2_with fail
      refine H.mono ?_
      rintro e w' ⟨rfl, hb⟩
      go_wp2
      go_ret
      exact ⟨rfl, hb⟩
  · have hu : unres r = true := by unfold unres; rw [ha]; rfl
    rw [hu]
    have ha' := of_decide_eq_true ha
    clear ha hu
    rcases ha' with ⟨h1, h2⟩ | ⟨h1, h2⟩ | ⟨h1, h2⟩
    all_goals
      go_enter Try.func7, Try.ntmps7
      go_wp2
      go_ret
      exact ⟨rfl, Below.refl _ _⟩

theorem zzNot (r : Int) (w : World) (hr : (Lit.int .i32 r).wf = true) :
    Calls Try.prog 5 #[.int .i32 r] w fun e w' => e = .returned (.bool (!unres r)) ∧ Below w.heap.size w w' := by
  have H := notUnreserved r w hr
  generalize unres r = u at *
  go_enter Try.func5, Try.ntmps5
  go_wp2_with fail
  refine H.mono ?_
  rintro e w' ⟨rfl, hb⟩
  go_wp2
  go_ret
  exact ⟨rfl, hb⟩

/-- THE FIRST LAW's WALK. -/
theorem refuses (r : Int) (w : World) (hr : (Lit.int .i32 r).wf = true) :
    Calls Try.prog 4 #[.int .i32 r] w fun e w' => e = .returned (.bool true) ∧ Below w.heap.size w w' := by
  by_cases h0 : 0 ≤ r
  · by_cases h1 : r ≤ 127
    · go_enter Try.func4, Try.ntmps4
      go_wp2
      go_ret
      exact ⟨rfl, Below.refl _ _⟩
    · have H := zzNot r w hr
      have hu : unres r = false := by unfold unres; rw [mark_beyond r (by omega)]; unfold alnum; rw [decide_eq_false (by omega)]; rfl
      rw [hu] at H
      clear hu
      go_enter Try.func4, Try.ntmps4
      go_wp2_with fail
      refine H.mono ?_
      rintro e w' ⟨rfl, hb⟩
      go_wp2
      go_ret
      exact ⟨rfl, hb⟩
  · have H := zzNot r w hr
    have hu : unres r = false := by unfold unres; rw [mark_beyond r (by omega)]; unfold alnum; rw [decide_eq_false (by omega)]; rfl
    rw [hu] at H
    clear hu
    go_enter Try.func4, Try.ntmps4
    go_wp2_with fail
    refine H.mono ?_
    rintro e w' ⟨rfl, hb⟩
    go_wp2
    go_ret
    exact ⟨rfl, hb⟩

end Go.Proofs.Qxb6001210a
