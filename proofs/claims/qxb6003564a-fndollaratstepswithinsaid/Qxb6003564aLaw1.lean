/-
  THE WALK OF FnDollarAtStepsWithin.
-/
import Derived.Test.Qxb6003564aSteps
namespace Go.Proofs.Qxb6003564a
open Go.RowKit
set_option linter.unusedVariables false

theorem ret_bool {b c : Bool} (h : b = c) : Ending.returned (.bool b) = .returned (.bool c) := by rw [h]

set_option maxHeartbeats 1000000 in
set_option maxRecDepth 100000 in
theorem steps_main (t : ByteArray) (ol : Nat) (lone : Int) (ws : Bool) (kind : Int) (quoted : Bool) (part : Int) (w : World) (hT : t.size ≤ 1048576) (ho : ol ≤ 65536) (ht : 1 ≤ t.size) (h36 : (((t[0]'(by omega)).toNat : Int) != 36) = false) :
    Calls Try.prog 9 #[.string t, .int .i64 ol, .int .i64 lone, .bool ws, .int .i64 kind, .bool quoted, .int .i64 part] w fun e w' => e = .returned (.bool true) ∧ Below w.heap.size w w' := by
  have e0 : ((t.size : Int) == 0) = false := beq_eq_false_iff_ne.2 (by omega)
  have hmk := fun W : World => run_make_row' (P := Try.prog) 34 5 (.int .u8 0) 1 Try.underlying34 info5 rfl .i64 .i64 ol (by omega) (by omega) W
  obtain ⟨M, hM⟩ : ∃ M, M = madeCells #[Value.int .u8 0] ol := ⟨_, rfl⟩
  rw [← hM] at hmk
  clear hM
  go_enter Try.func9, Try.ntmps9
  go_wp2_with fail
  refine (zbSteps_yes t _ _ _ _ _ _ _ hT).mono ?_
  rintro e w' ⟨rfl, rfl⟩
  go_wp2_with fail
  refine (newReader _ _ _ _ _ _ rfl _).mono ?_
  rintro e w1 ⟨rfl, rfl⟩
  go_wp2_with fail
  refine (newFrame _ _ _ _).mono ?_
  rintro e w2 ⟨rfl, rfl⟩
  clear hmk
  obtain ⟨W, hW⟩ : ∃ W, W = (((w'.alloc (.cells M 5)).alloc (.cells #[.slice (some ⟨w'.heap.size, 0, none⟩) ol ol, .slice none 0 0, .slice none 0 0, .bool ws, .bool false, .slice none 0 0, .bool false, .bool false, .int .i64 lone, .bool false] 62)).alloc (.cells #[.int .i64 kind, .int .i64 0, .int .u8 0, .bool false, .bool quoted, .int .i64 part, .string ⟨#[]⟩, .bool false, .bool false] 69)) := ⟨_, rfl⟩
  obtain ⟨hr, k0, k4, k5, hb⟩ := laid3 w' M _ _ _ _ _ _ _ _ W hW
  go_wp2_with fail
  rw [← hW]
  clear hW
  refine (zzDollar w'.heap.size (w'.heap.size + 1) t _ ol ol ws lone W (by omega) ht hT (w'.heap.size + 1 + 1) kind part quoted k0 k4 k5 hr).mono ?_
  rintro e w3 ⟨n, a, k, c, ws', lone', rfl, hr', hb', o1, o2, o3, o4, o5, o6⟩
  have HB : Below w'.heap.size w' w3 := hb.trans hb'
  obtain ⟨r0, r1, r3, r8, _, _, _, _⟩ := hr'
  clear hr k0 k4 k5 hb hb' o6 r3
  by_cases hn : n = 1
  · obtain ⟨rfl, rfl⟩ := o4 hn
    have hn' : (n == 1) = true := beq_iff_eq.2 hn
    have HN : Hid (n = 1) := hn
    clear hn o4 o5
    go_wp2_with fail
    refine (outLen _ _ _ _ _ r0).mono ?_
    rintro e w4 ⟨rfl, rfl⟩
    go_wp2_with fail
    refine (framesOf _ _ _ _ _ r1).mono ?_
    rintro e w5 ⟨rfl, rfl⟩
    go_wp2_with fail
    refine (loneOf _ _ _ r8).mono ?_
    rintro e w6 ⟨rfl, rfl⟩
    go_wp2
    go_ret
    exact ⟨rfl, HB⟩
  · obtain ⟨rfl, _⟩ := o5 hn
    have hn' : (n == 1) = false := beq_eq_false_iff_ne.2 hn
    have HN : Hid (n ≠ 1) := hn
    clear hn o4 o5
    go_wp2_with fail
    refine (outLen _ _ _ _ _ r0).mono ?_
    rintro e w4 ⟨rfl, rfl⟩
    go_wp2_with fail
    refine (framesOf _ _ _ _ _ r1).mono ?_
    rintro e w5 ⟨rfl, rfl⟩
    go_wp2_with fail
    refine (loneOf _ _ _ r8).mono ?_
    rintro e w6 ⟨rfl, rfl⟩
    go_wp2
    go_ret
    exact ⟨rfl, HB⟩

set_option maxHeartbeats 1000000 in
set_option maxRecDepth 100000 in
theorem steps (t : ByteArray) (ol lone : Int) (ws : Bool) (kind : Int) (quoted : Bool) (part : Int) (w : World) :
    Calls Try.prog 9 #[.string t, .int .i64 ol, .int .i64 lone, .bool ws, .int .i64 kind, .bool quoted, .int .i64 part] w fun e w' => e = .returned (.bool true) ∧ Below w.heap.size w w' := by
  by_cases hT : t.size ≤ 1048576
  · by_cases h0 : ol < 0
    · go_enter Try.func9, Try.ntmps9
      go_wp2_with fail
      refine (zbSteps_yes t _ _ _ _ _ _ _ hT).mono ?_
      rintro e w' ⟨rfl, rfl⟩
      go_wp2
      go_ret
      exact ⟨rfl, Below.refl _ _⟩
    · by_cases h1 : 65536 < ol
      · go_enter Try.func9, Try.ntmps9
        go_wp2_with fail
        refine (zbSteps_yes t _ _ _ _ _ _ _ hT).mono ?_
        rintro e w' ⟨rfl, rfl⟩
        go_wp2
        go_ret
        exact ⟨rfl, Below.refl _ _⟩
      · by_cases h2 : t.size = 0
        · have e0 : ((t.size : Int) == 0) = true := beq_iff_eq.2 (by omega)
          clear h2
          go_enter Try.func9, Try.ntmps9
          go_wp2_with fail
          refine (zbSteps_yes t _ _ _ _ _ _ _ hT).mono ?_
          rintro e w' ⟨rfl, rfl⟩
          go_wp2
          go_ret
          exact ⟨rfl, Below.refl _ _⟩
        · have e0 : ((t.size : Int) == 0) = false := beq_eq_false_iff_ne.2 (by omega)
          have ht : 0 < t.size := by omega
          cases h3 : (((t[0]'(by omega)).toNat : Int) != 36)
          · obtain ⟨o, rfl⟩ := Int.eq_ofNat_of_zero_le (show 0 ≤ ol by omega)
            exact steps_main t o lone ws kind quoted part w hT (by omega) (by omega) h3
          · clear h2
            go_enter Try.func9, Try.ntmps9
            go_wp2_with fail
            refine (zbSteps_yes t _ _ _ _ _ _ _ hT).mono ?_
            rintro e w' ⟨rfl, rfl⟩
            go_wp2
            go_ret
            exact ⟨rfl, Below.refl _ _⟩
  · go_enter Try.func9, Try.ntmps9
    go_wp2_with fail
    refine (zbSteps_no t _ _ _ _ _ _ _ (by omega)).mono ?_
    rintro e w' ⟨rfl, rfl⟩
    go_wp2
    go_ret
    exact ⟨rfl, Below.refl _ _⟩

end Go.Proofs.Qxb6003564a
