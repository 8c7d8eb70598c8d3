/-
  THE WALK OF parameterLen: bounds alone.
-/
import Derived.Test.Qxb6003564aLen
namespace Go.Proofs.Qxb6003564a
open Go.RowKit
set_option linter.unusedVariables false

theorem indexByte_any (s : ByteArray) (c : Int) (w : World) :
    Calls Try.prog 54 #[.string s, .int .u8 c] w fun e w' => ∃ z : Int, e = .returned (.int .i64 z) ∧ w' = w := by
  refine (indexByte s c w).mono ?_
  rintro e w' ⟨rfl, rfl⟩
  exact ⟨_, rfl, rfl⟩

set_option maxHeartbeats 2000000 in
set_option maxRecDepth 100000 in
theorem parameterLen (s : ByteArray) (w : World) (hs : s.size ≤ 1048576) :
    Calls Try.prog 46 #[.string s] w fun e w' => ∃ n : Int, e = .returned (.int .i64 n) ∧ 0 ≤ n ∧ n ≤ s.size ∧ w' = w := by
  go_enter Try.func46, Try.ntmps46
  go_wp2_with fail
  all_goals
    refine (nameLen _ _ (by first | exact hs | (simp; omega))).mono ?_
    rintro e w' ⟨nm, rfl, hnm, rfl⟩
    try simp only [ByteArray.size_extract, Nat.min_self] at hnm
    go_wp2_with fail
  all_goals try (go_ret; exact ⟨_, rfl, by omega, by omega, rfl⟩)
  all_goals
    go_loop [5] (fun i => ∃ k : Nat, k ≤ s.size ∧ i = .int .i64 k) (fun i => s.size - (intOf i).toNat)
    case atStart => first | exact ⟨0, Nat.zero_le _, rfl⟩ | exact ⟨1, by omega, rfl⟩
  all_goals
    obtain ⟨k, hk, rfl⟩ := hrel
    by_cases hlt : k < s.size
    · obtain ⟨c, hc⟩ : ∃ c, s[k]'hlt = c := ⟨_, rfl⟩
      clear hnm
      go_wp2_with fail
      all_goals first
        | (go_ret; exact ⟨_, rfl, by omega, by omega, rfl⟩)
        | (refine (indexByte_any _ _ _).mono ?_
           rintro e w2 ⟨z, rfl, rfl⟩
           go_wp2
           all_goals (go_ret; exact ⟨_, rfl, by omega, by omega, rfl⟩))
        | exact ⟨⟨k + 1, by omega, by omega⟩, by simp [intOf]; omega⟩
    · go_wp2_with fail
      all_goals first
        | (go_ret; exact ⟨_, rfl, by omega, by omega, rfl⟩)
        | (refine (indexByte_any _ _ _).mono ?_
           rintro e w2 ⟨z, rfl, rfl⟩
           go_wp2
           all_goals (go_ret; exact ⟨_, rfl, by omega, by omega, rfl⟩))

end Go.Proofs.Qxb6003564a
