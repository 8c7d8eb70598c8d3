/-
  THE WALKS OF nameLen AND parameterLen: bounds alone; strings.IndexByte, strings.HasPrefix.
-/
import Derived.Test.Qxb6003564aRows
import Derived.WalkKit
import Derived.WalkSpells
import Derived.WalkLawsBesides
import Derived.Below
import Derived.Lib.Bytealg
import Derived.Lib.Walk
import Derived.Laws.Externs
namespace Go.Proofs.Qxb6003564a
open Go.RowKit
set_option linter.unusedVariables false

set_option maxHeartbeats 400000 in
theorem lite (s : ByteArray) (c : Int) (w : World) :
    Calls Try.prog 59 #[.string s, .int .u8 c] w fun e w' => e = .returned (.int .i64 (Lib.indexByte s.data.toList c.toNat.toUInt8)) ∧ w' = w := by
  go_enter Try.func59, Try.ntmps59
  go_wp2
  rw [run_callFunc_extern Try.func63 (by kernel_rfl) (by kernel_rfl) (by kernel_rfl) (e := Extern.BytealgIndexByte.indexByte) (by kernel_rfl), Lib.run_indexByteString]
  simp only [Result.andThen]
  rw [Oper.upon_value]
  go_wp2
  go_ret
  exact ⟨rfl, rfl⟩

theorem indexByte (s : ByteArray) (c : Int) (w : World) :
    Calls Try.prog 54 #[.string s, .int .u8 c] w fun e w' => e = .returned (.int .i64 (Lib.indexByte s.data.toList c.toNat.toUInt8)) ∧ w' = w := by
  go_enter Try.func54, Try.ntmps54
  go_wp2_with fail
  refine (lite _ _ _).mono ?_
  rintro e w' ⟨rfl, rfl⟩
  go_wp2
  go_ret
  exact ⟨rfl, rfl⟩

set_option maxHeartbeats 2000000 in
set_option maxRecDepth 100000 in
theorem nameLen (s : ByteArray) (w : World) (hs : s.size ≤ 1048576) :
    Calls Try.prog 53 #[.string s] w fun e w' => ∃ n : Nat, e = .returned (.int .i64 n) ∧ n ≤ s.size ∧ w' = w := by
  go_enter Try.func53, Try.ntmps53
  go_wp2
  go_loop [3] (fun i => ∃ k : Nat, k ≤ s.size ∧ i = .int .i64 k) (fun i => s.size - (intOf i).toNat)
  case atStart => exact ⟨0, Nat.zero_le _, rfl⟩
  case round =>
    obtain ⟨k, hk, rfl⟩ := hrel
    by_cases hlt : k < s.size
    · obtain ⟨c, hc⟩ : ∃ c, s[k]'hlt = c := ⟨_, rfl⟩
      go_wp2
      all_goals first
        | (go_ret; exact ⟨k, rfl, hk, rfl⟩)
        | (go_round
           case rel => exact ⟨k + 1, by omega, by go_num⟩
           case measure => simp [intOf]; omega)
    · go_wp2
      go_ret
      exact ⟨k, rfl, hk, rfl⟩

end Go.Proofs.Qxb6003564a
