/-
  THE WALKS OF strings.IndexByte, utf8.ValidRune, strings.IndexRune AND strings.ContainsRune AT THE STRING "-._~", OF notUnreserved AND ZZnotUnreserved.
-/
import Derived.Test.Qxb6001210aRows
import Derived.WalkKit
import Derived.WalkSpells
import Derived.WalkLawsBesides
import Derived.Below
import Derived.Lib.Bytealg
import Derived.Lib.Walk
import Derived.Laws.Externs
import Derived.Laws.Runes
import Derived.Lib.IndexLaws
import Derived.BigQuiet
import Derived.Deep.QuietTactic
import Derived.Laws.RangeString
import Derived.Deep.LoopGhost
import Derived.Lib.IndexBytes
namespace Go.Proofs.Qxb6001210a
open Go.RowKit
set_option linter.unusedVariables false

set_option maxHeartbeats 400000 in
theorem lite (s : ByteArray) (c : Int) (w : World) :
    Calls Try.prog 15 #[.string s, .int .u8 c] w fun e w' => e = .returned (.int .i64 (Lib.indexByte s.data.toList c.toNat.toUInt8)) ∧ w' = w := by
  go_enter Try.func15, Try.ntmps15
  go_wp2
  rw [run_callFunc_extern Try.func16 (by kernel_rfl) (by kernel_rfl) (by kernel_rfl) (e := Extern.BytealgIndexByte.indexByte) (by kernel_rfl), Lib.run_indexByteString]
  simp only [Result.andThen]
  rw [Oper.upon_value]
  go_wp2
  go_ret
  exact ⟨rfl, rfl⟩

theorem indexByte (s : ByteArray) (c : Int) (w : World) :
    Calls Try.prog 11 #[.string s, .int .u8 c] w fun e w' => e = .returned (.int .i64 (Lib.indexByte s.data.toList c.toNat.toUInt8)) ∧ w' = w := by
  go_enter Try.func11, Try.ntmps11
  go_wp2_with fail
  refine (lite _ _ _).mono ?_
  rintro e w' ⟨rfl, rfl⟩
  go_wp2
  go_ret
  exact ⟨rfl, rfl⟩

theorem valid_yes (r : Int) (w : World) (h : (0 ≤ r ∧ r < 55296) ∨ (57343 < r ∧ r ≤ 1114111)) :
    Calls Try.prog 12 #[.int .i32 r] w fun e w' => e = .returned (.bool true) ∧ w' = w := by
  rcases h with ⟨h1, h2⟩ | ⟨h1, h2⟩
  all_goals
    go_enter Try.func12, Try.ntmps12
    go_wp2
    go_ret
    exact ⟨rfl, rfl⟩
theorem valid_no (r : Int) (w : World) (h : r < 0 ∨ (55296 ≤ r ∧ r ≤ 57343) ∨ 1114111 < r) :
    Calls Try.prog 12 #[.int .i32 r] w fun e w' => e = .returned (.bool false) ∧ w' = w := by
  rcases h with h1 | ⟨h1, h2⟩ | h1
  all_goals
    go_enter Try.func12, Try.ntmps12
    go_wp2
    go_ret
    exact ⟨rfl, rfl⟩

set_option maxHeartbeats 1000000 in
set_option maxRecDepth 1000000 in
/-- strings.IndexRune at an ASCII rune. -/
theorem indexRune_ascii (s : ByteArray) (r : Int) (w : World) (h0 : 0 ≤ r) (h1 : r < 128) :
    Calls Try.prog 10 #[.string s, .int .i32 r] w fun e w' => e = .returned (.int .i64 (Lib.indexByte s.data.toList r.toNat.toUInt8)) ∧ w' = w := by
  go_enter Try.func10, Try.ntmps10
  go_wp2_with fail
  refine (indexByte _ _ _).mono ?_
  rintro e w' ⟨rfl, rfl⟩
  go_wp2
  go_ret
  exact ⟨rfl, rfl⟩

set_option maxHeartbeats 1000000 in
set_option maxRecDepth 1000000 in
/-- .. at what is no rune. -/
theorem indexRune_invalid (s : ByteArray) (r : Int) (w : World) (h : r < 0 ∨ (55296 ≤ r ∧ r ≤ 57343) ∨ 1114111 < r) :
    Calls Try.prog 10 #[.string s, .int .i32 r] w fun e w' => e = .returned (.int .i64 (-1)) ∧ w' = w := by
  have h2 : (r == 65533) = false := beq_eq_false_iff_ne.2 (by omega)
  rcases h with h1 | ⟨h1, h3⟩ | h1
  all_goals
    go_enter Try.func10, Try.ntmps10
    go_wp2_with fail
    refine (valid_no _ _ (by omega)).mono ?_
    rintro e w' ⟨rfl, rfl⟩
    go_wp2
    go_ret
    exact ⟨rfl, rfl⟩

set_option maxHeartbeats 1000000 in
set_option maxRecDepth 1000000 in
/-- .. at U+FFFD in an ASCII string: the string is ranged over. -/
theorem indexRune_error (s : ByteArray) (w : World) (hascii : ∀ (j : Nat) b, s.data.toList[j]? = some b → b.toNat < 128) :
    Calls Try.prog 10 #[.string s, .int .i32 65533] w fun e w' => e = .returned (.int .i64 (-1)) ∧ Below w.heap.size w w' := by
  have HA : Hid (∀ (j : Nat) b, s.data.toList[j]? = some b → b.toNat < 128) := hascii
  clear hascii
  go_enter Try.func10, Try.ntmps10
  go_wp2_with fail
  go_loopg [5, 6] s.size (fun g _ _ wx => ∃ i : Nat, i + g = s.size ∧ wx = w.iter s i)
  case atStart => exact ⟨0, by omega, rfl⟩
  case round =>
    obtain ⟨i, hig, rfl⟩ := hrel
    cases gk with
    | zero =>
      obtain rfl : i = s.size := by omega
      have hnx := run_next_end (P := Try.prog) w s s.size
      go_wp2
      go_ret
      exact ⟨rfl, (Below.refl _ _).alloc (Nat.le_refl _) _⟩
    | succ g =>
      have hi : i < s.size := by omega
      obtain ⟨x, hx⟩ : ∃ x : UInt8, s[i]'hi = x := ⟨_, rfl⟩
      have hxl : s.data.toList[i]? = some x := by rw [← hx]; exact Lib.data_getElem? s i hi
      have hx128 : x.toNat < 128 := HA.out i x hxl
      have hnx := fun ty => run_next_ascii (P := Try.prog) w s i ty hi (by rw [hx]; exact hx128)
      rw [hx] at hnx
      have hne : ((x.toNat : Int) == 65533) = false := beq_eq_false_iff_ne.2 (by omega)
      clear hxl hx
      go_wp2
      go_roundg g
      case measure => omega
      case rel => exact ⟨i + 1, by omega, rfl⟩

end Go.Proofs.Qxb6001210a
