/-
  THE WALKS OF bytes.Count (a separator of one byte), tree.lineAt AND tree.ZZlineAt: how many newlines stand before a place.
-/
import Derived.Test.Qxb6613825aRows
import Derived.WalkKit
import Derived.WalkSpells
import Derived.WalkLawsBesides
import Derived.Below
import Derived.Lib.SlBytesConst
import Derived.Shelf.Bytes.SlCountOne
namespace Go.Proofs.Qxb6613825a
open Go.RowKit
set_option linter.unusedVariables false

/-- How many newlines a list of bytes holds. -/
def nl (zs : List Int) : Nat := Lib.countByte (Lib.bytesOf zs) 10

set_option maxHeartbeats 400000 in
set_option maxRecDepth 100000 in
theorem count_at (a : Addr) (n c b2 o2 d : Nat) (xs : List Int) (w : World) (hx : xs.length = n) (hc : ∀ i, i < n → w.cell? (a.add i) = some (.int .u8 (xs.getD i 0))) (hc2 : w.cell? ⟨b2, o2, none⟩ = some (.int .u8 10)) :
    Calls Try.prog 9 #[.slice (some a) n c, .slice (some ⟨b2, o2, none⟩) 1 d] w fun e w' => e = .returned (.int .i64 (nl xs)) ∧ w' = w := by
  go_enter Try.func9, Try.ntmps9
  go_wp2
  rw [run_callFunc_extern Try.func11 (by kernel_rfl) (by kernel_rfl) (by kernel_rfl) (e := Extern.BytealgCount.count) (by kernel_rfl), Lib.run_countAt w a n c xs hx hc 10]
  simp only [Result.andThen]
  rw [Oper.upon_value]
  go_wp2
  go_ret
  exact ⟨rfl, rfl⟩

set_option maxHeartbeats 400000 in
set_option maxRecDepth 100000 in
theorem count_nil (n c b2 o2 d : Nat) (w : World) (hc2 : w.cell? ⟨b2, o2, none⟩ = some (.int .u8 10)) :
    Calls Try.prog 9 #[.slice none n c, .slice (some ⟨b2, o2, none⟩) 1 d] w fun e w' => e = .returned (.int .i64 0) ∧ w' = w := by
  go_enter Try.func9, Try.ntmps9
  go_wp2
  rw [run_callFunc_extern Try.func11 (by kernel_rfl) (by kernel_rfl) (by kernel_rfl) (e := Extern.BytealgCount.count) (by kernel_rfl), Lib.run_countNil w n c 10]
  simp only [Result.andThen]
  rw [Oper.upon_value]
  go_wp2
  go_ret
  exact ⟨rfl, rfl⟩

theorem nl_le (zs : List Int) : nl zs ≤ zs.length := by
  unfold nl Lib.countByte
  exact Nat.le_trans List.count_le_length (by rw [Lib.bytesOf_length]; exact Nat.le_refl _)

/-- tree.lineAt at a slice that is not nil, 'i' at most its length: one more than the newlines before 'i'. One new block (the separator) is laid. -/
theorem lineAt_at (a : Addr) (len cap i : Nat) (zs : List Int) (w : World) (hlen : len ≤ cap) (hcap : cap ≤ maxLen) (hL : len ≤ 1048576) (hi : i ≤ len) (hz : zs.length = len)
    (hc : ∀ j, j < len → w.cell? (a.add j) = some (.int .u8 (zs.getD j 0))) :
    Calls Try.prog 8 #[.slice (some a) len cap, .int .i64 i] w fun e w' => e = .returned (.int .i64 (1 + (nl (zs.take i) : Nat))) ∧ Below w.heap.size w w' := by
  unfold maxLen at hcap
  have kc := fun (w : World) (C : Array Value) (n c : Nat) => Lib.run_convert_bytes_const (P := Try.prog) w 22 5 C n c Try.underlying22 Try.underlying5
  have hn : nl (zs.take i) ≤ 1048576 := by
    have h1 := nl_le (zs.take i)
    have h2 : (zs.take i).length ≤ i := List.length_take_le _ _
    omega
  go_enter Try.func8, Try.ntmps8
  go_wp2_with fail
  refine (count_at a i cap w.heap.size 0 1 (zs.take i) _ (by simp; omega) ?_ ?_).mono ?_
  · intro j hj
    refine Lib.cell?_alloc_marked _ ?_
    rw [hc j (by omega)]
    simp [List.getD_eq_getElem?_getD, hj]
  · exact World.cell?_alloc_mark _ _ _ _ 0
  rintro e w' ⟨rfl, rfl⟩
  go_wp2
  go_ret
  exact ⟨rfl, (Below.refl _ _).alloc (Nat.le_refl _) _⟩

/-- tree.lineAt at nil. -/
theorem lineAt_nil (w : World) :
    Calls Try.prog 8 #[.slice none 0 0, .int .i64 0] w fun e w' => e = .returned (.int .i64 1) ∧ Below w.heap.size w w' := by
  have kc := fun (w : World) (C : Array Value) (n c : Nat) => Lib.run_convert_bytes_const (P := Try.prog) w 22 5 C n c Try.underlying22 Try.underlying5
  go_enter Try.func8, Try.ntmps8
  go_wp2_with fail
  refine (count_nil 0 0 w.heap.size 0 1 _ ?_).mono ?_
  · exact World.cell?_alloc_mark _ _ _ _ 0
  rintro e w' ⟨rfl, rfl⟩
  go_wp2
  go_ret
  exact ⟨rfl, (Below.refl _ _).alloc (Nat.le_refl _) _⟩

theorem zz_at (a : Addr) (len cap i : Nat) (zs : List Int) (w : World) (hlen : len ≤ cap) (hcap : cap ≤ maxLen) (hL : len ≤ 1048576) (hi : i ≤ len) (hz : zs.length = len)
    (hc : ∀ j, j < len → w.cell? (a.add j) = some (.int .u8 (zs.getD j 0))) :
    Calls Try.prog 6 #[.slice (some a) len cap, .int .i64 i] w fun e w' => e = .returned (.int .i64 (1 + (nl (zs.take i) : Nat))) ∧ Below w.heap.size w w' := by
  go_enter Try.func6, Try.ntmps6
  go_wp2_with fail
  refine (lineAt_at a len cap i zs _ hlen hcap hL hi hz hc).mono ?_
  rintro e w' ⟨rfl, hb⟩
  go_wp2
  go_ret
  exact ⟨rfl, hb⟩

theorem zz_nil (w : World) :
    Calls Try.prog 6 #[.slice none 0 0, .int .i64 0] w fun e w' => e = .returned (.int .i64 1) ∧ Below w.heap.size w w' := by
  go_enter Try.func6, Try.ntmps6
  go_wp2_with fail
  refine (lineAt_nil _).mono ?_
  rintro e w' ⟨rfl, hb⟩
  go_wp2
  go_ret
  exact ⟨rfl, hb⟩

end Go.Proofs.Qxb6613825a
