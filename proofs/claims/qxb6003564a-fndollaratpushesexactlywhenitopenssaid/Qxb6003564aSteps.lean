/-
  THE MAKERS AND READERS OF THE LAWS, AND THE WALK OF FnDollarAtStepsWithin.
-/
import Derived.Test.Qxb6003564aDollar
import Derived.Deep.OwnRows
namespace Go.Proofs.Qxb6003564a
open Go.RowKit
set_option linter.unusedVariables false

theorem newReader (o : Value) (lone : Int) (ws : Bool) (oa : Option Addr) (ol oc : Nat) (ho : o = .slice oa ol oc) (w : World) :
    Calls Try.prog 30 #[o, .int .i64 lone, .bool ws] w fun e w' => e = .returned (.pointer (some ⟨w.heap.size, 0, none⟩)) ∧ w' = w.alloc (.cells #[.slice oa ol oc, .slice none 0 0, .slice none 0 0, .bool ws, .bool false, .slice none 0 0, .bool false, .bool false, .int .i64 lone, .bool false] 62) := by
  subst ho
  go_enter Try.func30, Try.ntmps30
  go_wp2
  go_ret
  exact ⟨rfl, rfl⟩

theorem newFrame (kind part : Int) (quoted : Bool) (w : World) :
    Calls Try.prog 32 #[.int .i64 kind, .bool quoted, .int .i64 part] w fun e w' => e = .returned (.pointer (some ⟨w.heap.size, 0, none⟩)) ∧ w' = w.alloc (.cells #[.int .i64 kind, .int .i64 0, .int .u8 0, .bool false, .bool quoted, .int .i64 part, .string ⟨#[]⟩, .bool false, .bool false] 69) := by
  go_enter Try.func32, Try.ntmps32
  go_wp2
  go_ret
  exact ⟨rfl, rfl⟩

theorem outLen (R : Nat) (oa : Option Addr) (ol oc : Nat) (w : World) (h : w.cell? ⟨R, 0, none⟩ = some (.slice oa ol oc)) :
    Calls Try.prog 33 #[.pointer (some ⟨R, 0, none⟩)] w fun e w' => e = .returned (.int .i64 ol) ∧ w' = w := by
  go_enter Try.func33, Try.ntmps33
  go_wp2
  go_ret
  exact ⟨rfl, rfl⟩

theorem framesOf (R : Nat) (a : Option Addr) (k c : Nat) (w : World) (h : w.cell? ⟨R, 1, none⟩ = some (.slice a k c)) :
    Calls Try.prog 34 #[.pointer (some ⟨R, 0, none⟩)] w fun e w' => e = .returned (.slice a k c) ∧ w' = w := by
  go_enter Try.func34, Try.ntmps34
  go_wp2
  go_ret
  exact ⟨rfl, rfl⟩

theorem loneOf (R : Nat) (n : Int) (w : World) (h : w.cell? ⟨R, 8, none⟩ = some (.int .i64 n)) :
    Calls Try.prog 35 #[.pointer (some ⟨R, 0, none⟩)] w fun e w' => e = .returned (.int .i64 n) ∧ w' = w := by
  go_enter Try.func35, Try.ntmps35
  go_wp2
  go_ret
  exact ⟨rfl, rfl⟩

theorem wordOf (R : Nat) (b : Bool) (w : World) (h : w.cell? ⟨R, 3, none⟩ = some (.bool b)) :
    Calls Try.prog 39 #[.pointer (some ⟨R, 0, none⟩)] w fun e w' => e = .returned (.bool b) ∧ w' = w := by
  go_enter Try.func39, Try.ntmps39
  go_wp2
  go_ret
  exact ⟨rfl, rfl⟩

theorem info5 : (Try.prog.info? 5).map (fun i => (i.zero, i.size, i.bytes)) = some (some (.int .u8 0), 1, 1) := by kernel_rfl

/-- The three blocks that the laws lay. -/
theorem laid3 (w : World) (M : Array Value) (oa : Option Addr) (ol oc : Nat) (ws quoted : Bool) (lone kind part : Int) :
    ∀ W, W = (((w.alloc (.cells M 5)).alloc (.cells #[.slice oa ol oc, .slice none 0 0, .slice none 0 0, .bool ws, .bool false, .slice none 0 0, .bool false, .bool false, .int .i64 lone, .bool false] 62)).alloc (.cells #[.int .i64 kind, .int .i64 0, .int .u8 0, .bool false, .bool quoted, .int .i64 part, .string ⟨#[]⟩, .bool false, .bool false] 69)) →
      Rd W (w.heap.size + 1) oa ol oc (.slice none 0 0) ws lone ∧ W.cell? ⟨w.heap.size + 2, 0, none⟩ = some (.int .i64 kind) ∧ W.cell? ⟨w.heap.size + 2, 4, none⟩ = some (.bool quoted) ∧ W.cell? ⟨w.heap.size + 2, 5, none⟩ = some (.int .i64 part) ∧ Below w.heap.size w W := by
  rintro W rfl
  have hR : ((((w.alloc (.cells M 5)).alloc (.cells #[.slice oa ol oc, .slice none 0 0, .slice none 0 0, .bool ws, .bool false, .slice none 0 0, .bool false, .bool false, .int .i64 lone, .bool false] 62)).alloc (.cells #[.int .i64 kind, .int .i64 0, .int .u8 0, .bool false, .bool quoted, .int .i64 part, .string ⟨#[]⟩, .bool false, .bool false] 69))).heap[w.heap.size + 1]? = some (.cells #[.slice oa ol oc, .slice none 0 0, .slice none 0 0, .bool ws, .bool false, .slice none 0 0, .bool false, .bool false, .int .i64 lone, .bool false] 62) := by
    show (((w.heap.push _).push _).push _)[w.heap.size + 1]? = _
    rw [Array.getElem?_push, if_neg (by simp), Array.getElem?_push, if_pos (by simp)]
  have hF : ((((w.alloc (.cells M 5)).alloc (.cells #[.slice oa ol oc, .slice none 0 0, .slice none 0 0, .bool ws, .bool false, .slice none 0 0, .bool false, .bool false, .int .i64 lone, .bool false] 62)).alloc (.cells #[.int .i64 kind, .int .i64 0, .int .u8 0, .bool false, .bool quoted, .int .i64 part, .string ⟨#[]⟩, .bool false, .bool false] 69))).heap[w.heap.size + 2]? = some (.cells #[.int .i64 kind, .int .i64 0, .int .u8 0, .bool false, .bool quoted, .int .i64 part, .string ⟨#[]⟩, .bool false, .bool false] 69) := by
    show (((w.heap.push _).push _).push _)[w.heap.size + 2]? = _
    rw [Array.getElem?_push, if_pos (by simp)]
  have hb : Below w.heap.size w (((w.alloc (.cells M 5)).alloc (.cells #[.slice oa ol oc, .slice none 0 0, .slice none 0 0, .bool ws, .bool false, .slice none 0 0, .bool false, .bool false, .int .i64 lone, .bool false] 62)).alloc (.cells #[.int .i64 kind, .int .i64 0, .int .u8 0, .bool false, .bool quoted, .int .i64 part, .string ⟨#[]⟩, .bool false, .bool false] 69)) :=
    (((Below.refl _ _).alloc (Nat.le_refl _) _).alloc (by simp) _).alloc (by simp; omega) _
  have hlt : w.heap.size + 1 < (((w.alloc (.cells M 5)).alloc (.cells #[.slice oa ol oc, .slice none 0 0, .slice none 0 0, .bool ws, .bool false, .slice none 0 0, .bool false, .bool false, .int .i64 lone, .bool false] 62)).alloc (.cells #[.int .i64 kind, .int .i64 0, .int .u8 0, .bool false, .bool quoted, .int .i64 part, .string ⟨#[]⟩, .bool false, .bool false] 69)).heap.size := by simp
  generalize (((w.alloc (.cells M 5)).alloc (.cells #[.slice oa ol oc, .slice none 0 0, .slice none 0 0, .bool ws, .bool false, .slice none 0 0, .bool false, .bool false, .int .i64 lone, .bool false] 62)).alloc (.cells #[.int .i64 kind, .int .i64 0, .int .u8 0, .bool false, .bool quoted, .int .i64 part, .string ⟨#[]⟩, .bool false, .bool false] 69)) = W at *
  refine ⟨⟨?_, ?_, ?_, ?_, ?_, ?_, ?_, hlt⟩, ?_, ?_, ?_, hb⟩
  · unfold World.cell?; rw [hR]; rfl
  · unfold World.cell?; rw [hR]; rfl
  · unfold World.cell?; rw [hR]; rfl
  · unfold World.cell?; rw [hR]; rfl
  · unfold World.frozen?; rw [hR]; rfl
  · unfold World.frozen?; rw [hR]; rfl
  · unfold World.frozen?; rw [hR]; rfl
  · unfold World.cell?; rw [hF]; rfl
  · unfold World.cell?; rw [hF]; rfl
  · unfold World.cell?; rw [hF]; rfl

theorem zbSteps_yes (t : ByteArray) (a b : Int) (c : Bool) (d : Int) (f : Bool) (g : Int) (w : World) (h : t.size ≤ 1048576) :
    Calls Try.prog 29 #[.string t, .int .i64 a, .int .i64 b, .bool c, .int .i64 d, .bool f, .int .i64 g] w fun e w' => e = .returned (.bool true) ∧ w' = w := by
  go_enter Try.func29, Try.ntmps29
  go_wp2
  go_ret
  exact ⟨rfl, rfl⟩
theorem zbSteps_no (t : ByteArray) (a b : Int) (c : Bool) (d : Int) (f : Bool) (g : Int) (w : World) (h : 1048576 < t.size) :
    Calls Try.prog 29 #[.string t, .int .i64 a, .int .i64 b, .bool c, .int .i64 d, .bool f, .int .i64 g] w fun e w' => e = .returned (.bool false) ∧ w' = w := by
  go_enter Try.func29, Try.ntmps29
  go_wp2
  go_ret
  exact ⟨rfl, rfl⟩

end Go.Proofs.Qxb6003564a
