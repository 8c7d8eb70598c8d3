/-
  THE SMALL LAWS OF THE WALK: a byte slice that the call itself builds by append.
-/
import Derived.Test.Qxb6600096aText
import Derived.Test.Qxb6600096aRows
import Derived.WalkKit
import Derived.WalkSpells
import Derived.WalkLawsBesides
import Derived.Below
import Derived.Lib.AppendStr
import Derived.Lib.Bytealg
import Derived.Lib.Walk
import Derived.Laws.Externs
namespace Go.Proofs.Qxb6600096a
open Go.RowKit Plain
set_option linter.unusedVariables false

theorem info5 : (Try.prog.info? 5).map (fun i => (i.zero, i.size, i.bytes)) = some (some (.int .u8 0), 1, 1) := by kernel_rfl

/-- THE VALUE v, a byte slice, OWNS THE NUMBERS T (in a row of the call's own, from block B on; or it is nil and T is empty). -/
def Owns (w : World) (B : Nat) (v : Value) (T : List Int) : Prop := w.ownsRow B 5 1 v T.length (T.map (Value.int .u8))

theorem Owns.nil (w : World) (B : Nat) : Owns w B (.slice none 0 0) [] := World.ownsRow_nil w B 5 1
theorem Owns.alloc {w : World} {B : Nat} {v : Value} {T : List Int} (h : Owns w B v T) (o : Obj) : Owns (w.alloc o) B v T := World.ownsRow.alloc h o
/-- Its row is another block than one of another element type. -/
theorem Owns.ne {w : World} {B : Nat} {v : Value} {T : List Int} {A : Nat} {cs : Array Value} {t : TypeId} {fr : Nat × Nat} (h : Owns w B v T) (ht : t ≠ 5) (hA : w.heap[A]? = some (.cells cs t fr)) : some A ≠ v.ownBlock := by
  rcases h.2 with ⟨rfl, _⟩ | ⟨g, cap, cur, rfl, _, hg, _⟩
  · simp [Value.ownBlock]
  · intro e
    simp only [Value.ownBlock, Option.some.injEq] at e
    subst e
    rw [hA] at hg
    injection hg with hg
    injection hg with _ h2 _
    exact ht h2
theorem Owns.below {w w' w0 : World} {B : Nat} {v : Value} {T : List Int} (h : Owns w B v T) (hb : Below B w0 w) (hB : B ≤ w.heap.size) (hg : w.grownBy w' v.ownBlock) : Below B w0 w' := by
  refine hb.grown hg hB fun k hk => ?_
  rcases h.2 with ⟨rfl, _⟩ | ⟨g, cap, cur, rfl, hBg, _⟩
  · simp [Value.ownBlock] at hk
  · simp only [Value.ownBlock, Option.some.injEq] at hk
    omega
theorem Owns.kept {w w' : World} {B : Nat} {v : Value} {T : List Int} {A : Nat} {cs : Array Value} {t : TypeId} {fr : Nat × Nat} (h : Owns w B v T) (ht : t ≠ 5) (hA : w.heap[A]? = some (.cells cs t fr)) (hg : w.grownBy w' v.ownBlock) : w'.heap[A]? = some (.cells cs t fr) := by
  have hlt : A < w.heap.size := by
    rcases Nat.lt_or_ge A w.heap.size with h' | h'
    · exact h'
    · rw [Array.getElem?_eq_none h'] at hA; cases hA
  rw [hg.block A hlt (h.ne ht hA)]
  exact hA

section
variable {w : World}
/-- One byte is appended. -/
theorem app_byte {ops : Array Oper} {rest : List Oper} {o : Oper} {a : Act} {Q : Exit → Act → World → Prop} (hgd : o.guard = none) (s x : Operand)
    (ho : o.op = .call { callee := .builtin .append, args := #[s, x], argTypes := #[33, 33] })
    (B : Nat) (v : Value) (T : List Int) (hs : a.eval s = v) (hown : Owns w B v T) (g : Nat) (hx : a.eval x = .slice (some ⟨g, 0, none⟩) 1 1) (c : Int) (hc : w.cell? ⟨g, 0, none⟩ = some (.int .u8 c))
    (hl : T.length ≤ 70368744177664) (hB : B ≤ w.heap.size)
    (h : ∀ v' w', Owns w' B v' (T ++ [c]) → w.grownBy w' v.ownBlock → wpList Try.prog ops Q rest (a.put o.dst v') w') : wpList Try.prog ops Q (o :: rest) a w := by
  obtain ⟨i0, hi, hz0, hz1, hz2⟩ := info_parts info5
  refine wpList_append_own w hgd s x 33 ho B 5 i0 (.int .u8 0) 1 1 Try.underlying33 hi hz0 hz1 hz2 rfl (by decide) v T.length (T.map (Value.int .u8)) hs hown ⟨g, 0, none⟩ 1 1 [.int .u8 c] hx rfl ?_ ?_ (by unfold maxLen; omega) (by omega) hB ?_
  · intro j u hj
    match j, hj with
    | 0, hj => simp at hj; subst hj; exact hc
  · intro u hu; simp at hu; subst hu; rfl
  · intro v' w' h1 h2 _
    refine h v' w' ?_ h2
    unfold Owns
    simpa using h1

/-- A string's bytes are appended. -/
theorem app_str {ops : Array Oper} {rest : List Oper} {o : Oper} {a : Act} {Q : Exit → Act → World → Prop} (hgd : o.guard = none) (s x : Operand)
    (ho : o.op = .call { callee := .builtin .append, args := #[s, x], argTypes := #[33, 9] })
    (B : Nat) (v : Value) (T : List Int) (hs : a.eval s = v) (hown : Owns w B v T) (f : ByteArray) (hx : a.eval x = .string f)
    (hl : T.length ≤ 70368744177664) (hf : f.size ≤ 1048576) (hB : B ≤ w.heap.size)
    (h : ∀ v' w', Owns w' B v' (T ++ nums f) → w.grownBy w' v.ownBlock → wpList Try.prog ops Q rest (a.put o.dst v') w') : wpList Try.prog ops Q (o :: rest) a w := by
  obtain ⟨i0, hi, hz0, hz1, hz2⟩ := info_parts info5
  refine Lib.wpList_append_own_string w hgd s x 33 9 ho B 5 i0 Try.underlying33 Try.underlying9 hi hz0 hz1 hz2 v T.length (T.map (Value.int .u8)) hs hown f hx (by unfold maxLen; omega) (by omega) hB ?_
  intro v' w' h1 h2 _
  refine h v' w' ?_ h2
  unfold Owns
  rw [List.length_append, nums_length, List.map_append]
  have e : (nums f).map (Value.int .u8) = Lib.strCells f := by
    simp [nums, Lib.strCells]
  rw [e]
  exact h1
end

set_option maxHeartbeats 400000 in
theorem lite (s : ByteArray) (c : Int) (w : World) :
    Calls Try.prog 45 #[.string s, .int .u8 c] w fun e w' => e = .returned (.int .i64 (Lib.indexByte s.data.toList c.toNat.toUInt8)) ∧ w' = w := by
  go_enter Try.func45, Try.ntmps45
  go_wp2
  rw [run_callFunc_extern Try.func48 (by kernel_rfl) (by kernel_rfl) (by kernel_rfl) (e := Extern.BytealgIndexByte.indexByte) (by kernel_rfl), Lib.run_indexByteString]
  simp only [Result.andThen]
  rw [Oper.upon_value]
  go_wp2
  go_ret
  exact ⟨rfl, rfl⟩

theorem indexByte (s : ByteArray) (c : Int) (w : World) :
    Calls Try.prog 40 #[.string s, .int .u8 c] w fun e w' => e = .returned (.int .i64 (Lib.indexByte s.data.toList c.toNat.toUInt8)) ∧ w' = w := by
  go_enter Try.func40, Try.ntmps40
  go_wp2_with fail
  refine (lite _ _ _).mono ?_
  rintro e w' ⟨rfl, rfl⟩
  go_wp2
  go_ret
  exact ⟨rfl, rfl⟩

theorem three_index : ∀ n : Fin 256, decide (0 ≤ Lib.indexByte [92, 124, 38] n.val.toUInt8) = decide ((n.val : Int) = 92 ∨ (n.val : Int) = 124 ∨ (n.val : Int) = 38) := by decide +kernel

/-- Is the byte one of the three that are escaped? -/
theorem escaped (c : UInt8) (w : World) :
    Calls Try.prog 40 #[.string ⟨#[92, 124, 38]⟩, .int .u8 c.toNat] w fun e w' => ∃ z : Int, e = .returned (.int .i64 z) ∧ Hid (0 ≤ z ↔ ((c.toNat : Int) = 92 ∨ (c.toNat : Int) = 124 ∨ (c.toNat : Int) = 38)) ∧ w' = w := by
  refine (indexByte _ _ _).mono ?_
  rintro e w' ⟨rfl, rfl⟩
  refine ⟨_, rfl, ?_, rfl⟩
  have h := three_index ⟨c.toNat, c.toNat_lt⟩
  exact decide_eq_decide.1 h

end Go.Proofs.Qxb6600096a
