/-
  THE WALKS OF readsQuotes, readsCommands, strings.HasPrefix(t, "$((") AND push.
-/
import Derived.Test.Qxb6003564aPar
import Derived.Deep.RegionHeld3
import Derived.Deep.RegionLaw
import Derived.Deep.RegionLawGrows
import Derived.Deep.AppendLies
namespace Go.Proofs.Qxb6003564a
open Go.RowKit
set_option linter.unusedVariables false

theorem readsQuotes (p : Int) (w : World) :
    Calls Try.prog 61 #[.int .i64 p] w fun e w' => ∃ b : Bool, e = .returned (.bool b) ∧ w' = w := by
  go_enter Try.func61, Try.ntmps61
  go_wp2
  all_goals (go_ret; exact ⟨_, rfl, rfl⟩)

set_option maxHeartbeats 1000000 in
set_option maxRecDepth 100000 in
theorem readsCommands (f : Nat) (kind part : Int) (quoted : Bool) (w : World) (h0 : w.cell? ⟨f, 0, none⟩ = some (.int .i64 kind)) (h4 : w.cell? ⟨f, 4, none⟩ = some (.bool quoted)) (h5 : w.cell? ⟨f, 5, none⟩ = some (.int .i64 part)) :
    Calls Try.prog 57 #[.pointer (some ⟨f, 0, none⟩)] w fun e w' => ∃ b : Bool, e = .returned (.bool b) ∧ w' = w := by
  go_enter Try.func57, Try.ntmps57
  go_wp2_with (go_at_call 61; refine (readsQuotes _ _).mono ?_; rintro e w' ⟨b, rfl, rfl⟩)
  all_goals (go_ret; exact ⟨_, rfl, rfl⟩)

theorem hasPrefix_short (t : ByteArray) (w : World) (h : t.size < 3) :
    Calls Try.prog 60 #[.string t, .string ⟨#[36, 40, 40]⟩] w fun e w' => e = .returned (.bool false) ∧ w' = w := by
  go_enter Try.func60, Try.ntmps60
  go_wp2
  go_ret
  exact ⟨rfl, rfl⟩

theorem hasPrefix3 (t : ByteArray) (w : World) (ht : t.size ≤ 1048576) :
    Calls Try.prog 60 #[.string t, .string ⟨#[36, 40, 40]⟩] w fun e w' => ∃ b : Bool, e = .returned (.bool b) ∧ Hid (b = true → 3 ≤ t.size) ∧ w' = w := by
  by_cases h : 3 ≤ t.size
  · go_enter Try.func60, Try.ntmps60
    go_wp2
    all_goals (go_ret; exact ⟨_, rfl, fun _ => h, rfl⟩)
  · refine (hasPrefix_short t w (by omega)).mono ?_
    rintro e w' ⟨rfl, rfl⟩
    exact ⟨false, rfl, (fun h => by cases h), rfl⟩

theorem hasPrefix (t : ByteArray) (w : World) (ht : t.size ≤ 1048576) :
    Calls Try.prog 55 #[.string t, .string ⟨#[36, 40, 40]⟩] w fun e w' => ∃ b : Bool, e = .returned (.bool b) ∧ Hid (b = true → 3 ≤ t.size) ∧ w' = w := by
  have H := hasPrefix3 t w ht
  go_enter Try.func55, Try.ntmps55
  go_wp2_with fail
  refine H.mono ?_
  rintro e w' ⟨b, rfl, hb, rfl⟩
  clear H
  go_wp2
  go_ret
  exact ⟨b, rfl, hb, rfl⟩

def zeroFrame : Value := .agg #[.int .i64 0, .int .i64 0, .int .u8 0, .bool false, .bool false, .int .i64 0, .string ⟨#[]⟩, .bool false, .bool false]
theorem info69 : (Try.prog.info? 69).map (fun i => (i.zero, i.size, i.bytes)) = some (some zeroFrame, 9, 56) := by kernel_rfl

theorem twoNew (w : World) (o1 o2 : Obj) : ((w.alloc o1).alloc o2).drew.heap[w.heap.size + 1]? = some o2 := by
  show ((w.heap.push o1).push o2)[w.heap.size + 1]? = _
  rw [Array.getElem?_push, if_pos (by simp)]
theorem twoLe (w : World) (o1 o2 : Obj) : w.heap.size ≤ ((w.alloc o1).alloc o2).drew.heap.size := by
  show _ ≤ ((w.heap.push o1).push o2).size
  simp
  omega
theorem twoGrown {w w1 : World} {o1 o2 : Obj} {r : Option Nat} (h : ((w.alloc o1).alloc o2).drew.grownBy w1 r) (hr : r = none) : w.grownBy w1 none := by
  refine ⟨h.os, h.tape, h.output, Nat.le_trans (twoLe w o1 o2) h.size, fun k hk _ => ?_⟩
  rw [h.block k (Nat.lt_of_lt_of_le hk (twoLe w o1 o2)) (by rw [hr]; simp)]
  show ((w.heap.push o1).push o2)[k]? = _
  rw [Array.getElem?_push, if_neg (by simp; omega), Array.getElem?_push, if_neg (by omega)]

theorem frame_one (k d : Int) (cl : Int) (cm q : Bool) (pt : Int) (dl : ByteArray) (st dq : Bool) :
    ∀ u ∈ [Value.int .i64 k, .int .i64 d, .int .u8 cl, .bool cm, .bool q, .int .i64 pt, .string dl, .bool st, .bool dq], u.oneCell' = true := by
  intro u hu
  simp at hu
  rcases hu with rfl | rfl | rfl | rfl | rfl | rfl | rfl | rfl | rfl <;> rfl

set_option maxHeartbeats 1000000 in
set_option maxRecDepth 100000 in
theorem push (R : Nat) (k d : Int) (cl : Int) (cm q : Bool) (pt : Int) (dl : ByteArray) (st dq : Bool) (w : World) (h1 : w.cell? ⟨R, 1, none⟩ = some (.slice none 0 0)) (f1 : w.frozen? ⟨R, 1, none⟩ = false) (hR : R < w.heap.size) :
    Calls Try.prog 56 #[.pointer (some ⟨R, 0, none⟩), .agg #[.int .i64 k, .int .i64 d, .int .u8 cl, .bool cm, .bool q, .int .i64 pt, .string dl, .bool st, .bool dq]] w fun e w' =>
      e = .returned (.tuple #[]) ∧ ∃ g cap w1, w.grownBy w1 none ∧ w' = w1.setCell ⟨R, 1, none⟩ (.slice (some ⟨g, 0, none⟩) 1 cap) := by
  obtain ⟨i0, hi, hz0, hz1, hz2⟩ := info_parts info69
  go_enter Try.func56, Try.ntmps56
  go_wp2_with fail
  go_region_law (refine step_append_lies _ (by rfl) _ _ _ (by rfl) w.heap.size 69 i0 zeroFrame 9 56 Try.underlying46 hi hz0 hz1 hz2 (by rfl) (by decide) (.slice none 0 0) 0 [] (by rfl) (World.ownsRow_nil _ _ _ _) ⟨w.heap.size + 1, 0, none⟩ 1 1 [.int .i64 k, .int .i64 d, .int .u8 cl, .bool cm, .bool q, .int .i64 pt, .string dl, .bool st, .bool dq] (by rfl) (by rfl) (World.news_of_block (twoNew w _ _)) (frame_one k d cl cm q pt dl st dq) (by decide) (by decide) (by decide) (twoLe w _ _) _ (by rfl) ?_; intro g cap w1 hown hgrow hat hlt; have HG : Hid (w.grownBy w1 none) := twoGrown hgrow rfl; have c1 : w1.cell? ⟨R, 1, none⟩ = some (.slice none 0 0) := (HG.out.cell_far ⟨R, 1, none⟩ hR (by simp)).trans h1; have c2 : w1.frozen? ⟨R, 1, none⟩ = false := (HG.out.frozen_far ⟨R, 1, none⟩ hR (by simp)).trans f1; clear hown hgrow hat hlt)
  all_goals
    go_wp2
    go_end0
    exact ⟨rfl, g, cap, w1, HG.out, rfl⟩

end Go.Proofs.Qxb6003564a
