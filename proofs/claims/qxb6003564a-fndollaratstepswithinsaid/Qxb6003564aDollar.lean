/-
  THE WALK OF dollarAt: what it returns, and what the reader holds behind it.
-/
import Derived.Test.Qxb6003564aFrame
import Derived.Lib.IndexBytes
namespace Go.Proofs.Qxb6003564a
open Go.RowKit
set_option linter.unusedVariables false

/-- WHAT IS KNOWN OF THE READER, at block R: four of its ten cells; three of them may be written. -/
structure Rd (w : World) (R : Nat) (oa : Option Addr) (ol oc : Nat) (fv : Value) (ws : Bool) (lone : Int) : Prop where
  c0 : w.cell? ⟨R, 0, none⟩ = some (.slice oa ol oc)
  c1 : w.cell? ⟨R, 1, none⟩ = some fv
  c3 : w.cell? ⟨R, 3, none⟩ = some (.bool ws)
  c8 : w.cell? ⟨R, 8, none⟩ = some (.int .i64 lone)
  f1 : w.frozen? ⟨R, 1, none⟩ = false
  f3 : w.frozen? ⟨R, 3, none⟩ = false
  f8 : w.frozen? ⟨R, 8, none⟩ = false
  lt : R < w.heap.size

theorem Rd.grown {w w1 : World} {R : Nat} {oa : Option Addr} {ol oc : Nat} {fv : Value} {ws : Bool} {lone : Int} (h : Rd w R oa ol oc fv ws lone) (hg : w.grownBy w1 none) : Rd w1 R oa ol oc fv ws lone :=
  ⟨(hg.cell_far _ h.lt (by simp)).trans h.c0, (hg.cell_far _ h.lt (by simp)).trans h.c1, (hg.cell_far _ h.lt (by simp)).trans h.c3, (hg.cell_far _ h.lt (by simp)).trans h.c8,
    (hg.frozen_far _ h.lt (by simp)).trans h.f1, (hg.frozen_far _ h.lt (by simp)).trans h.f3, (hg.frozen_far _ h.lt (by simp)).trans h.f8, Nat.lt_of_lt_of_le h.lt hg.size⟩

theorem cell_set {w : World} {R i j : Nat} {u v : Value} (hij : i ≠ j) (h : w.cell? ⟨R, j, none⟩ = some v) : (w.setCell ⟨R, i, none⟩ u).cell? ⟨R, j, none⟩ = some v := by
  rw [World.cell?_setCell_other _ _ _ _ (fun e => hij (by injection e))]
  exact h

theorem Rd.set1 {w : World} {R : Nat} {oa : Option Addr} {ol oc : Nat} {fv : Value} {ws : Bool} {lone : Int} (h : Rd w R oa ol oc fv ws lone) (v : Value) : Rd (w.setCell ⟨R, 1, none⟩ v) R oa ol oc v ws lone :=
  ⟨cell_set (by decide) h.c0, World.cell?_setCell_same _ _ _ h.c1, cell_set (by decide) h.c3, cell_set (by decide) h.c8, by simpa using h.f1, by simpa using h.f3, by simpa using h.f8, by simpa [World.setCell] using h.lt⟩
theorem Rd.set3 {w : World} {R : Nat} {oa : Option Addr} {ol oc : Nat} {fv : Value} {ws : Bool} {lone : Int} (h : Rd w R oa ol oc fv ws lone) (b : Bool) : Rd (w.setCell ⟨R, 3, none⟩ (.bool b)) R oa ol oc fv b lone :=
  ⟨cell_set (by decide) h.c0, cell_set (by decide) h.c1, World.cell?_setCell_same _ _ _ h.c3, cell_set (by decide) h.c8, by simpa using h.f1, by simpa using h.f3, by simpa using h.f8, by simpa [World.setCell] using h.lt⟩
theorem Rd.set8 {w : World} {R : Nat} {oa : Option Addr} {ol oc : Nat} {fv : Value} {ws : Bool} {lone : Int} (h : Rd w R oa ol oc fv ws lone) (n : Int) : Rd (w.setCell ⟨R, 8, none⟩ (.int .i64 n)) R oa ol oc fv ws n :=
  ⟨cell_set (by decide) h.c0, cell_set (by decide) h.c1, cell_set (by decide) h.c3, World.cell?_setCell_same _ _ _ h.c8, by simpa using h.f1, by simpa using h.f3, by simpa using h.f8, by simpa [World.setCell] using h.lt⟩

/-- The byte behind the dollar. -/
def byte1 (t : ByteArray) : UInt8 := t.data.toList.getD 1 0
theorem byte1_eq (t : ByteArray) (h : 1 < t.size) : byte1 t = t[1]'h := by
  unfold byte1
  rw [List.getD_eq_getElem?_getD, Lib.data_getElem? t 1 h]
  rfl

/-- A special parameter or a digit. -/
def special (c : UInt8) : Bool := decide (c.toNat = 64 ∨ c.toNat = 42 ∨ c.toNat = 35 ∨ c.toNat = 63 ∨ c.toNat = 45 ∨ c.toNat = 36 ∨ c.toNat = 33 ∨ (48 ≤ c.toNat ∧ c.toNat ≤ 57))

/-- WHAT dollarAt LEAVES: how far it steps (n), how many frames there are (k), the two marks. -/
def Out (t : ByteArray) (n : Int) (ws ws' : Bool) (lone lone' ol : Int) (k : Nat) : Prop :=
  1 ≤ n ∧ n ≤ t.size ∧ k ≤ 1 ∧ (n = 1 → lone' = ol ∧ k = 0) ∧ (n ≠ 1 → lone' = lone ∧ (k = 1 ↔ special (byte1 t) = false)) ∧ (ws' = ws ∨ (ws' = true ∧ k = 1 ∧ n = 2 ∧ (byte1 t).toNat = 40))

/-- ALL OF IT, behind the call. -/
def Post (B R : Nat) (t : ByteArray) (oa : Option Addr) (ol oc : Nat) (ws : Bool) (lone : Int) (w : World) (e : Ending) (w' : World) : Prop :=
  ∃ (n : Int) (a : Option Addr) (k c : Nat) (ws' : Bool) (lone' : Int), e = .returned (.int .i64 n) ∧ Rd w' R oa ol oc (.slice a k c) ws' lone' ∧ Below B w w' ∧ Out t n ws ws' lone lone' ol k

/-- The dollar alone. -/
theorem out_alone (t : ByteArray) (ws : Bool) (lone ol : Int) (h : 1 ≤ t.size) : Out t 1 ws ws lone ol ol 0 :=
  ⟨by omega, by omega, by omega, fun _ => ⟨rfl, rfl⟩, fun h => absurd rfl h, .inl rfl⟩
/-- A special parameter. -/
theorem out_special (t : ByteArray) (ws : Bool) (lone ol : Int) (h : 2 ≤ t.size) (hs : special (byte1 t) = true) : Out t 2 ws ws lone lone ol 0 :=
  ⟨by omega, by omega, by omega, fun h => by omega, fun _ => ⟨rfl, by rw [hs]; simp⟩, .inl rfl⟩
/-- A frame is opened. -/
theorem out_open (t : ByteArray) (n : Int) (ws : Bool) (lone ol : Int) (h1 : 2 ≤ n) (h2 : n ≤ t.size) (hs : special (byte1 t) = false) : Out t n ws ws lone lone ol 1 :=
  ⟨by omega, by omega, by omega, fun h => by omega, fun _ => ⟨rfl, by rw [hs]; simp⟩, .inl rfl⟩
theorem out_word (t : ByteArray) (ws : Bool) (lone ol : Int) (h2 : 2 ≤ t.size) (hc : (byte1 t).toNat = 40) : Out t 2 ws true lone lone ol 1 :=
  ⟨by omega, by omega, by omega, fun h => by omega, fun _ => ⟨rfl, by rw [show special (byte1 t) = false from decide_eq_false (by omega)]; simp⟩, .inr ⟨rfl, rfl, rfl, hc⟩⟩

theorem below_grown {B : Nat} {w w1 : World} (hg : w.grownBy w1 none) (hB : B ≤ w.heap.size) : Below B w w1 := (Below.refl _ _).grown hg hB (fun k h => by cases h)

set_option maxHeartbeats 1000000 in
set_option maxRecDepth 100000 in
/-- t is the dollar alone. -/
theorem da_one (B R : Nat) (t : ByteArray) (oa : Option Addr) (ol oc : Nat) (ws : Bool) (lone : Int) (fp : Value) (w : World) (hBR : B ≤ R) (ht : t.size = 1) (hr : Rd w R oa ol oc (.slice none 0 0) ws lone) :
    Calls Try.prog 48 #[.pointer (some ⟨R, 0, none⟩), .string t, fp] w (Post B R t oa ol oc ws lone w) := by
  obtain ⟨c0, c1, c3, c8, f1, f3, f8, lt⟩ := hr
  have hr : Rd w R oa ol oc (.slice none 0 0) ws lone := ⟨c0, c1, c3, c8, f1, f3, f8, lt⟩
  go_enter Try.func48, Try.ntmps48
  go_wp2
  go_ret
  exact ⟨_, _, _, _, _, _, rfl, hr.set8 _, (Below.refl _ _).setCell hBR _, out_alone t ws lone _ (by omega)⟩

theorem sp_not {t : ByteArray} (h : 1 < t.size) {v : Nat} (hv : (t[1]'h).toNat = v) (hn : v = 40 ∨ v = 91 ∨ v = 123 ∨ v = 39) : special (byte1 t) = false := by
  rw [byte1_eq t h]
  exact decide_eq_false (by omega)

set_option maxHeartbeats 1000000 in
set_option maxRecDepth 100000 in
/-- A bracket. -/
theorem da_bracket (B R : Nat) (t : ByteArray) (oa : Option Addr) (ol oc : Nat) (ws : Bool) (lone : Int) (fp : Value) (w : World) (hBR : B ≤ R) (ht : 2 ≤ t.size) (hT : t.size ≤ 1048576) (hc : (t[1]'(by omega)).toNat = 91) (hr : Rd w R oa ol oc (.slice none 0 0) ws lone) :
    Calls Try.prog 48 #[.pointer (some ⟨R, 0, none⟩), .string t, fp] w (Post B R t oa ol oc ws lone w) := by
  obtain ⟨c0, c1, c3, c8, f1, f3, f8, lt⟩ := hr
  have hr : Rd w R oa ol oc (.slice none 0 0) ws lone := ⟨c0, c1, c3, c8, f1, f3, f8, lt⟩
  have HS := sp_not (by omega) hc (by omega)
  have e1 : ((t.size : Int) == 1) = false := beq_eq_false_iff_ne.2 (by omega)
  have e2 : (((t[1]'(by omega)).toNat : Int) == 40) = false := beq_eq_false_iff_ne.2 (by omega)
  have e3 : (((t[1]'(by omega)).toNat : Int) == 91) = true := beq_iff_eq.2 (by omega)
  have HC : Hid ((t[1]'(by omega)).toNat = 91) := hc
  clear hc
  go_enter Try.func48, Try.ntmps48
  go_wp2_with fail
  refine (push R _ _ _ _ _ _ _ _ _ _ c1 f1 lt).mono ?_
  rintro e w' ⟨rfl, g, cap, w1, hg, rfl⟩
  have hr1 := (hr.grown hg).set1 (.slice (some ⟨g, 0, none⟩) 1 cap)
  have hb1 : Below B w (w1.setCell ⟨R, 1, none⟩ (.slice (some ⟨g, 0, none⟩) 1 cap)) := (below_grown hg (by omega)).setCell hBR _
  generalize w1.setCell ⟨R, 1, none⟩ (.slice (some ⟨g, 0, none⟩) 1 cap) = w2 at *
  clear hg
  go_wp2
  go_ret
  exact ⟨_, _, _, _, _, _, rfl, hr1, hb1, out_open t 2 ws lone _ (by omega) (by omega) HS⟩

set_option maxHeartbeats 2000000 in
set_option maxRecDepth 100000 in
/-- A parenthesis, or two. -/
theorem da_paren (B R : Nat) (t : ByteArray) (oa : Option Addr) (ol oc : Nat) (ws : Bool) (lone : Int) (fp : Value) (w : World) (hBR : B ≤ R) (ht : 2 ≤ t.size) (hT : t.size ≤ 1048576) (hc : (t[1]'(by omega)).toNat = 40) (hr : Rd w R oa ol oc (.slice none 0 0) ws lone) :
    Calls Try.prog 48 #[.pointer (some ⟨R, 0, none⟩), .string t, fp] w (Post B R t oa ol oc ws lone w) := by
  obtain ⟨c0, c1, c3, c8, f1, f3, f8, lt⟩ := hr
  have hr : Rd w R oa ol oc (.slice none 0 0) ws lone := ⟨c0, c1, c3, c8, f1, f3, f8, lt⟩
  have HS := sp_not (by omega) hc (by omega)
  have e1 : ((t.size : Int) == 1) = false := beq_eq_false_iff_ne.2 (by omega)
  have e2 : (((t[1]'(by omega)).toNat : Int) == 40) = true := beq_iff_eq.2 (by omega)
  have HC : Hid ((t[1]'(by omega)).toNat = 40) := hc
  clear hc
  go_enter Try.func48, Try.ntmps48
  go_wp2_with fail
  refine (hasPrefix t _ hT).mono ?_
  rintro e w' ⟨b, rfl, hb, rfl⟩
  cases b
  · clear hb
    go_wp2_with fail
    refine (push R _ _ _ _ _ _ _ _ _ _ c1 f1 lt).mono ?_
    rintro e w' ⟨rfl, g, cap, w1, hg, rfl⟩
    have hr1 := (hr.grown hg).set1 (.slice (some ⟨g, 0, none⟩) 1 cap)
    have hb1 : Below B w' (w1.setCell ⟨R, 1, none⟩ (.slice (some ⟨g, 0, none⟩) 1 cap)) := (below_grown hg (by omega)).setCell hBR _
    generalize w1.setCell ⟨R, 1, none⟩ (.slice (some ⟨g, 0, none⟩) 1 cap) = w2 at *
    clear hg
    have g3 := hr1.c3
    have g4 := hr1.f3
    go_wp2
    go_ret
    exact ⟨_, _, _, _, _, _, rfl, hr1.set3 true, hb1.setCell hBR _, out_word t ws lone _ (by omega) (by rw [byte1_eq t (by omega)]; exact HC.out)⟩
  · have h3 : 3 ≤ t.size := hb.out rfl
    clear hb
    go_wp2_with fail
    refine (push R _ _ _ _ _ _ _ _ _ _ c1 f1 lt).mono ?_
    rintro e w' ⟨rfl, g, cap, w1, hg, rfl⟩
    have hr1 := (hr.grown hg).set1 (.slice (some ⟨g, 0, none⟩) 1 cap)
    have hb1 : Below B w' (w1.setCell ⟨R, 1, none⟩ (.slice (some ⟨g, 0, none⟩) 1 cap)) := (below_grown hg (by omega)).setCell hBR _
    generalize w1.setCell ⟨R, 1, none⟩ (.slice (some ⟨g, 0, none⟩) 1 cap) = w2 at *
    clear hg
    go_wp2
    go_ret
    exact ⟨_, _, _, _, _, _, rfl, hr1, hb1, out_open t 3 ws lone _ (by omega) (by omega) HS⟩

set_option maxHeartbeats 2000000 in
set_option maxRecDepth 100000 in
/-- A brace. -/
theorem da_brace (B R : Nat) (t : ByteArray) (oa : Option Addr) (ol oc : Nat) (ws : Bool) (lone : Int) (w : World) (hBR : B ≤ R) (ht : 2 ≤ t.size) (hT : t.size ≤ 1048576) (F : Nat) (kind part : Int) (quoted : Bool) (k0 : w.cell? ⟨F, 0, none⟩ = some (.int .i64 kind)) (k4 : w.cell? ⟨F, 4, none⟩ = some (.bool quoted)) (k5 : w.cell? ⟨F, 5, none⟩ = some (.int .i64 part)) (hc : (t[1]'(by omega)).toNat = 123) (hr : Rd w R oa ol oc (.slice none 0 0) ws lone) :
    Calls Try.prog 48 #[.pointer (some ⟨R, 0, none⟩), .string t, .pointer (some ⟨F, 0, none⟩)] w (Post B R t oa ol oc ws lone w) := by
  obtain ⟨c0, c1, c3, c8, f1, f3, f8, lt⟩ := hr
  have hr : Rd w R oa ol oc (.slice none 0 0) ws lone := ⟨c0, c1, c3, c8, f1, f3, f8, lt⟩
  have HS := sp_not (by omega) hc (by omega)
  have e1 : ((t.size : Int) == 1) = false := beq_eq_false_iff_ne.2 (by omega)
  have e2 : (((t[1]'(by omega)).toNat : Int) == 40) = false := beq_eq_false_iff_ne.2 (by omega)
  have e3 : (((t[1]'(by omega)).toNat : Int) == 91) = false := beq_eq_false_iff_ne.2 (by omega)
  have e4 : (((t[1]'(by omega)).toNat : Int) == 123) = true := beq_iff_eq.2 (by omega)
  have HC : Hid ((t[1]'(by omega)).toNat = 123) := hc
  clear hc
  go_enter Try.func48, Try.ntmps48
  go_wp2_with fail
  refine (readsCommands F kind part quoted _ k0 k4 k5).mono ?_
  rintro e w' ⟨b, rfl, rfl⟩
  go_wp2_with fail
  refine (push R _ _ _ _ _ _ _ _ _ _ c1 f1 lt).mono ?_
  rintro e w' ⟨rfl, g, cap, w1, hg, rfl⟩
  have hr1 := (hr.grown hg).set1 (.slice (some ⟨g, 0, none⟩) 1 cap)
  have hb1 : Below B w' (w1.setCell ⟨R, 1, none⟩ (.slice (some ⟨g, 0, none⟩) 1 cap)) := (below_grown hg (by omega)).setCell hBR _
  generalize w1.setCell ⟨R, 1, none⟩ (.slice (some ⟨g, 0, none⟩) 1 cap) = w2 at *
  clear hg
  clear k0 k4 k5
  go_wp2_with fail
  refine (parameterLen (t.extract 2 t.size) _ (by simp; omega)).mono ?_
  rintro e w3 ⟨n, rfl, hn0, hn1, rfl⟩
  have hn2 : n ≤ (t.size : Int) - 2 := by simp at hn1; omega
  clear hn1
  go_wp2
  go_ret
  exact ⟨_, _, _, _, _, _, rfl, hr1, hb1, out_open t (2 + n) ws lone _ (by omega) (by omega) HS⟩

set_option maxHeartbeats 2000000 in
set_option maxRecDepth 100000 in
/-- A quote. -/
theorem da_quote (B R : Nat) (t : ByteArray) (oa : Option Addr) (ol oc : Nat) (ws : Bool) (lone : Int) (w : World) (hBR : B ≤ R) (ht : 2 ≤ t.size) (hT : t.size ≤ 1048576) (F : Nat) (kind part : Int) (quoted : Bool) (k0 : w.cell? ⟨F, 0, none⟩ = some (.int .i64 kind)) (k4 : w.cell? ⟨F, 4, none⟩ = some (.bool quoted)) (k5 : w.cell? ⟨F, 5, none⟩ = some (.int .i64 part)) (hc : (t[1]'(by omega)).toNat = 39) (hr : Rd w R oa ol oc (.slice none 0 0) ws lone) :
    Calls Try.prog 48 #[.pointer (some ⟨R, 0, none⟩), .string t, .pointer (some ⟨F, 0, none⟩)] w (Post B R t oa ol oc ws lone w) := by
  obtain ⟨c0, c1, c3, c8, f1, f3, f8, lt⟩ := hr
  have hr : Rd w R oa ol oc (.slice none 0 0) ws lone := ⟨c0, c1, c3, c8, f1, f3, f8, lt⟩
  have HS := sp_not (by omega) hc (by omega)
  have e1 : ((t.size : Int) == 1) = false := beq_eq_false_iff_ne.2 (by omega)
  have e2 : (((t[1]'(by omega)).toNat : Int) == 40) = false := beq_eq_false_iff_ne.2 (by omega)
  have e3 : (((t[1]'(by omega)).toNat : Int) == 91) = false := beq_eq_false_iff_ne.2 (by omega)
  have e4 : (((t[1]'(by omega)).toNat : Int) == 123) = false := beq_eq_false_iff_ne.2 (by omega)
  have e5 : (((t[1]'(by omega)).toNat : Int) == 39) = true := beq_iff_eq.2 (by omega)
  have HC : Hid ((t[1]'(by omega)).toNat = 39) := hc
  clear hc
  go_enter Try.func48, Try.ntmps48
  go_wp2_with fail
  refine (readsCommands F kind part quoted _ k0 k4 k5).mono ?_
  rintro e w' ⟨b, rfl, rfl⟩
  by_cases hp : b = true ∨ kind = 5 ∨ kind = 6
  · have hyes : (b = true) ∨ (b = false ∧ (kind == 5) = true) ∨ (b = false ∧ (kind == 5) = false ∧ (kind == 6) = true) := by
      cases b
      · by_cases h5 : kind = 5
        · exact .inr (.inl ⟨rfl, beq_iff_eq.2 h5⟩)
        · refine .inr (.inr ⟨rfl, beq_eq_false_iff_ne.2 h5, beq_iff_eq.2 ?_⟩)
          rcases hp with h | h | h
          · cases h
          · exact absurd h h5
          · exact h
      · exact .inl rfl
    clear hp
    rcases hyes with rfl | ⟨rfl, hk⟩ | ⟨rfl, hk, hk2⟩
    all_goals
      go_wp2_with fail
      clear k0 k4 k5
      refine (push R _ _ _ _ _ _ _ _ _ _ c1 f1 lt).mono ?_
      rintro e w' ⟨rfl, g, cap, w1, hg, rfl⟩
      have hr1 := (hr.grown hg).set1 (.slice (some ⟨g, 0, none⟩) 1 cap)
      have hb1 : Below B w' (w1.setCell ⟨R, 1, none⟩ (.slice (some ⟨g, 0, none⟩) 1 cap)) := (below_grown hg (by omega)).setCell hBR _
      generalize w1.setCell ⟨R, 1, none⟩ (.slice (some ⟨g, 0, none⟩) 1 cap) = w2 at *
      clear hg
      go_wp2
      go_ret
      exact ⟨_, _, _, _, _, _, rfl, hr1, hb1, out_open t 2 ws lone _ (by omega) (by omega) HS⟩
  · have hb : b = false := by
      cases b
      · rfl
      · exact absurd (.inl rfl) hp
    subst hb
    have hk : (kind == 5) = false := beq_eq_false_iff_ne.2 (fun h => hp (.inr (.inl h)))
    have hk2 : (kind == 6) = false := beq_eq_false_iff_ne.2 (fun h => hp (.inr (.inr h)))
    clear hp
    go_wp2
    go_ret
    exact ⟨_, _, _, _, _, _, rfl, hr.set8 _, (Below.refl _ _).setCell hBR _, out_alone t ws lone _ (by omega)⟩

theorem sp_of (c : UInt8) (v : Int) (h : ((c.toNat : Int) == v) = true) (hv : v ∈ ([35, 63, 36, 33, 64, 42, 45, 48, 49, 50, 51, 52, 53, 54, 55, 56, 57] : List Int)) : special c = true := by
  have e := beq_iff_eq.1 h
  simp at hv
  exact decide_eq_true (by omega)

set_option maxHeartbeats 4000000 in
set_option maxRecDepth 100000 in
/-- Anything else: a special parameter, or the dollar alone. -/
theorem da_rest (B R : Nat) (t : ByteArray) (oa : Option Addr) (ol oc : Nat) (ws : Bool) (lone : Int) (fp : Value) (w : World) (hBR : B ≤ R) (ht : 2 ≤ t.size) (hT : t.size ≤ 1048576) (c : UInt8) (hcv : t[1]'(by omega) = c)
    (n1 : ((c.toNat : Int) == 40) = false) (n2 : ((c.toNat : Int) == 91) = false) (n3 : ((c.toNat : Int) == 123) = false) (n4 : ((c.toNat : Int) == 39) = false) (hr : Rd w R oa ol oc (.slice none 0 0) ws lone) :
    Calls Try.prog 48 #[.pointer (some ⟨R, 0, none⟩), .string t, fp] w (Post B R t oa ol oc ws lone w) := by
  obtain ⟨c0, c1, c3, c8, f1, f3, f8, lt⟩ := hr
  have hr : Rd w R oa ol oc (.slice none 0 0) ws lone := ⟨c0, c1, c3, c8, f1, f3, f8, lt⟩
  have e1 : ((t.size : Int) == 1) = false := beq_eq_false_iff_ne.2 (by omega)
  have HB : Hid (byte1 t = c) := by rw [← hcv]; exact byte1_eq t (by omega)
  go_enter Try.func48, Try.ntmps48
  go_wp2
  all_goals
    go_ret
    first
      | exact ⟨_, _, _, _, _, _, rfl, hr.set8 _, (Below.refl _ _).setCell hBR _, out_alone t ws lone _ (by omega)⟩
      | exact ⟨_, _, _, _, _, _, rfl, hr, Below.refl _ _, out_special t ws lone _ ht (by rw [HB.out]; exact sp_of c _ (by assumption) (by decide))⟩

/-- ALL OF dollarAt, at a text of at least one byte. -/
theorem da_all (B R : Nat) (t : ByteArray) (oa : Option Addr) (ol oc : Nat) (ws : Bool) (lone : Int) (w : World) (hBR : B ≤ R) (ht : 1 ≤ t.size) (hT : t.size ≤ 1048576) (F : Nat) (kind part : Int) (quoted : Bool)
    (k0 : w.cell? ⟨F, 0, none⟩ = some (.int .i64 kind)) (k4 : w.cell? ⟨F, 4, none⟩ = some (.bool quoted)) (k5 : w.cell? ⟨F, 5, none⟩ = some (.int .i64 part)) (hr : Rd w R oa ol oc (.slice none 0 0) ws lone) :
    Calls Try.prog 48 #[.pointer (some ⟨R, 0, none⟩), .string t, .pointer (some ⟨F, 0, none⟩)] w (Post B R t oa ol oc ws lone w) := by
  by_cases h1 : t.size = 1
  · exact da_one B R t oa ol oc ws lone _ w hBR h1 hr
  · by_cases hp : (t[1]'(by omega)).toNat = 40
    · exact da_paren B R t oa ol oc ws lone _ w hBR (by omega) hT hp hr
    · by_cases hk : (t[1]'(by omega)).toNat = 91
      · exact da_bracket B R t oa ol oc ws lone _ w hBR (by omega) hT hk hr
      · by_cases hb : (t[1]'(by omega)).toNat = 123
        · exact da_brace B R t oa ol oc ws lone w hBR (by omega) hT F kind part quoted k0 k4 k5 hb hr
        · by_cases hq : (t[1]'(by omega)).toNat = 39
          · exact da_quote B R t oa ol oc ws lone w hBR (by omega) hT F kind part quoted k0 k4 k5 hq hr
          · exact da_rest B R t oa ol oc ws lone _ w hBR (by omega) hT _ rfl (beq_eq_false_iff_ne.2 (by omega)) (beq_eq_false_iff_ne.2 (by omega)) (beq_eq_false_iff_ne.2 (by omega)) (beq_eq_false_iff_ne.2 (by omega)) hr

/-- .. through the thin export. -/
theorem zzDollar (B R : Nat) (t : ByteArray) (oa : Option Addr) (ol oc : Nat) (ws : Bool) (lone : Int) (w : World) (hBR : B ≤ R) (ht : 1 ≤ t.size) (hT : t.size ≤ 1048576) (F : Nat) (kind part : Int) (quoted : Bool)
    (k0 : w.cell? ⟨F, 0, none⟩ = some (.int .i64 kind)) (k4 : w.cell? ⟨F, 4, none⟩ = some (.bool quoted)) (k5 : w.cell? ⟨F, 5, none⟩ = some (.int .i64 part)) (hr : Rd w R oa ol oc (.slice none 0 0) ws lone) :
    Calls Try.prog 31 #[.pointer (some ⟨R, 0, none⟩), .string t, .pointer (some ⟨F, 0, none⟩)] w (Post B R t oa ol oc ws lone w) := by
  have H := da_all B R t oa ol oc ws lone w hBR ht hT F kind part quoted k0 k4 k5 hr
  clear k0 k4 k5
  go_enter Try.func31, Try.ntmps31
  go_wp2_with fail
  refine H.mono ?_
  rintro e w' ⟨n, a, k, c, ws', lone', rfl, hr', hb, ho⟩
  clear H
  go_wp2
  go_ret
  exact ⟨n, a, k, c, ws', lone', rfl, hr', hb, ho⟩

end Go.Proofs.Qxb6003564a
