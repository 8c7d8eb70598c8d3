/-
  THE PROOF OF 'Rows.FnAppendTextJoinsWithBarSaid'. No shell was given: the frame is typed after the guide's own shell for slices of integers (proof-skeleton.mjs, third state), a slice of strings opened by 'open_strings'.
-/
import Derived.Test.Qxb6600096aRows
import Derived.WalkKit
import Derived.ProofKit
import Derived.OpenShut
import Derived.ShutString
import Derived.ChangeOld
import Derived.Below
import Derived.SliceStrings
import Derived.Test.Qxb6600096aJoin
import Derived.Test.Qxb6600096aClosed1
namespace Go.Proofs.Qxb6600096a.fnAppendTextJoinsWithBar
open Go.ChangeShapes Go.WideShapes Go.ChangeAt Go.RowKit
open Go.ChangeMaps (open_string shut_string)
set_option linter.unusedVariables false

theorem own : ownKnob Try.prog.godebug = none := by kernel_rfl
theorem laidOut : laidOutB Try.prog = true := by kernel_rfl

theorem plain_addr {w : World} {x : Addr} {v : Value} (h : w.cell? (x.add 0) = some v) : ∃ b o, x = ⟨b, o, none⟩ ∧ b < w.heap.size := by
  obtain ⟨b, o, spot⟩ := x
  have hs : spot = none := by simpa [Addr.add] using World.cell?_spot h
  subst hs
  refine ⟨b, o, rfl, ?_⟩
  rw [Lib.addr_add] at h
  rcases Nat.lt_or_ge b w.heap.size with h' | h'
  · exact h'
  · unfold World.cell? at h
    simp [Array.getElem?_eq_none h'] at h

theorem strs_of {W : World} (x : Addr) (len cap : Nat) (ss : List ByteArray) (hl : len ≤ cap) (hz : ss.length = cap) (hcell : ∀ i, i < ss.length → W.cell? (x.add i) = some (.string (ss.getD i ByteArray.empty))) : Strs W W.heap.size (some x) len (ss.take len) := by
  refine ⟨by rw [List.length_take]; omega, fun hn => ?_⟩
  obtain ⟨b, o, rfl, hb⟩ := plain_addr (hcell 0 (by omega))
  refine ⟨b, o, rfl, hb, fun i s hs => ?_⟩
  have hi : i < len := by have := (List.getElem?_eq_some_iff.1 hs).1; rw [List.length_take] at this; omega
  have h := hcell i (by omega)
  rw [List.getElem?_take, if_pos hi] at hs
  rw [Lib.addr_add, List.getD_eq_getElem?_getD, hs] at h
  exact h

theorem byts_of {W : World} (x : Addr) (len cap : Nat) (zs : List Int) (hl : len ≤ cap) (hz : zs.length = cap) (hcell : ∀ i, i < zs.length → W.cell? (x.add i) = some (.int .u8 (zs.getD i 0))) : Byts W W.heap.size (some x) len (zs.take len) := by
  refine ⟨by rw [List.length_take]; omega, fun hn => ?_⟩
  obtain ⟨b, o, rfl, hb⟩ := plain_addr (hcell 0 (by omega))
  refine ⟨b, o, rfl, hb, fun i s hs => ?_⟩
  have hi : i < len := by have := (List.getElem?_eq_some_iff.1 hs).1; rw [List.length_take] at this; omega
  have h := hcell i (by omega)
  rw [List.getElem?_take, if_pos hi] at hs
  rw [Lib.addr_add, List.getD_eq_getElem?_getD, hs] at h
  exact h

set_option maxRecDepth 100000 in
theorem lifted (os : Os) (started : os.Started) (H : Type) (enc : TypeId × Value → H) :
    ReturnsInHanded {} Try.checked os 7 .any (Rows.fnAppendTextJoinsWithBarSpec.pre6 enc Try.prog Try.f7 Rows.fnAppendTextJoinsWithBarRow.domain false) (Rows.fnAppendTextJoinsWithBarSpec.post enc Try.prog Try.f7 false true false false) := by
  refine returnsInHanded_of_change (C := Try.checked) own started (by kernel_rfl) Try.func7
    (ChangeSpec.witness6 (enc := enc) (C := Try.checked) false ⟨#[], #[.slice none 0 0, .slice none 0 0, .slice none 0 0, .int .u32 0], []⟩ 8 (by kernel_rfl) (by kernel_rfl) (by kernel_rfl) (by kernel_rfl)) ?_
  intro W base args ds gs before hval0 hW hcnd _
  have hval : ∀ (j : Nat) t v, Try.f7.params[j]? = some t → args[j]? = some v → Value.okWide Try.prog W .any base t v := hval0
  have hW' := hW
  obtain ⟨p, q, hA0, hV, rfl, hfz, hnd⟩ := hW
  have hA : DataW.TrodAll enc Try.prog W 0 (fun _ => true) true Try.f7.params.toList args.toList ds p := hA0
  rw [Try.params7] at hA hval
  obtain ⟨v0, vs0, d0, ds0, p0, q0, hargs, rfl, rfl, h0, r0⟩ := trodAll_cons hA
  obtain ⟨v1, vs1, d1, ds1, p1, q1, rfl, rfl, rfl, h1, r1⟩ := trodAll_cons r0
  obtain ⟨v2, vs2, d2, ds2, p2, q2, rfl, rfl, rfl, h2, r2⟩ := trodAll_cons r1
  obtain ⟨v3, vs3, d3, ds3, p3, q3, rfl, rfl, rfl, h3, r3⟩ := trodAll_cons r2
  obtain ⟨rfl, rfl, rfl⟩ := trodAll_nil r3
  obtain rfl : args = #[v0, v1, v2, v3] := by cases args; simp_all
  obtain ⟨rfl, rfl⟩ := trodVars_none hV
  obtain ⟨a0, len0, cap0, rfl⟩ := okWide_slice Try.underlying35 (hval 0 35 v0 rfl rfl)
  have k0 := h0
  have lt0 : ∀ x ∈ p0, x.block < W.heap.size := by obtain ⟨m, hm⟩ := k0; exact DataW.trod_lt m _ _ _ hm
  obtain ⟨s0, w0⟩ : ∃ ss, Strs W W.heap.size a0 len0 ss := by
    obtain ⟨fuel, hf⟩ := h0
    rcases open_strings Try.underlying35 Try.underlying9 (by kernel_rfl) hf with ⟨hcs, _⟩ | ⟨x, l, c, ss, hcs, _, hl, hm, hz, _, hcell, hwz⟩
    · simp [Value.cells] at hcs
      obtain ⟨rfl, rfl, rfl⟩ := hcs
      exact ⟨[], rfl, fun h => by omega⟩
    · simp [Value.cells] at hcs
      obtain ⟨rfl, rfl, rfl⟩ := hcs
      exact ⟨_, strs_of _ _ _ ss hl (by simpa using hz) hcell⟩
  obtain ⟨a1, len1, cap1, rfl⟩ := okWide_slice Try.underlying33 (hval 1 33 v1 rfl rfl)
  have k1 := h1
  have lt1 : ∀ x ∈ p1, x.block < W.heap.size := by obtain ⟨m, hm⟩ := k1; exact DataW.trod_lt m _ _ _ hm
  obtain ⟨z1, w1⟩ : ∃ zs, Byts W W.heap.size a1 len1 zs := by
    obtain ⟨fuel, hf⟩ := h1
    rcases open_ints Try.underlying33 Try.underlying5 (by kernel_rfl) hf with ⟨hcs, _⟩ | ⟨x, l, c, zs, hcs, _, hl, hm, hz, _, hcell, hwz⟩
    · simp [Value.cells] at hcs
      obtain ⟨rfl, rfl, rfl⟩ := hcs
      exact ⟨[], rfl, fun h => by omega⟩
    · simp [Value.cells] at hcs
      obtain ⟨rfl, rfl, rfl⟩ := hcs
      exact ⟨_, byts_of _ _ _ zs hl (by simpa using hz) hcell⟩
  obtain ⟨a2, len2, cap2, rfl⟩ := okWide_slice Try.underlying35 (hval 2 35 v2 rfl rfl)
  have k2 := h2
  have lt2 : ∀ x ∈ p2, x.block < W.heap.size := by obtain ⟨m, hm⟩ := k2; exact DataW.trod_lt m _ _ _ hm
  obtain ⟨s2, w2⟩ : ∃ ss, Strs W W.heap.size a2 len2 ss := by
    obtain ⟨fuel, hf⟩ := h2
    rcases open_strings Try.underlying35 Try.underlying9 (by kernel_rfl) hf with ⟨hcs, _⟩ | ⟨x, l, c, ss, hcs, _, hl, hm, hz, _, hcell, hwz⟩
    · simp [Value.cells] at hcs
      obtain ⟨rfl, rfl, rfl⟩ := hcs
      exact ⟨[], rfl, fun h => by omega⟩
    · simp [Value.cells] at hcs
      obtain ⟨rfl, rfl, rfl⟩ := hcs
      exact ⟨_, strs_of _ _ _ ss hl (by simpa using hz) hcell⟩
  obtain ⟨a3, rfl, rfl, rfl, w3⟩ := open_int Try.underlying42 (hval 3 42 v3 rfl rfl) h3
  clear hA0 hval0
  have b3 : 0 ≤ a3 ∧ a3 < 4294967296 := by
    have h := bounds_u32 w3
    omega
  refine (join a0 a1 a2 len0 cap0 len1 cap1 len2 cap2 s0 s2 z1 a3 W w0 w1 w2 b3.1 b3.2).mono fun e W' ⟨he, bel⟩ => ?_
  subst he
  exact ⟨_, rfl, _, _, _, [], _, [], hW', trodAll_mk1 (shut_bool Try.underlying4 _), (trodAll_cons_mk (Below.trod laidOut (by kernel_rfl) (of_decide_eq_true (by kernel_rfl)) k0 bel lt0) (trodAll_cons_mk (Below.trod laidOut (by kernel_rfl) (of_decide_eq_true (by kernel_rfl)) k1 bel lt1) (trodAll_cons_mk (Below.trod laidOut (by kernel_rfl) (of_decide_eq_true (by kernel_rfl)) k2 bel lt2) (trodAll_cons_mk (shut_int Try.underlying42 w3) trodAll_mk0)))), rfl, bel.frame _, fun h => by cases h⟩

theorem over : Rows.fnAppendTextJoinsWithBarRow.holds Try.pinned (OpenSpec.ofChange Rows.fnAppendTextJoinsWithBarSpec) :=
  OpenClaim.holds_of_wide 7 Try.f7 rfl rfl rfl rfl rfl rfl rfl ⟨rfl, rfl, rfl, rfl, rfl⟩ rfl rfl rfl rfl rfl (by kernel_rfl) Try.func7 closed
    (of_decide_eq_true (by kernel_rfl)) (by unfold Func.isWrapper; first | (rw [if_pos (by decide +kernel)]; kernel_rfl) | (rw [if_neg (by decide +kernel)]; exact ⟨rfl, rfl⟩))
    (fun os started H enc _ => lifted os started H enc)

/-- THE STATEMENT -/
theorem proved : Rows.FnAppendTextJoinsWithBarSaid := over
end Go.Proofs.Qxb6600096a.fnAppendTextJoinsWithBar
