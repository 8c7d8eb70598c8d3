/-
  THE WALK OF FnUnescapeValueInvertsAppendText.
-/
import Derived.Test.Qxb6600096aUnesc
import Derived.Laws.IdiomStrings
namespace Go.Proofs.Qxb6600096a
open Go.RowKit Plain
set_option linter.unusedVariables false

/-- True or false; the world as it was. -/
def Either (w : World) (e : Ending) (w' : World) : Prop := w' = w ∧ (e = .returned (.bool true) ∨ e = .returned (.bool false))

theorem zb16_yes (f v : ByteArray) (c : Int) (w : World) (h1 : f.size ≤ 524288) (h2 : v.size ≤ 524288) :
    Calls Try.prog 16 #[.string f, .int .u8 c, .string v] w fun e w' => e = .returned (.bool true) ∧ w' = w := by
  go_enter Try.func16, Try.ntmps16
  go_wp2
  go_ret
  exact ⟨rfl, rfl⟩

theorem zb16_any (f v : ByteArray) (c : Int) (w : World) :
    Calls Try.prog 16 #[.string f, .int .u8 c, .string v] w (Either w) := by
  by_cases h1 : f.size ≤ 1048576
  · by_cases h2 : v.size ≤ 1048576
    · by_cases h3 : (f.size : Int) + (v.size : Int) ≤ 1048576
      · go_enter Try.func16, Try.ntmps16
        go_wp2
        go_ret
        exact ⟨rfl, .inl rfl⟩
      · go_enter Try.func16, Try.ntmps16
        go_wp2
        go_ret
        exact ⟨rfl, .inr rfl⟩
    · go_enter Try.func16, Try.ntmps16
      go_wp2
      go_ret
      exact ⟨rfl, .inr rfl⟩
  · go_enter Try.func16, Try.ntmps16
    go_wp2
    go_ret
    exact ⟨rfl, .inr rfl⟩

/-- A slice's bytes as a string. -/
theorem conv (w : World) (g o cap : Nat) (s : ByteArray) (h : ∀ i, i < s.size → w.cell? ⟨g, o + i, none⟩ = some (.int .u8 ((nums s).getD i 0))) :
    (convert 33 9 (.slice (some ⟨g, o, none⟩) s.size cap)).run Try.prog w = .ok (.string s) w := by
  have hl : s.data.toList.length = s.size := by rw [Array.length_toList]; rfl
  have h1 := run_convert_bytes_back (P := Try.prog) w 33 9 5 ⟨g, o, none⟩ cap s.data.toList Try.underlying33 Try.underlying5 Try.underlying9 (fun j hj => by
    have hj' : j < s.size := by omega
    have h2 := h j hj'
    rw [List.getD_eq_getElem?_getD, nums_at s j hj'] at h2
    rw [Lib.addr_add, h2]
    rfl)
  rw [hl] at h1
  exact h1

set_option maxHeartbeats 4000000 in
set_option maxRecDepth 100000 in
theorem inverts_main (f v : ByteArray) (c : Int) (w : World) (h1 : f.size ≤ 524288) (h2 : v.size ≤ 524288) :
    Calls Try.prog 5 #[.string f, .int .u8 c, .string v] w fun e w' => e = .returned (.bool true) ∧ Below w.heap.size w w' := by
  go_enter Try.func5, Try.ntmps5
  go_wp2_with fail
  refine (zb16_yes f v c _ h1 h2).mono ?_
  rintro e w' ⟨rfl, rfl⟩
  go_wp2_with fail
  have hG : ((w'.alloc (.cells #[.string f, .int .u8 c, .string v] 29)).alloc (.cells #[.slice (some ⟨w'.heap.size, 0, none⟩) 1 1] 32)).heap[w'.heap.size]? = some (.cells (row [(f, c, v)]).toArray 29 (0, 0)) := by
    rw [Below.heap_alloc _ _ _ (by simp)]
    exact heap_alloc_new w' _
  refine (zz_some [(f, c, v)] w'.heap.size 1 _ rfl (by omega) (fun x hx => by simp at hx; subst hx; exact ⟨by simp only; omega, by simp only; omega⟩) hG).mono ?_
  rintro e w1 ⟨vv, rfl, ho, hb⟩
  have bel : Below w'.heap.size w' w1 := (((Below.refl _ _).alloc (Nat.le_refl _) _).alloc (by simp) _).trans (hb.mono (by simp; omega))
  rw [text_one] at ho
  have hT : alt (f, c, v) = nums f ++ c :: esc (nums v) := rfl
  rw [hT] at ho
  clear hG hb hT
  obtain ⟨raw, hrw⟩ : ∃ raw, raw = strOf (esc (nums v)) := ⟨_, rfl⟩
  have hraw : nums raw = esc (nums v) := by rw [hrw]; exact nums_strOf _ (esc_bytes _ (nums_bytes v))
  have hrs : raw.size = (esc (nums v)).length := by rw [hrw, strOf_size]
  have hrl : raw.size ≤ 2 * v.size := by rw [hrs]; have := esc_length (nums v); rw [nums_length] at this; exact this
  obtain ⟨T, hT⟩ : ∃ T, T = nums f ++ c :: esc (nums v) := ⟨_, rfl⟩
  have hN : T.length = f.size + 1 + raw.size := by rw [hT, hrs]; simp only [List.length_append, List.length_cons, nums_length]; omega
  rw [← hT] at ho
  obtain ⟨g, cap, hv, hg, hc, hm, cells⟩ := ho.form (by omega)
  rw [hN] at hv hc cells
  rw [hv]
  have v1 : (convert 33 9 (.slice (some ⟨g, 0, none⟩) f.size cap)).run Try.prog w1 = .ok (.string f) w1 := conv w1 g 0 cap f fun i hi => by
    rw [cells i (by omega), hT]
    simp [List.getD_eq_getElem?_getD, List.getElem?_append_left (show i < (nums f).length by rw [nums_length]; exact hi)]
  have q1 : w1.cell? ⟨g, f.size, none⟩ = some (.int .u8 c) := by
    have h := cells f.size (by omega)
    rw [Nat.zero_add] at h
    rw [h, hT, List.getD_eq_getElem?_getD, List.getElem?_append_right (by rw [nums_length]; exact Nat.le_refl _), nums_length, Nat.sub_self]
    rfl
  have v2 : ∀ cap', (convert 33 9 (.slice (some ⟨g, f.size + 1, none⟩) raw.size cap')).run Try.prog w1 = .ok (.string raw) w1 := fun cap' => conv w1 g (f.size + 1) cap' raw fun i hi => by
    have h := cells (f.size + 1 + i) (by omega)
    rw [Nat.zero_add] at h
    rw [h, hT, hraw, List.getD_eq_getElem?_getD, List.getElem?_append_right (by rw [nums_length]; omega), nums_length, show f.size + 1 + i - f.size = i + 1 from by omega, List.getElem?_cons_succ, List.getD_eq_getElem?_getD]
  have v3 : raw.size = 0 → ∀ cap', (convert 33 9 (.slice (some ⟨g, 0, none⟩) 0 cap')).run Try.prog w1 = .ok (.string raw) w1 := fun h0 cap' => by
    have h := conv w1 g 0 cap' raw (fun i hi => by omega)
    rw [h0] at h
    exact h
  have HR : Hid (nums raw = esc (nums v)) := hraw
  clear hrw hraw hrs hT hv ho cells hN
  unfold maxLen at hm
  by_cases hcap : cap = f.size + 1
  · have hr0 : raw.size = 0 := by omega
    have v4 := v3 hr0
    clear v3 v2
    subst hcap
    go_wp2_with fail
    refine (wellFormed raw v _ HR.out (by omega)).mono ?_
    rintro e w2 ⟨rfl, rfl⟩
    go_wp2_with fail
    refine (zzUnescape raw v _ HR.out (by omega) (by omega)).mono ?_
    rintro e w3 ⟨rfl, hb3⟩
    have bel3 : Below w'.heap.size w' w3 := bel.trans (hb3.mono bel.size)
    clear v1 v4 q1 HR hb3 bel
    go_wp2
    go_ret
    exact ⟨rfl, bel3⟩
  · clear v3
    go_wp2_with fail
    refine (wellFormed raw v _ HR.out (by omega)).mono ?_
    rintro e w2 ⟨rfl, rfl⟩
    go_wp2_with fail
    refine (zzUnescape raw v _ HR.out (by omega) (by omega)).mono ?_
    rintro e w3 ⟨rfl, hb3⟩
    have bel3 : Below w'.heap.size w' w3 := bel.trans (hb3.mono bel.size)
    clear v1 v2 q1 HR hb3 bel
    go_wp2
    go_ret
    exact ⟨rfl, bel3⟩

/-- THE LAW's WALK. -/
theorem inverts (f v : ByteArray) (c : Int) (w : World) :
    Calls Try.prog 5 #[.string f, .int .u8 c, .string v] w fun e w' => e = .returned (.bool true) ∧ Below w.heap.size w w' := by
  by_cases h1 : f.size ≤ 524288
  · by_cases h2 : v.size ≤ 524288
    · exact inverts_main f v c w h1 h2
    · go_enter Try.func5, Try.ntmps5
      go_wp2_with fail
      refine (zb16_any f v c _).mono ?_
      rintro e w' ⟨rfl, rfl | rfl⟩
      all_goals
        go_wp2
        go_ret
        exact ⟨rfl, Below.refl _ _⟩
  · go_enter Try.func5, Try.ntmps5
    go_wp2_with fail
    refine (zb16_any f v c _).mono ?_
    rintro e w' ⟨rfl, rfl | rfl⟩
    all_goals
      go_wp2
      go_ret
      exact ⟨rfl, Below.refl _ _⟩

end Go.Proofs.Qxb6600096a
