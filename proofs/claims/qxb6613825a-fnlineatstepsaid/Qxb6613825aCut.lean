/-
  THE WALK OF FnLineAtCut.
-/
import Derived.Test.Qxb6613825aLine
import Derived.Laws.CopyOwn
import Derived.Deep.OwnRows
import Derived.Lib.Buffer
namespace Go.Proofs.Qxb6613825a
open Go.RowKit
set_option linter.unusedVariables false

theorem info5 : (Try.prog.info? 5).map (fun i => (i.zero, i.size, i.bytes)) = some (some (.int .u8 0), 1, 1) := by kernel_rfl
theorem size5 : (Try.prog.info? 5).map (·.size) = some 1 := by kernel_rfl

theorem zbCut_yes (a : Option Addr) (len cap : Nat) (i j : Int) (w : World) (h : len ≤ 1048576) :
    Calls Try.prog 5 #[.slice a len cap, .int .i64 i, .int .i64 j] w fun e w' => e = .returned (.bool true) ∧ w' = w := by
  go_enter Try.func5, Try.ntmps5
  go_wp2
  go_ret
  exact ⟨rfl, rfl⟩
theorem zbCut_no (a : Option Addr) (len cap : Nat) (i j : Int) (w : World) (h : 1048576 < len) :
    Calls Try.prog 5 #[.slice a len cap, .int .i64 i, .int .i64 j] w fun e w' => e = .returned (.bool false) ∧ w' = w := by
  go_enter Try.func5, Try.ntmps5
  go_wp2
  go_ret
  exact ⟨rfl, rfl⟩

/-- The copy that the law makes of its text first: what is known of the world behind it. -/
theorem copied (x : Addr) (len cap : Nat) (zs : List Int) (w : World) (hl : len ≤ cap) (hz : zs.length = cap) (hL : len ≤ 1048576)
    (hc : ∀ i, i < zs.length → w.cell? (x.add i) = some (.int .u8 (zs.getD i 0))) :
    ∃ M Y : Array Value, 
      (∀ W : World, (Instr.makeSlice 22 (.int .i64 (len : Int)) (.int .i64 (len : Int))).run Try.prog W = .ok (.slice (some ⟨W.heap.size, 0, none⟩) len len) (W.alloc (.cells M 5))) ∧
      (∀ ty, (Builtin.copy_ #[22, 22] ty #[.slice (some ⟨w.heap.size, 0, none⟩) len len, .slice (some x) len cap]).run Try.prog (w.alloc (.cells M 5)) = .ok (.int .i64 len) ((w.alloc (.cells M 5)).setRow w.heap.size Y)) ∧
      (∀ j, j < len → ((w.alloc (.cells M 5)).setRow w.heap.size Y).cell? ((⟨w.heap.size, 0, none⟩ : Addr).add j) = some (.int .u8 ((zs.take len).getD j 0))) ∧
      Below w.heap.size w ((w.alloc (.cells M 5)).setRow w.heap.size Y) ∧ w.heap.size < ((w.alloc (.cells M 5)).setRow w.heap.size Y).heap.size := by
  obtain ⟨cs, hcs⟩ : ∃ cs, cs = (zs.take len).map (Value.int .u8) := ⟨_, rfl⟩
  have hcl : cs.length = len := by rw [hcs]; simp; omega
  have hms : (madeCells #[.int .u8 0] len).size = len := size_madeCells _ _
  have hY : (((madeCells #[Value.int .u8 0] len).toList.take 0 ++ cs ++ (madeCells #[Value.int .u8 0] len).toList.drop (0 + cs.length)).toArray) = cs.toArray := by
    rw [List.take_zero, List.nil_append, List.drop_of_length_le (by rw [Array.length_toList]; omega), List.append_nil]
  have hrow : ((w.alloc (.cells (madeCells #[.int .u8 0] len) 5)).setRow w.heap.size cs.toArray).heap[w.heap.size]? = some (.cells cs.toArray 5 (0, 0)) := setRow_heap _ _ _ _ 5 (0, 0) (heap_alloc_new w _)
  refine ⟨madeCells #[.int .u8 0] len, cs.toArray, fun W => run_make_row' 22 5 (.int .u8 0) 1 Try.underlying22 info5 rfl .i64 .i64 len (by omega) (by omega) W, fun ty => ?_, ?_, ?_, Lib.lt_of_heap hrow⟩
  · have h := run_copy_row Try.prog (w.alloc (.cells (madeCells #[.int .u8 0] len) 5)) 22 22 ty 5 w.heap.size 0 len len x len cap (madeCells #[.int .u8 0] len) 5 cs Try.underlying22 size5 (heap_alloc_new w _) (by rw [hcl]; exact (Nat.min_self _).symm) ?_ (by omega) ?_
    · rw [hY, hcl] at h
      exact h
    · intro j v hj
      refine Lib.cell?_alloc_marked _ ?_
      have hjl : j < len := by have := (List.getElem?_eq_some_iff.1 hj).1; omega
      rw [hc j (by omega)]
      rw [hcs] at hj
      simp [hjl] at hj
      obtain ⟨u, hu, rfl⟩ := hj
      simp [List.getD_eq_getElem?_getD, hu]
    · intro v hv
      rw [hcs] at hv
      obtain ⟨u, _, rfl⟩ := List.mem_map.1 hv
      rfl
  · intro j hj
    have : (zs.take len)[j]? = some ((zs.take len).getD j 0) := by
      rw [List.getD_eq_getElem?_getD, List.getElem?_eq_getElem (by simp; omega)]; rfl
    rw [Lib.addr_add, Nat.zero_add, Lib.cell_of_heap hrow, List.getElem?_toArray, hcs, List.getElem?_map, this]
    rfl
  · exact below_setRow ((Below.refl _ _).alloc (Nat.le_refl _) _) (Nat.le_refl _) _

theorem ret_bool {b c : Bool} (h : b = c) : Ending.returned (.bool b) = .returned (.bool c) := by rw [h]

/-- The three lines hang together. -/
theorem nl_cut (l : List Int) (p q : Nat) (h : p ≤ q) : nl (l.take q) = nl (l.take p) + nl ((l.drop p).take (q - p)) := by
  unfold nl Lib.countByte
  rw [Lib.bytesOf_take, Lib.bytesOf_take, Lib.bytesOf_take, Lib.bytesOf_drop, ← List.count_append]
  congr 1
  rw [← List.take_add, show p + (q - p) = q from by omega]

set_option maxHeartbeats 400000 in
theorem cut_in (x : Addr) (len cap : Nat) (zs : List Int) (p q : Nat) (w : World) (hl : len ≤ cap) (hm : cap ≤ maxLen) (hz : zs.length = cap) (hL : len ≤ 1048576) (hpq : p ≤ q) (hq : q ≤ len)
    (hc : ∀ i, i < zs.length → w.cell? (x.add i) = some (.int .u8 (zs.getD i 0))) :
    Calls Try.prog 3 #[.slice (some x) len cap, .int .i64 p, .int .i64 q] w fun e w' => e = .returned (.bool true) ∧ Below w.heap.size w w' := by
  unfold maxLen at hm
  obtain ⟨M, Y, hmk, hcp, hcell, hb, hsz⟩ := copied x len cap zs w hl hz hL hc
  have hne := fun (w : World) => run_neq_slice_nil_any (P := Try.prog) w 22 5 (some x) len cap 0 0 Try.underlying22
  go_enter Try.func3, Try.ntmps3
  go_wp2_with fail
  refine (zbCut_yes _ _ _ _ _ _ hL).mono ?_
  rintro e w' ⟨rfl, rfl⟩
  go_wp2_with fail
  clear hmk hcp hc
  generalize hW : (w'.alloc (Obj.cells M 5)).setRow w'.heap.size Y = W2 at *
  clear hW
  have hzl : (zs.take len).length = len := by simp; omega
  generalize zs.take len = ys at *
  refine (zz_at ⟨w'.heap.size, 0, none⟩ len len q ys W2 (Nat.le_refl _) (by unfold maxLen; omega) hL hq hzl hcell).mono ?_
  rintro e w3 ⟨rfl, hb3⟩
  have hc3 : ∀ j, j < len → w3.cell? ((⟨w'.heap.size, 0, none⟩ : Addr).add j) = some (.int .u8 (ys.getD j 0)) := fun j hj => (hb3.cell (by rw [Lib.addr_add]; exact hsz)).trans (hcell j hj)
  have hs3 : w'.heap.size < w3.heap.size := Nat.lt_of_lt_of_le hsz hb3.size
  have hB3 : Below w'.heap.size w' w3 := hb.trans (hb3.mono (Nat.le_of_lt hsz))
  clear hcell hb hb3 hsz
  go_wp2_with fail
  refine (zz_at ⟨w'.heap.size, 0, none⟩ len len p ys w3 (Nat.le_refl _) (by unfold maxLen; omega) hL (by omega) hzl hc3).mono ?_
  rintro e w4 ⟨rfl, hb4⟩
  have hc4 : ∀ j, j < len → w4.cell? ((⟨w'.heap.size, 0, none⟩ : Addr).add j) = some (.int .u8 (ys.getD j 0)) := fun j hj => (hb4.cell (by rw [Lib.addr_add]; exact hs3)).trans (hc3 j hj)
  have hs4 : w'.heap.size < w4.heap.size := Nat.lt_of_lt_of_le hs3 hb4.size
  have hB4 : Below w'.heap.size w' w4 := hB3.trans (hb4.mono (Nat.le_of_lt hs3))
  clear hc3 hB3 hb4 hs3
  go_wp2_with fail
  · have hqp : q = p := by omega
    subst hqp
    rw [show ((q : Int) - (q : Int)) = ((0 : Nat) : Int) from by omega]
    refine (zz_at ⟨w'.heap.size, 0, none⟩ 0 0 0 [] w4 (Nat.le_refl _) (by unfold maxLen; omega) (by omega) (Nat.le_refl _) rfl (fun j hj => by omega)).mono ?_
    rintro e w5 ⟨rfl, hb5⟩
    have hB5 : Below w'.heap.size w' w5 := hB4.trans (hb5.mono (Nat.le_of_lt hs4))
    have hA := nl_le (ys.take q)
    have hA2 : (ys.take q).length ≤ q := List.length_take_le _ _
    rw [show nl (List.take 0 []) = 0 from rfl]
    generalize nl (ys.take q) = A at *
    have hA3 : A ≤ 1048576 := by omega
    clear hA hA2 hc4 hB4 hb5 hs4 hzl hL
    rw [show (1 + ((0 : Nat) : Int)) = 1 from rfl]
    go_wp2
    go_ret
    exact ⟨rfl, hB5⟩
  · rw [show ((q : Int) - (p : Int)) = ((q - p : Nat) : Int) from by omega]
    refine (zz_at ⟨w'.heap.size, p, none⟩ (len - p) (len - p) (q - p) (ys.drop p) w4 (Nat.le_refl _) (by unfold maxLen; omega) (by omega) (by omega) (by simp; omega) ?_).mono ?_
    · intro j hj
      have h := hc4 (p + j) (by omega)
      rw [Lib.addr_add] at h ⊢
      rw [Nat.zero_add] at h
      rw [h]
      simp [List.getD_eq_getElem?_getD]
    rintro e w5 ⟨rfl, hb5⟩
    have hB5 : Below w'.heap.size w' w5 := hB4.trans (hb5.mono (Nat.le_of_lt hs4))
    have hA := nl_le (ys.take q)
    have hA2 : (ys.take q).length ≤ q := List.length_take_le _ _
    have hcut := nl_cut ys p q hpq
    generalize nl (ys.take q) = A at *
    generalize nl (ys.take p) = C at *
    generalize nl ((ys.drop p).take (q - p)) = D at *
    have hA3 : A ≤ 1048576 := by omega
    subst hcut
    clear hA hA2 hc4 hB4 hb5 hs4 hzl hL
    go_wp2
    go_ret
    exact ⟨ret_bool (decide_eq_true (by omega)), hB5⟩

set_option maxHeartbeats 400000 in
theorem cut_in_swapped (x : Addr) (len cap : Nat) (zs : List Int) (p q : Nat) (w : World) (hl : len ≤ cap) (hm : cap ≤ maxLen) (hz : zs.length = cap) (hL : len ≤ 1048576) (hpq' : p < q) (hq : q ≤ len)
    (hc : ∀ i, i < zs.length → w.cell? (x.add i) = some (.int .u8 (zs.getD i 0))) :
    Calls Try.prog 3 #[.slice (some x) len cap, .int .i64 q, .int .i64 p] w fun e w' => e = .returned (.bool true) ∧ Below w.heap.size w w' := by
  unfold maxLen at hm
  have hpq : p ≤ q := Nat.le_of_lt hpq'
  obtain ⟨M, Y, hmk, hcp, hcell, hb, hsz⟩ := copied x len cap zs w hl hz hL hc
  have hne := fun (w : World) => run_neq_slice_nil_any (P := Try.prog) w 22 5 (some x) len cap 0 0 Try.underlying22
  go_enter Try.func3, Try.ntmps3
  go_wp2_with fail
  refine (zbCut_yes _ _ _ _ _ _ hL).mono ?_
  rintro e w' ⟨rfl, rfl⟩
  go_wp2_with fail
  clear hmk hcp hc
  generalize hW : (w'.alloc (Obj.cells M 5)).setRow w'.heap.size Y = W2 at *
  clear hW
  have hzl : (zs.take len).length = len := by simp; omega
  generalize zs.take len = ys at *
  refine (zz_at ⟨w'.heap.size, 0, none⟩ len len q ys W2 (Nat.le_refl _) (by unfold maxLen; omega) hL hq hzl hcell).mono ?_
  rintro e w3 ⟨rfl, hb3⟩
  have hc3 : ∀ j, j < len → w3.cell? ((⟨w'.heap.size, 0, none⟩ : Addr).add j) = some (.int .u8 (ys.getD j 0)) := fun j hj => (hb3.cell (by rw [Lib.addr_add]; exact hsz)).trans (hcell j hj)
  have hs3 : w'.heap.size < w3.heap.size := Nat.lt_of_lt_of_le hsz hb3.size
  have hB3 : Below w'.heap.size w' w3 := hb.trans (hb3.mono (Nat.le_of_lt hsz))
  clear hcell hb hb3 hsz
  go_wp2_with fail
  refine (zz_at ⟨w'.heap.size, 0, none⟩ len len p ys w3 (Nat.le_refl _) (by unfold maxLen; omega) hL (by omega) hzl hc3).mono ?_
  rintro e w4 ⟨rfl, hb4⟩
  have hc4 : ∀ j, j < len → w4.cell? ((⟨w'.heap.size, 0, none⟩ : Addr).add j) = some (.int .u8 (ys.getD j 0)) := fun j hj => (hb4.cell (by rw [Lib.addr_add]; exact hs3)).trans (hc3 j hj)
  have hs4 : w'.heap.size < w4.heap.size := Nat.lt_of_lt_of_le hs3 hb4.size
  have hB4 : Below w'.heap.size w' w4 := hB3.trans (hb4.mono (Nat.le_of_lt hs3))
  clear hc3 hB3 hb4 hs3
  go_wp2_with fail
  rw [show ((q : Int) - (p : Int)) = ((q - p : Nat) : Int) from by omega]
  refine (zz_at ⟨w'.heap.size, p, none⟩ (len - p) (len - p) (q - p) (ys.drop p) w4 (Nat.le_refl _) (by unfold maxLen; omega) (by omega) (by omega) (by simp; omega) ?_).mono ?_
  · intro j hj
    have h := hc4 (p + j) (by omega)
    rw [Lib.addr_add] at h ⊢
    rw [Nat.zero_add] at h
    rw [h]
    simp [List.getD_eq_getElem?_getD]
  rintro e w5 ⟨rfl, hb5⟩
  have hB5 : Below w'.heap.size w' w5 := hB4.trans (hb5.mono (Nat.le_of_lt hs4))
  have hA := nl_le (ys.take q)
  have hA2 : (ys.take q).length ≤ q := List.length_take_le _ _
  have hcut := nl_cut ys p q hpq
  generalize nl (ys.take q) = A at *
  generalize nl (ys.take p) = C at *
  generalize nl ((ys.drop p).take (q - p)) = D at *
  have hA3 : A ≤ 1048576 := by omega
  subst hcut
  clear hA hA2 hc4 hB4 hb5 hs4 hzl hL
  go_wp2
  go_ret
  exact ⟨ret_bool (decide_eq_true (by omega)), hB5⟩

/-- Longer than the bound: the law says nothing. -/
theorem cut_long (a : Option Addr) (len cap : Nat) (i j : Int) (w : World) (h : 1048576 < len) :
    Calls Try.prog 3 #[.slice a len cap, .int .i64 i, .int .i64 j] w fun e w' => e = .returned (.bool true) ∧ Below w.heap.size w w' := by
  go_enter Try.func3, Try.ntmps3
  go_wp2_with fail
  refine (zbCut_no _ _ _ _ _ _ h).mono ?_
  rintro e w' ⟨rfl, rfl⟩
  go_wp2
  go_ret
  exact ⟨rfl, Below.refl _ _⟩


set_option maxHeartbeats 1000000 in
/-- One of the two places lies outside. -/
theorem cut_out (x : Addr) (len cap : Nat) (zs : List Int) (i j : Int) (w : World) (hl : len ≤ cap) (hm : cap ≤ maxLen) (hz : zs.length = cap) (hL : len ≤ 1048576)
    (ho : (j < i ∧ j < 0) ∨ (j < i ∧ 0 ≤ j ∧ (len : Int) < i) ∨ (i ≤ j ∧ i < 0) ∨ (i ≤ j ∧ 0 ≤ i ∧ (len : Int) < j))
    (hc : ∀ i, i < zs.length → w.cell? (x.add i) = some (.int .u8 (zs.getD i 0))) :
    Calls Try.prog 3 #[.slice (some x) len cap, .int .i64 i, .int .i64 j] w fun e w' => e = .returned (.bool true) ∧ Below w.heap.size w w' := by
  unfold maxLen at hm
  obtain ⟨M, Y, hmk, hcp, hcell, hb, hsz⟩ := copied x len cap zs w hl hz hL hc
  have hne := fun (w : World) => run_neq_slice_nil_any (P := Try.prog) w 22 5 (some x) len cap 0 0 Try.underlying22
  clear hcell hsz
  rcases ho with ⟨h1, h2⟩ | ⟨h1, h2, h3⟩ | ⟨h1, h2⟩ | ⟨h1, h2, h3⟩
  all_goals
    go_enter Try.func3, Try.ntmps3
    go_wp2_with fail
    refine (zbCut_yes _ _ _ _ _ _ hL).mono ?_
    rintro e w' ⟨rfl, rfl⟩
    go_wp2
    go_ret
    exact ⟨rfl, hb⟩

set_option maxHeartbeats 1000000 in
/-- The nil text: its one place is 0. -/
theorem cut_nil (i j : Int) (w : World) :
    Calls Try.prog 3 #[.slice none 0 0, .int .i64 i, .int .i64 j] w fun e w' => e = .returned (.bool true) ∧ Below w.heap.size w w' := by
  have hne := fun (w : World) => run_neq_slice_nil_any (P := Try.prog) w 22 5 none 0 0 0 0 Try.underlying22
  by_cases h0 : i = 0 ∧ j = 0
  · obtain ⟨rfl, rfl⟩ := h0
    go_enter Try.func3, Try.ntmps3
    go_wp2_with fail
    refine (zbCut_yes _ _ _ _ _ _ (by omega)).mono ?_
    rintro e w' ⟨rfl, rfl⟩
    go_wp2_with fail
    refine (zz_nil _).mono ?_
    rintro e w3 ⟨rfl, hb3⟩
    go_wp2_with fail
    refine (zz_nil _).mono ?_
    rintro e w4 ⟨rfl, hb4⟩
    go_wp2_with fail
    refine (zz_nil _).mono ?_
    rintro e w5 ⟨rfl, hb5⟩
    go_wp2
    go_ret
    exact ⟨rfl, (hb3.trans (hb4.mono hb3.size)).trans (hb5.mono (Nat.le_trans hb3.size hb4.size))⟩
  · have ho : (j < i ∧ j < 0) ∨ (j < i ∧ 0 ≤ j ∧ 0 < i) ∨ (i ≤ j ∧ i < 0) ∨ (i ≤ j ∧ 0 ≤ i ∧ 0 < j) := by omega
    clear h0
    rcases ho with ⟨h1, h2⟩ | ⟨h1, h2, h3⟩ | ⟨h1, h2⟩ | ⟨h1, h2, h3⟩
    all_goals
      go_enter Try.func3, Try.ntmps3
      go_wp2_with fail
      refine (zbCut_yes _ _ _ _ _ _ (by omega)).mono ?_
      rintro e w' ⟨rfl, rfl⟩
      go_wp2
      go_ret
      exact ⟨rfl, Below.refl _ _⟩

/-- Any text that is not nil. -/
theorem cut_some (x : Addr) (len cap : Nat) (zs : List Int) (i j : Int) (w : World) (hl : len ≤ cap) (hm : cap ≤ maxLen) (hz : zs.length = cap)
    (hc : ∀ i, i < zs.length → w.cell? (x.add i) = some (.int .u8 (zs.getD i 0))) :
    Calls Try.prog 3 #[.slice (some x) len cap, .int .i64 i, .int .i64 j] w fun e w' => e = .returned (.bool true) ∧ Below w.heap.size w w' := by
  by_cases hL : len ≤ 1048576
  · by_cases ho : (j < i ∧ j < 0) ∨ (j < i ∧ 0 ≤ j ∧ (len : Int) < i) ∨ (i ≤ j ∧ i < 0) ∨ (i ≤ j ∧ 0 ≤ i ∧ (len : Int) < j)
    · exact cut_out x len cap zs i j w hl hm hz hL ho hc
    · obtain ⟨a, rfl⟩ := Int.eq_ofNat_of_zero_le (show 0 ≤ i by omega)
      obtain ⟨b, rfl⟩ := Int.eq_ofNat_of_zero_le (show 0 ≤ j by omega)
      by_cases hab : a ≤ b
      · exact cut_in x len cap zs a b w hl hm hz hL hab (by omega) hc
      · exact cut_in_swapped x len cap zs b a w hl hm hz hL (by omega) (by omega) hc
  · exact cut_long _ len cap i j w (by omega)

end Go.Proofs.Qxb6613825a
