/-
  THE WALK OF FnLineAtStep.
-/
import Derived.Test.Qxb6613825aCut
namespace Go.Proofs.Qxb6613825a
open Go.RowKit
set_option linter.unusedVariables false

theorem zbStep_yes (a : Option Addr) (len cap : Nat) (i : Int) (w : World) (h : len ≤ 1048576) :
    Calls Try.prog 7 #[.slice a len cap, .int .i64 i] w fun e w' => e = .returned (.bool true) ∧ w' = w := by
  go_enter Try.func7, Try.ntmps7
  go_wp2
  go_ret
  exact ⟨rfl, rfl⟩
theorem zbStep_no (a : Option Addr) (len cap : Nat) (i : Int) (w : World) (h : 1048576 < len) :
    Calls Try.prog 7 #[.slice a len cap, .int .i64 i] w fun e w' => e = .returned (.bool false) ∧ w' = w := by
  go_enter Try.func7, Try.ntmps7
  go_wp2
  go_ret
  exact ⟨rfl, rfl⟩

theorem byte_ten (c : Int) (h0 : 0 ≤ c) (h1 : c < 256) : ((UInt8.ofNat c.toNat) == 10) = (c == 10) := by
  rw [Bool.eq_iff_iff, beq_iff_eq, beq_iff_eq, ← UInt8.toNat_inj]
  simp
  omega

/-- One step further: one more, or as many. -/
theorem nl_step (l : List Int) (i : Nat) (hi : i < l.length) (h0 : 0 ≤ l.getD i 0) (h1 : l.getD i 0 < 256) : nl (l.take (i + 1)) = nl (l.take i) + if (l.getD i 0 == 10) = true then 1 else 0 := by
  rw [nl_cut l i (i + 1) (by omega)]
  congr 1
  have e : (l.drop i).take (i + 1 - i) = [l.getD i 0] := by
    rw [show i + 1 - i = 1 from by omega, List.drop_eq_getElem_cons hi, List.getD_eq_getElem?_getD, List.getElem?_eq_getElem hi]
    rfl
  rw [e]
  generalize l.getD i 0 = c at *
  unfold nl Lib.countByte Lib.bytesOf
  rw [← byte_ten c h0 h1]
  simp [List.count_cons]

/-- Longer than the bound: the law says nothing. -/
theorem step_long (a : Option Addr) (len cap : Nat) (i : Int) (w : World) (h : 1048576 < len) :
    Calls Try.prog 4 #[.slice a len cap, .int .i64 i] w fun e w' => e = .returned (.bool true) ∧ Below w.heap.size w w' := by
  go_enter Try.func4, Try.ntmps4
  go_wp2_with fail
  refine (zbStep_no _ _ _ _ _ h).mono ?_
  rintro e w' ⟨rfl, rfl⟩
  go_wp2
  go_ret
  exact ⟨rfl, Below.refl _ _⟩

/-- The nil text. -/
theorem step_nil (i : Int) (w : World) :
    Calls Try.prog 4 #[.slice none 0 0, .int .i64 i] w fun e w' => e = .returned (.bool true) ∧ Below w.heap.size w w' := by
  have hne := fun (w : World) => run_neq_slice_nil_any (P := Try.prog) w 22 5 none 0 0 0 0 Try.underlying22
  by_cases h : i < 0
  all_goals
    go_enter Try.func4, Try.ntmps4
    go_wp2_with fail
    refine (zbStep_yes _ _ _ _ _ (by omega)).mono ?_
    rintro e w' ⟨rfl, rfl⟩
    go_wp2_with fail
    refine (zz_nil _).mono ?_
    rintro e w3 ⟨rfl, hb3⟩
    go_wp2
    go_ret
    exact ⟨rfl, hb3⟩

set_option maxHeartbeats 1000000 in
/-- The place lies outside. -/
theorem step_out (x : Addr) (len cap : Nat) (zs : List Int) (i : Int) (w : World) (hl : len ≤ cap) (hm : cap ≤ maxLen) (hz : zs.length = cap) (hL : len ≤ 1048576)
    (ho : i < 0 ∨ (0 ≤ i ∧ (len : Int) ≤ i))
    (hc : ∀ i, i < zs.length → w.cell? (x.add i) = some (.int .u8 (zs.getD i 0))) :
    Calls Try.prog 4 #[.slice (some x) len cap, .int .i64 i] w fun e w' => e = .returned (.bool true) ∧ Below w.heap.size w w' := by
  unfold maxLen at hm
  obtain ⟨M, Y, hmk, hcp, hcell, hb, hsz⟩ := copied x len cap zs w hl hz hL hc
  have hne := fun (w : World) => run_neq_slice_nil_any (P := Try.prog) w 22 5 (some x) len cap 0 0 Try.underlying22
  rcases ho with h1 | ⟨h1, h2⟩
  all_goals
    go_enter Try.func4, Try.ntmps4
    go_wp2_with fail
    refine (zbStep_yes _ _ _ _ _ hL).mono ?_
    rintro e w' ⟨rfl, rfl⟩
    go_wp2_with fail
    clear hmk hcp hc
    generalize hW : (w'.alloc (Obj.cells M 5)).setRow w'.heap.size Y = W2 at *
    clear hW
    have hzl : (zs.take len).length = len := by simp; omega
    generalize zs.take len = ys at *
    refine (zz_at ⟨w'.heap.size, 0, none⟩ len len 0 ys W2 (Nat.le_refl _) (by unfold maxLen; omega) hL (by omega) hzl hcell).mono ?_
    rintro e w3 ⟨rfl, hb3⟩
    have hB3 : Below w'.heap.size w' w3 := hb.trans (hb3.mono (Nat.le_of_lt hsz))
    clear hcell hb hb3 hsz
    rw [List.take_zero, show (1 + ((nl []) : Int)) = 1 from rfl]
    go_wp2
    go_ret
    exact ⟨rfl, hB3⟩

set_option maxHeartbeats 1000000 in
theorem step_in (x : Addr) (len cap : Nat) (zs : List Int) (i : Nat) (w : World) (hl : len ≤ cap) (hm : cap ≤ maxLen) (hz : zs.length = cap) (hL : len ≤ 1048576)
    (hi : i < len) (hwf : ∀ n ∈ zs, 0 ≤ n ∧ n < 256)
    (hc : ∀ i, i < zs.length → w.cell? (x.add i) = some (.int .u8 (zs.getD i 0))) :
    Calls Try.prog 4 #[.slice (some x) len cap, .int .i64 i] w fun e w' => e = .returned (.bool true) ∧ Below w.heap.size w w' := by
  unfold maxLen at hm
  obtain ⟨M, Y, hmk, hcp, hcell, hb, hsz⟩ := copied x len cap zs w hl hz hL hc
  have hne := fun (w : World) => run_neq_slice_nil_any (P := Try.prog) w 22 5 (some x) len cap 0 0 Try.underlying22
  have hzl : (zs.take len).length = len := by simp; omega
  have hwf2 : ∀ n ∈ zs.take len, 0 ≤ n ∧ n < 256 := fun n hn => hwf n (List.mem_of_mem_take hn)
  go_enter Try.func4, Try.ntmps4
  go_wp2_with fail
  refine (zbStep_yes _ _ _ _ _ hL).mono ?_
  rintro e w' ⟨rfl, rfl⟩
  go_wp2_with fail
  clear hmk hcp hc hwf
  generalize hW : (w'.alloc (Obj.cells M 5)).setRow w'.heap.size Y = W2 at *
  clear hW
  generalize zs.take len = ys at *
  refine (zz_at ⟨w'.heap.size, 0, none⟩ len len 0 ys W2 (Nat.le_refl _) (by unfold maxLen; omega) hL (by omega) hzl hcell).mono ?_
  rintro e w3 ⟨rfl, hb3⟩
  have hc3 : ∀ j, j < len → w3.cell? ((⟨w'.heap.size, 0, none⟩ : Addr).add j) = some (.int .u8 (ys.getD j 0)) := fun j hj => (hb3.cell (by rw [Lib.addr_add]; exact hsz)).trans (hcell j hj)
  have hs3 : w'.heap.size < w3.heap.size := Nat.lt_of_lt_of_le hsz hb3.size
  have hB3 : Below w'.heap.size w' w3 := hb.trans (hb3.mono (Nat.le_of_lt hsz))
  clear hcell hb hb3 hsz
  rw [List.take_zero, show (1 + ((nl []) : Int)) = 1 from rfl]
  have hm2 := hwf2 (ys.getD i 0) (by rw [List.getD_eq_getElem?_getD, List.getElem?_eq_getElem (by omega)]; exact List.getElem_mem _)
  have hstep := nl_step ys i (by omega) hm2.1 hm2.2
  have hci : w3.cell? ⟨w'.heap.size, i, none⟩ = some (.int .u8 (ys.getD i 0)) := by
    have h := hc3 i hi
    rw [Lib.addr_add, Nat.zero_add] at h
    exact h
  have hA := nl_le (ys.take i)
  have hA2 : (ys.take i).length ≤ i := List.length_take_le _ _
  have hA3 : nl (ys.take i) ≤ 1048576 := by omega
  clear hm2 hwf2 hA hA2
  generalize hcv : ys.getD i 0 = c at hstep hci
  clear hcv
  have HC : Hid (∀ j, j < len → w3.cell? ((⟨w'.heap.size, 0, none⟩ : Addr).add j) = some (.int .u8 (ys.getD j 0))) := hc3
  have HS : Hid (nl (ys.take (i + 1)) = nl (ys.take i) + if (c == 10) = true then 1 else 0) := hstep
  clear hc3 hstep
  cases h10 : (c == 10)
  all_goals
    go_wp2_with fail
    rw [show ((i : Int) + 1) = ((i + 1 : Nat) : Int) from by omega]
    refine (zz_at ⟨w'.heap.size, 0, none⟩ len len (i + 1) ys w3 (Nat.le_refl _) (by unfold maxLen; omega) hL (by omega) hzl HC.out).mono ?_
    rintro e w4 ⟨rfl, hb4⟩
    have hc4 : ∀ j, j < len → w4.cell? ((⟨w'.heap.size, 0, none⟩ : Addr).add j) = some (.int .u8 (ys.getD j 0)) := fun j hj => (hb4.cell (by rw [Lib.addr_add]; exact hs3)).trans (HC.out j hj)
    have hs4 : w'.heap.size < w4.heap.size := Nat.lt_of_lt_of_le hs3 hb4.size
    have hB4 : Below w'.heap.size w' w4 := hB3.trans (hb4.mono (Nat.le_of_lt hs3))
    have hst := HS.out
    clear hB3 hb4 hs3 hci HC HS
    go_wp2_with fail
    refine (zz_at ⟨w'.heap.size, 0, none⟩ len len i ys w4 (Nat.le_refl _) (by unfold maxLen; omega) hL (by omega) hzl hc4).mono ?_
    rintro e w5 ⟨rfl, hb5⟩
    have hB5 : Below w'.heap.size w' w5 := hB4.trans (hb5.mono (Nat.le_of_lt hs4))
    clear hst
    generalize nl (ys.take i) = A at *
    clear hc4 hs4 hB4 hb5 hzl hL h10
    go_wp2
    go_ret
    refine ⟨ret_bool ?_, hB5⟩
    first | rfl | (rw [beq_iff_eq]; omega)

/-- Any text that is not nil. -/
theorem step_some (x : Addr) (len cap : Nat) (zs : List Int) (i : Int) (w : World) (hl : len ≤ cap) (hm : cap ≤ maxLen) (hz : zs.length = cap) (hwf : ∀ n ∈ zs, 0 ≤ n ∧ n < 256)
    (hc : ∀ i, i < zs.length → w.cell? (x.add i) = some (.int .u8 (zs.getD i 0))) :
    Calls Try.prog 4 #[.slice (some x) len cap, .int .i64 i] w fun e w' => e = .returned (.bool true) ∧ Below w.heap.size w w' := by
  by_cases hL : len ≤ 1048576
  · by_cases ho : i < 0 ∨ (0 ≤ i ∧ (len : Int) ≤ i)
    · exact step_out x len cap zs i w hl hm hz hL ho hc
    · obtain ⟨a, rfl⟩ := Int.eq_ofNat_of_zero_le (show 0 ≤ i by omega)
      exact step_in x len cap zs a w hl hm hz hL (by omega) hwf hc
  · exact step_long _ len cap i w (by omega)

end Go.Proofs.Qxb6613825a
