/-
  THE WALK OF zzAlts: a fresh row of alternatives.
-/
import Derived.Test.Qxb6600096aIn
import Derived.Deep.RegionHeld3
import Derived.Laws.MakeOwn
namespace Go.Proofs.Qxb6600096a
open Go.RowKit Plain
set_option linter.unusedVariables false

def zeroAlt : Value := .agg #[.string ⟨#[]⟩, .int .u8 0, .string ⟨#[]⟩]
theorem info29 : (Try.prog.info? 29).map (fun i => (i.zero, i.size, i.bytes)) = some (some zeroAlt, 3, 40) := by kernel_rfl

theorem heap_set {w : World} {G i : Nat} {cur : Array Value} {t : TypeId} {fr : Nat × Nat} (h : w.heap[G]? = some (.cells cur t fr)) (v : Value) : (w.setCell ⟨G, i, none⟩ v).heap[G]? = some (.cells (cur.setIfInBounds i v) t fr) := by
  rw [setCell_eq_setRow w G i cur t fr v h]
  exact setRow_heap w G cur _ t fr h

/-- Three cells laid over a row. -/
theorem set3 (R D : List Value) (a b c x y z : Value) (j : Nat) (hj : R.length = j) : (((R ++ x :: y :: z :: D).set j a).set (j + 1) b).set (j + 1 + 1) c = R ++ a :: b :: c :: D := by
  subst hj
  rw [List.set_append_right _ _ (Nat.le_refl _), Nat.sub_self, List.set_cons_zero]
  rw [List.set_append_right _ _ (by omega), show R.length + 1 - R.length = 1 from by omega]
  rw [List.set_append_right _ _ (by omega), show R.length + 1 + 1 - R.length = 2 from by omega]
  rfl

theorem far3 {w : World} {G i i' i'' : Nat} {a b c v : Value} {p : Addr} (h : w.cell? p = some v) (hp : p.block < G) : (((w.setCell ⟨G, i, none⟩ a).setCell ⟨G, i', none⟩ b).setCell ⟨G, i'', none⟩ c).drew.cell? p = some v := by
  show (((w.setCell ⟨G, i, none⟩ a).setCell ⟨G, i', none⟩ b).setCell ⟨G, i'', none⟩ c).cell? p = some v
  have hne : ∀ x : Nat, (⟨G, x, none⟩ : Addr) ≠ p := fun x e => by rw [← e] at hp; exact Nat.lt_irrefl _ hp
  rw [World.cell?_setCell_other _ _ _ _ (hne _), World.cell?_setCell_other _ _ _ _ (hne _), World.cell?_setCell_other _ _ _ _ (hne _)]
  exact h

theorem laid_step (al : List (ByteArray × Int × ByteArray)) (M : Array Value) (m j : Nat) (x : ByteArray × Int × ByteArray) (hM : M.size = m * 3) (hj : j < m) (hx : al[j]? = some x) :
    ((((row (al.take j) ++ M.toList.drop (3 * j)).toArray.setIfInBounds (j * 3) (.string x.1)).setIfInBounds (j * 3 + 1) (.int .u8 x.2.1)).setIfInBounds (j * 3 + 2) (.string x.2.2)) = (row (al.take (j + 1)) ++ M.toList.drop (3 * (j + 1))).toArray := by
  have hk : j < al.length := (List.getElem?_eq_some_iff.1 hx).1
  have hx' : al[j] = x := (List.getElem?_eq_some_iff.1 hx).2
  have hl : M.toList.length = m * 3 := by rw [Array.length_toList]; exact hM
  obtain ⟨a, b, c, D, hD⟩ : ∃ a b c D, M.toList.drop (3 * j) = a :: b :: c :: D := by
    have h : 3 ≤ (M.toList.drop (3 * j)).length := by rw [List.length_drop, hl]; omega
    match hm : M.toList.drop (3 * j), h with
    | a :: b :: c :: D, _ => exact ⟨a, b, c, D, rfl⟩
  have hD2 : M.toList.drop (3 * (j + 1)) = D := by
    rw [show 3 * (j + 1) = 3 * j + 3 from by omega, ← List.drop_drop, hD]
    rfl
  apply Array.ext'
  simp only [Array.toList_setIfInBounds]
  rw [hD, hD2, set3 _ _ _ _ _ _ _ _ (j * 3) (by rw [row_length, List.length_take]; omega), List.take_succ_eq_append_getElem hk, hx', row_append]
  simp [row]

/-- Whose alternatives: field, condition and value of each place. -/
def Zip (al : List (ByteArray × Int × ByteArray)) (fs : List ByteArray) (zs : List Int) (vs : List ByteArray) : Prop :=
  ∀ (i : Nat) (x : ByteArray × Int × ByteArray), al[i]? = some x → fs[i]? = some x.1 ∧ zs[i]? = some x.2.1 ∧ vs[i]? = some x.2.2

/-- What zzAlts leaves. -/
def Laid (al : List (ByteArray × Int × ByteArray)) (w : World) (m : Nat) (e : Ending) (w' : World) : Prop :=
  e = .returned (.slice (some ⟨w.heap.size, 0, none⟩) m m) ∧ w'.heap[w.heap.size]? = some (.cells (row al).toArray 29 (0, 0)) ∧ Below w.heap.size w w'

set_option maxHeartbeats 2000000 in
set_option maxRecDepth 100000 in
theorem zzAlts (a0 a1 a2 : Option Addr) (n0 c0 n1 c1 n2 c2 : Nat) (fs vs : List ByteArray) (zs : List Int) (al : List (ByteArray × Int × ByteArray)) (lo m : Nat) (w : World) (hf : Strs w w.heap.size a0 n0 fs) (hc : Byts w w.heap.size a1 n1 zs) (hv : Strs w w.heap.size a2 n2 vs)
    (hz : Zip al fs zs vs) (hal : al.length ≤ 65536) (hm : lo + m ≤ al.length) (hm0 : 0 < m) :
    Calls Try.prog 22 #[.slice a0 n0 c0, .slice a1 n1 c1, .slice a2 n2 c2, .int .i64 lo, .int .i64 ((lo + m : Nat) : Int)] w (Laid ((al.drop lo).take m) w m) := by
  obtain ⟨hi, hhi⟩ : ∃ hi, hi = lo + m := ⟨_, rfl⟩
  rw [← hhi]
  have hsub : ((hi : Int) - (lo : Int)) = (m : Int) := by omega
  obtain ⟨i0, hi0, hz0, hz1, hz2⟩ := info_parts info29
  have hmk : ∀ W : World, (Instr.makeSlice 30 (.int .i64 (m : Int)) (.int .i64 (m : Int))).run Try.prog W = .ok (.slice (some ⟨W.heap.size, 0, none⟩) m m) (W.alloc (.cells (madeCells zeroAlt.cells (m * 3)) 29)) := fun W => by
    have h := run_make (P := Try.prog) W 30 29 i0 zeroAlt Try.underlying30 hi0 hz0 .i64 .i64 (m : Int) (m : Int) (by omega) (Int.le_refl _) (by rw [hz2]; omega) (by omega)
    simpa [hz1] using h
  obtain ⟨M, hM⟩ : ∃ M, M = madeCells zeroAlt.cells (m * 3) := ⟨_, rfl⟩
  have hMs : M.size = m * 3 := by rw [hM]; exact size_madeCells _ _
  rw [← hM] at hmk
  clear hM hz0 hz1 hz2
  have h30 : lo ≤ 65536 := by omega
  have hm2 : m ≤ 65536 := by omega
  have hhi2 : hi ≤ 65536 := by omega
  have HH : Hid (hi = lo + m) := hhi
  have HF : Hid (Strs w w.heap.size a0 n0 fs) := hf
  have HC : Hid (Byts w w.heap.size a1 n1 zs) := hc
  have HV : Hid (Strs w w.heap.size a2 n2 vs) := hv
  have HZ : Hid (Zip al fs zs vs) := hz
  have HM : Hid (M.size = m * 3) := hMs
  clear hf hc hv hz hhi hMs
  go_enter Try.func22, Try.ntmps22
  go_wp2_with fail
  go_loopw [12] (fun i wr => ∃ (k j : Nat), k = lo + j ∧ j ≤ m ∧ i = .int .i64 k ∧ wr.heap[w.heap.size]? = some (.cells (row ((al.drop lo).take j) ++ M.toList.drop (3 * j)).toArray 29 (0, 0)) ∧ Below w.heap.size w wr) (fun i _ => hi - (intOf i).toNat)
  case atStart => exact ⟨lo, 0, rfl, Nat.zero_le _, rfl, by rw [List.take_zero, show row [] = [] from rfl, List.nil_append, Nat.mul_zero, List.drop_zero, Array.toArray_toList]; exact heap_alloc_new w _, (Below.refl _ _).alloc (Nat.le_refl _) _⟩
  case round =>
    obtain ⟨k, j, hkj, hj, rfl, hrow, hbel⟩ := hrel
    have HK : Hid (k = lo + j) := hkj
    by_cases hlt : j < m
    · obtain ⟨x, hx⟩ : ∃ x, al[k]? = some x := ⟨al[k]'(by omega), List.getElem?_eq_getElem _⟩
      obtain ⟨x1, x2, x3⟩ := HZ.out k x hx
      have hk0 : k < n0 := by have := (List.getElem?_eq_some_iff.1 x1).1; have := HF.out.1; omega
      have hk1 : k < n1 := by have := (List.getElem?_eq_some_iff.1 x2).1; have := HC.out.1; omega
      have hk2 : k < n2 := by have := (List.getElem?_eq_some_iff.1 x3).1; have := HV.out.1; omega
      obtain ⟨b0, o0, rfl, bB0, hf⟩ := HF.out.2 (by omega)
      obtain ⟨b1, o1, rfl, bB1, hc⟩ := HC.out.2 (by omega)
      obtain ⟨b2, o2, rfl, bB2, hv⟩ := HV.out.2 (by omega)
      have q0 : wr.cell? ⟨b0, o0 + k, none⟩ = some (.string x.1) := (hbel.cell (p := ⟨b0, o0 + k, none⟩) bB0).trans (hf k _ x1)
      have q1 : wr.cell? ⟨b1, o1 + k, none⟩ = some (.int .u8 x.2.1) := (hbel.cell (p := ⟨b1, o1 + k, none⟩) bB1).trans (hc k _ x2)
      have q2 : wr.cell? ⟨b2, o2 + k, none⟩ = some (.string x.2.2) := (hbel.cell (p := ⟨b2, o2 + k, none⟩) bB2).trans (hv k _ x3)
      have HX : Hid (al[k]? = some x) := hx
      have hkl : ((k : Int) - (lo : Int)) = (j : Int) := by omega
      have hkw : IntKind.i64.wrap (j : Int) = (j : Int) := by rw [IntKind.wrap_i64]; omega
      have hki : (k : Int) < (hi : Int) := by have := HH.out; omega
      have i0' : (0 : Int) ≤ (k : Int) := by omega
      have i1' : (k : Int) < (n0 : Int) := by omega
      have i2' : (k : Int) < (n1 : Int) := by omega
      have i3' : (k : Int) < (n2 : Int) := by omega
      have i4' : (0 : Int) ≤ (j : Int) := by omega
      have i5' : (j : Int) < (m : Int) := by omega
      have hcl : (row ((al.drop lo).take j) ++ M.toList.drop (3 * j)).length = m * 3 := by
        have hMl : M.toList.length = m * 3 := by rw [Array.length_toList]; exact HM.out
        rw [List.length_append, row_length, List.length_take, List.length_drop, List.length_drop, hMl]; omega
      have HR : Hid (wr.heap[w.heap.size]? = some (.cells (row ((al.drop lo).take j) ++ M.toList.drop (3 * j)).toArray 29 (0, 0))) := hrow
      obtain ⟨d0, s0⟩ : ∃ v, wr.cell? ⟨w.heap.size, j * 3, none⟩ = some v := by
        rw [Lib.cell_of_heap hrow]; exact ⟨_, Array.getElem?_eq_getElem (by rw [List.size_toArray, hcl]; omega)⟩
      obtain ⟨d1, s1⟩ : ∃ v, wr.cell? ⟨w.heap.size, j * 3 + 1, none⟩ = some v := by
        rw [Lib.cell_of_heap hrow]; exact ⟨_, Array.getElem?_eq_getElem (by rw [List.size_toArray, hcl]; omega)⟩
      obtain ⟨d2, s2⟩ : ∃ v, wr.cell? ⟨w.heap.size, j * 3 + 1 + 1, none⟩ = some v := by
        rw [Lib.cell_of_heap hrow]; exact ⟨_, Array.getElem?_eq_getElem (by rw [List.size_toArray, hcl]; omega)⟩
      have f0 : wr.frozen? ⟨w.heap.size, j * 3, none⟩ = false := by unfold World.frozen?; rw [hrow]; simp
      have f1 : wr.frozen? ⟨w.heap.size, j * 3 + 1, none⟩ = false := by unfold World.frozen?; rw [hrow]; simp
      have f2 : wr.frozen? ⟨w.heap.size, j * 3 + 1 + 1, none⟩ = false := by unfold World.frozen?; rw [hrow]; simp
      have ne0 : w.heap.size ≠ b0 := by omega
      have ne1 : w.heap.size ≠ b1 := by omega
      have ne2 : w.heap.size ≠ b2 := by omega
      obtain ⟨f, c, v⟩ := x
      simp only at q0 q1 q2
      clear hkj hx x1 x2 x3 hf hc hv hrow hcl HF HC HV HZ
      go_wp2_with fail
      go_region_held3 (fun w' => w'.cell? ⟨b0, o0 + k, none⟩ = some (.string f) ∧ w'.cell? ⟨b1, o1 + k, none⟩ = some (.int .u8 c) ∧ w'.cell? ⟨b2, o2 + k, none⟩ = some (.string v)) (go_keep) (fail)
      go_wp2
      have HL : Hid ((((wr.setCell ⟨w.heap.size, j * 3, none⟩ (.string f)).setCell ⟨w.heap.size, j * 3 + 1, none⟩ (.int .u8 c)).setCell ⟨w.heap.size, j * 3 + 2, none⟩ (.string v)).drew.heap[w.heap.size]? = some (.cells (row ((al.drop lo).take (j + 1)) ++ M.toList.drop (3 * (j + 1))).toArray 29 (0, 0))) := by
        have h1 := heap_set (i := j * 3 + 2) (heap_set (i := j * 3 + 1) (heap_set (i := j * 3) HR.out (.string f)) (.int .u8 c)) (.string v)
        have hx : (al.drop lo)[j]? = some (f, c, v) := by rw [List.getElem?_drop, ← HK.out]; exact HX.out
        rw [laid_step (al.drop lo) M m j (f, c, v) HM.out hlt hx] at h1
        exact h1
      have HB : Hid (Below w.heap.size w (((wr.setCell ⟨w.heap.size, j * 3, none⟩ (.string f)).setCell ⟨w.heap.size, j * 3 + 1, none⟩ (.int .u8 c)).setCell ⟨w.heap.size, j * 3 + 2, none⟩ (.string v)).drew) :=
        (((hbel.setCell (Nat.le_refl _) _).setCell (Nat.le_refl _) _).setCell (Nat.le_refl _) _).drew
      exact ⟨⟨k + 1, j + 1, by have := HK.out; omega, by omega, by go_num, HL.out, HB.out⟩, by simp [intOf]; omega⟩
    · have hjm : j = m := by omega
      have hkh : ¬ (k : Int) < (hi : Int) := by have := HH.out; omega
      have HR : Hid (wr.heap[w.heap.size]? = some (.cells (row ((al.drop lo).take m)).toArray 29 (0, 0))) := by
        show _ = _
        have e : M.toList.drop (3 * m) = [] := List.drop_of_length_le (by rw [Array.length_toList, HM.out]; omega)
        rw [hrow, hjm, e, List.append_nil]
      clear hrow hjm hkj
      go_wp2
      go_ret
      exact ⟨rfl, HR.out, hbel⟩

end Go.Proofs.Qxb6600096a
