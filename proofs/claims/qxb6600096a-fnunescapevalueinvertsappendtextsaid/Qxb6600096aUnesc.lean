/-
  THE WALKS OF (*strings.Builder).copyCheck AND WriteByte AT A BUILDER THAT HAS BEEN USED, OF unescapeValue AND OF zzWellFormed.
-/
import Derived.Test.Qxb6600096aShelf
import Derived.Test.Qxb6600096aEsc
import Derived.Test.Qxb6600096aJoin
namespace Go.Proofs.Qxb6600096a
open Go.RowKit Plain
set_option linter.unusedVariables false

theorem size68 : (Try.prog.info? 68).map (·.size) = some 2 := by kernel_rfl

set_option maxHeartbeats 1000000 in
set_option maxRecDepth 100000 in
theorem copyCheck (b : Nat) (w : World) (h0 : w.cell? ⟨b, 0, none⟩ = some (.pointer (some ⟨b, 0, none⟩))) :
    Calls Try.prog 43 #[.pointer (some ⟨b, 0, none⟩)] w fun e w' => e = .returned (.tuple #[]) ∧ w' = w := by
  obtain ⟨j, hj, _⟩ := Option.map_eq_some_iff.1 size68
  go_enter Try.func43, Try.ntmps43
  go_wp2
  rw [Lib.run_neq_ptr_same w _ Try.underlying66 hj]
  go_wp2
  go_end0
  exact ⟨rfl, rfl⟩

set_option maxHeartbeats 1000000 in
set_option maxRecDepth 100000 in
theorem writeByte (B b : Nat) (bs : List Value) (c : Int) (w : World) (h : Lib.BuilderAt 68 5 B b (.pointer (some ⟨b, 0, none⟩)) bs w) (hlen : bs.length + 1 ≤ 140737488355328) (hBw : B ≤ w.heap.size) :
    Calls Try.prog 38 #[.pointer (some ⟨b, 0, none⟩), .int .u8 c] w fun e w' => e = .returned .nilIface ∧ (Lib.BuilderAt 68 5 B b (.pointer (some ⟨b, 0, none⟩)) (bs ++ [.int .u8 c]) w' ∧ Below B w w') := by
  obtain ⟨i0, hi, hz0, hz1, hz2⟩ := info_parts info5
  have H0 := h.cell0
  obtain ⟨hB, v, hbk, hown, hne⟩ := h
  have c1 : w.cell? ⟨b, 1, none⟩ = some v := by rw [Lib.cell_of_heap hbk]; rfl
  have hlt := Lib.lt_of_heap hbk
  have HBK : Hid (w.heap[b]? = some (.cells #[.pointer (some ⟨b, 0, none⟩), v] 68 (0, 0))) := hbk
  clear hbk
  go_enter Try.func38, Try.ntmps38
  go_wp2_with fail
  refine (copyCheck b _ H0).mono ?_
  rintro e w1 ⟨rfl, rfl⟩
  go_wp2_with (at_builtin; refine wpList_append_own _ rfl _ _ 33 rfl B 5 i0 (.int .u8 0) 1 1 Try.underlying33 hi hz0 hz1 hz2 rfl (by decide) _ _ _ rfl (hown.alloc _) ⟨w1.heap.size, 0, none⟩ 1 1 [.int .u8 c] rfl rfl ?c1 ?c2 ?c3 ?c4 ?c5 ?_)
  case c1 =>
    intro j u hj
    match j, hj with
    | 0, hj => simp at hj; subst hj; simp [Addr.add]
  case c2 => intro u hu; simp at hu; subst hu; rfl
  case c3 => unfold maxLen; omega
  case c4 => omega
  case c5 => simp; omega
  intro v' w2 hown' hgrow _
  have hb2 : w2.heap[b]? = some (.cells #[.pointer (some ⟨b, 0, none⟩), v] 68 (0, 0)) := by
    rw [hgrow.block b (by simp; omega) (fun e => hne e.symm), Below.heap_alloc w1 _ b hlt]
    exact HBK.out
  have d1 : w2.cell? ⟨b, 1, none⟩ = some v := by rw [Lib.cell_of_heap hb2]; rfl
  have f1 : w2.frozen? ⟨b, 1, none⟩ = false := Lib.frozen_of_heap hb2 1
  have hbel : Below B w1 w2 := by
    refine ((Below.refl B w1).alloc hBw _).grown hgrow (by simp; omega) fun k hk => ?_
    rcases hown.2 with ⟨rfl, _⟩ | ⟨g, cap, cur, rfl, hBg, _⟩
    · simp [Value.ownBlock] at hk
    · simp only [Value.ownBlock, Option.some.injEq] at hk
      omega
  obtain ⟨g, cap, rfl⟩ : ∃ g cap, v' = .slice (some ⟨g, 0, none⟩) (bs.length + 1) cap := by
    rcases hown'.2 with ⟨_, h0⟩ | ⟨g, cap, cur, hv, _⟩
    · omega
    · exact ⟨g, cap, hv⟩
  have HO : Hid (w2.ownsRow B 5 1 (.slice (some ⟨g, 0, none⟩) (bs.length + 1) cap) (bs.length + 1) (bs ++ [.int .u8 c])) := hown'
  have HB2 : Hid (w2.heap[b]? = some (.cells #[.pointer (some ⟨b, 0, none⟩), v] 68 (0, 0))) := hb2
  clear hown' hgrow hown hb2
  go_wp2
  go_ret
  refine ⟨rfl, ?_, ?_⟩
  · exact Lib.BuilderAt.put (T := 68) (e := 5) hB HB2.out (bs' := bs ++ [.int .u8 c]) (by simpa using HO.out) (by decide)
  · exact hbel.setCell (p := ⟨b, 1, none⟩) hB _

/-- The cells of a builder that holds the first j bytes of v. -/
def held (v : ByteArray) (j : Nat) : List Value := Lib.byteCells (v.data.toList.take j)
theorem held_length (v : ByteArray) (j : Nat) : (held v j).length ≤ v.size := by
  rw [held, Lib.byteCells_length, List.length_take, Array.length_toList]
  exact Nat.min_le_right _ _
theorem held_next (v : ByteArray) (j : Nat) (hj : j < v.size) : held v (j + 1) = held v j ++ [.int .u8 ((v[j].toNat : Nat) : Int)] := by
  have hl : j < v.data.toList.length := hj
  unfold held
  rw [List.take_succ_eq_append_getElem hl]
  simp only [Lib.byteCells, List.map_append, List.map_cons, List.map_nil]
  rfl

set_option maxHeartbeats 2000000 in
set_option maxRecDepth 100000 in
/-- unescapeValue gives back the value whose escaped text it reads. -/
theorem unescape (raw v : ByteArray) (w : World) (hraw : nums raw = esc (nums v)) (hr : raw.size ≤ 4194304) (hvz : v.size ≤ 1048576) :
    Calls Try.prog 33 #[.string raw] w fun e w' => e = .returned (.string v) ∧ Below w.heap.size w w' := by
  have HR : Hid (nums raw = esc (nums v)) := hraw
  clear hraw
  go_enter Try.func33, Try.ntmps33
  go_wp2_with fail
  refine (Try.Builder_Grow_fresh w.heap.size w.heap.size raw.size _ (Nat.le_refl _) (heap_alloc_new w _) (by simp) (by omega)).mono ?_
  rintro e w1 ⟨rfl, hb1, hbel1⟩
  have HB1 : Hid (Lib.BuilderAt 68 5 w.heap.size w.heap.size (.pointer (some ⟨w.heap.size, 0, none⟩)) (held v 0) w1) := hb1
  have bel1 : Below w.heap.size w w1 := ((Below.refl _ _).alloc (Nat.le_refl _) _).trans hbel1
  clear hb1 hbel1
  go_wp2_with fail
  go_loopw [4] (fun i wr => ∃ (p j : Nat), j ≤ v.size ∧ p = (esc ((nums v).take j)).length ∧ i = .int .i64 p ∧ Lib.BuilderAt 68 5 w.heap.size w.heap.size (.pointer (some ⟨w.heap.size, 0, none⟩)) (held v j) wr ∧ Below w.heap.size w wr) (fun i _ => raw.size - (intOf i).toNat)
  case atStart => exact ⟨0, 0, Nat.zero_le _, rfl, rfl, HB1.out, bel1⟩
  case round =>
    obtain ⟨p, j, hj, hp, rfl, hbd, hbel⟩ := hrel
    have HP : Hid (p = (esc ((nums v).take j)).length) := hp
    have HBd : Hid (Lib.BuilderAt 68 5 w.heap.size w.heap.size (.pointer (some ⟨w.heap.size, 0, none⟩)) (held v j) wr) := hbd
    have hl := held_length v j
    have hsz := hbel.size
    clear hp hbd HB1 bel1
    by_cases hlt : j < v.size
    · have HN : Hid (held v (j + 1) = held v j ++ [.int .u8 ((v[j].toNat : Nat) : Int)]) := held_next v j hlt
      rcases esc_at v raw HR.out j p HP.out hlt with ⟨h0, h1, e0, e1, hq⟩ | ⟨h0, e0, e1, hq⟩
      · have HQ : Hid (p + 2 = (esc ((nums v).take (j + 1))).length) := hq
        obtain ⟨x, hx⟩ : ∃ x, v[j]'hlt = x := ⟨_, rfl⟩
        rw [hx] at e1 HN
        have t0 : (((raw[p]'h0).toNat : Int) == 92) = true := beq_iff_eq.2 (by omega)
        clear hq e0 hx
        go_wp2_with fail
        refine (writeByte w.heap.size w.heap.size (held v j) (x.toNat : Int) wr HBd.out (by omega) hsz).mono ?_
        rintro e w2 ⟨rfl, hb2, hbel2⟩
        have HB2 : Hid (Lib.BuilderAt 68 5 w.heap.size w.heap.size (.pointer (some ⟨w.heap.size, 0, none⟩)) (held v (j + 1)) w2) := by
          show Lib.BuilderAt _ _ _ _ _ _ _
          rw [HN.out]; exact hb2
        have bel2 := hbel.trans hbel2
        clear hb2 hbel2 HBd hbel
        go_wp2
        go_roundw
        case rel => exact ⟨p + 2, j + 1, by omega, HQ.out, by go_num, HB2.out, bel2⟩
        case measure => simp [intOf]; omega
      · have HQ : Hid (p + 1 = (esc ((nums v).take (j + 1))).length) := hq
        obtain ⟨x, hx⟩ : ∃ x, v[j]'hlt = x := ⟨_, rfl⟩
        rw [hx] at e1 HN
        have t0 : (((raw[p]'h0).toNat : Int) == 92) = false := beq_eq_false_iff_ne.2 (by omega)
        rw [e1] at t0
        clear hq e0 hx
        go_wp2_with fail
        refine (writeByte w.heap.size w.heap.size (held v j) (x.toNat : Int) wr HBd.out (by omega) hsz).mono ?_
        rintro e w2 ⟨rfl, hb2, hbel2⟩
        have HB2 : Hid (Lib.BuilderAt 68 5 w.heap.size w.heap.size (.pointer (some ⟨w.heap.size, 0, none⟩)) (held v (j + 1)) w2) := by
          show Lib.BuilderAt _ _ _ _ _ _ _
          rw [HN.out]; exact hb2
        have bel2 := hbel.trans hbel2
        clear hb2 hbel2 HBd hbel
        go_wp2
        go_roundw
        case rel => exact ⟨p + 1, j + 1, by omega, HQ.out, by go_num, HB2.out, bel2⟩
        case measure => simp [intOf]; omega
    · have hpe : p = raw.size := esc_end v raw HR.out j p HP.out (by omega)
      have hpl : ¬ (p : Int) < (raw.size : Int) := by omega
      have HB3 : Hid (Lib.IsBuilder 68 5 w.heap.size w.heap.size (Lib.byteCells v.data.toList) wr) := by
        have e : held v j = Lib.byteCells v.data.toList := by
          unfold held; rw [List.take_of_length_le (by rw [Array.length_toList]; show v.size ≤ j; omega)]
        have h := HBd.out
        rw [e] at h
        exact .inr h
      clear hpe HBd HP
      go_wp2_with fail
      refine (Try.Builder_String_any w.heap.size w.heap.size v.data.toList wr HB3.out hsz).mono ?_
      rintro e w2 ⟨rfl, hbel2⟩
      have bel2 := hbel.trans hbel2
      clear hbel2 hbel HB3
      go_wp2
      go_ret
      exact ⟨rfl, bel2⟩

theorem zzUnescape (raw v : ByteArray) (w : World) (hraw : nums raw = esc (nums v)) (hr : raw.size ≤ 4194304) (hvz : v.size ≤ 1048576) :
    Calls Try.prog 13 #[.string raw] w fun e w' => e = .returned (.string v) ∧ Below w.heap.size w w' := by
  have H := unescape raw v w hraw hr hvz
  clear hraw
  go_enter Try.func13, Try.ntmps13
  go_wp2_with fail
  refine H.mono ?_
  rintro e w' ⟨rfl, hb⟩
  clear H
  go_wp2
  go_ret
  exact ⟨rfl, hb⟩

set_option maxHeartbeats 2000000 in
set_option maxRecDepth 100000 in
/-- An escaped text is well formed. -/
theorem wellFormed (raw v : ByteArray) (w : World) (hraw : nums raw = esc (nums v)) (hr : raw.size ≤ 4194304) :
    Calls Try.prog 12 #[.string raw] w fun e w' => e = .returned (.bool true) ∧ w' = w := by
  have HR : Hid (nums raw = esc (nums v)) := hraw
  clear hraw
  go_enter Try.func12, Try.ntmps12
  go_wp2_with fail
  go_loop [3] (fun i => ∃ (p j : Nat), j ≤ v.size ∧ p = (esc ((nums v).take j)).length ∧ i = .int .i64 p) (fun i => raw.size - (intOf i).toNat)
  case atStart => exact ⟨0, 0, Nat.zero_le _, rfl, rfl⟩
  case round =>
    obtain ⟨p, j, hj, hp, rfl⟩ := hrel
    have HP : Hid (p = (esc ((nums v).take j)).length) := hp
    clear hp
    by_cases hlt : j < v.size
    · rcases esc_at v raw HR.out j p HP.out hlt with ⟨h0, h1, e0, e1, hq⟩ | ⟨h0, e0, e1, hq⟩
      · have HQ : Hid (p + 2 = (esc ((nums v).take (j + 1))).length) := hq
        have t0 : (((raw[p]'h0).toNat : Int) == 92) = true := beq_iff_eq.2 (by omega)
        clear hq e0 e1
        go_wp2
        go_round
        case rel => exact ⟨p + 2, j + 1, by omega, HQ.out, by go_num⟩
        case measure => simp [intOf]; omega
      · have HQ : Hid (p + 1 = (esc ((nums v).take (j + 1))).length) := hq
        have t0 : (((raw[p]'h0).toNat : Int) == 92) = false := beq_eq_false_iff_ne.2 (by omega)
        clear hq e0 e1
        go_wp2
        go_round
        case rel => exact ⟨p + 1, j + 1, by omega, HQ.out, by go_num⟩
        case measure => simp [intOf]; omega
    · have hpe : p = raw.size := esc_end v raw HR.out j p HP.out (by omega)
      have hpl : ¬ (p : Int) < (raw.size : Int) := by omega
      clear hpe
      go_wp2
      go_ret
      exact ⟨rfl, rfl⟩

end Go.Proofs.Qxb6600096a
