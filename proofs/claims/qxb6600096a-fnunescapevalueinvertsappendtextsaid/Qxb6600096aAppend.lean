/-
  THE WALK OF appendText onto nil.
-/
import Derived.Test.Qxb6600096aOwns
import Derived.Lib.Buffer
namespace Go.Proofs.Qxb6600096a
open Go.RowKit Plain
set_option linter.unusedVariables false

set_option maxHeartbeats 400000 in
/-- No alternative: nil. -/
theorem append_none (a : Option Addr) (c : Nat) (w : World) :
    Calls Try.prog 34 #[.agg #[.slice a 0 c], .slice none 0 0] w fun e w' => e = .returned (.slice none 0 0) ∧ Below w.heap.size w w' := by
  go_enter Try.func34, Try.ntmps34
  go_wp2_with fail
  refine wp_loop_rounds 1 ?_
  rw [rounds_succ]
  go_wp2
  go_ret
  exact ⟨rfl, (Below.refl _ _).alloc (Nat.le_refl _) _⟩

/-- What stands before the value of alternative k. -/
def before (alts : List (ByteArray × Int × ByteArray)) (k : Nat) : List Int := if k = 0 then [] else text (alts.take k) ++ [124]
theorem before_text (alts : List (ByteArray × Int × ByteArray)) (k : Nat) (x : ByteArray × Int × ByteArray) (h : alts[k]? = some x) :
    before alts k ++ nums x.1 ++ [x.2.1] ++ esc (nums x.2.2) = text (alts.take (k + 1)) := by
  have hk : k < alts.length := (List.getElem?_eq_some_iff.1 h).1
  have hx : alts[k] = x := (List.getElem?_eq_some_iff.1 h).2
  rw [List.take_succ_eq_append_getElem hk, hx]
  unfold before
  by_cases h0 : k = 0
  · subst h0
    simp [text_one, alt]
  · rw [if_neg h0, text_snoc _ _ (by intro e; have := congrArg List.length e; rw [List.length_take, List.length_nil] at this; omega)]
    simp [alt]
theorem text_take_length (alts : List (ByteArray × Int × ByteArray)) (k : Nat) (hsz : ∀ x ∈ alts, x.1.size ≤ 1048576 ∧ x.2.2.size ≤ 1048576) (hN : alts.length ≤ 65536) : (text (alts.take k)).length ≤ 206158561280 := by
  have h := text_length (alts.take k) fun x hx => hsz x (List.mem_of_mem_take hx)
  have h2 : (alts.take k).length ≤ 65536 := by rw [List.length_take]; omega
  omega
theorem before_length (alts : List (ByteArray × Int × ByteArray)) (k : Nat) (hsz : ∀ x ∈ alts, x.1.size ≤ 1048576 ∧ x.2.2.size ≤ 1048576) (hN : alts.length ≤ 65536) : (before alts k).length ≤ 206158561281 := by
  have h := text_take_length alts k hsz hN
  unfold before
  split
  · simp
  · simp; omega

set_option maxHeartbeats 4000000 in
set_option maxRecDepth 100000 in
theorem append_some (alts : List (ByteArray × Int × ByteArray)) (G n : Nat) (w : World) (hn : alts.length = n) (hN : n ≤ 65536) (hsz : ∀ x ∈ alts, x.1.size ≤ 1048576 ∧ x.2.2.size ≤ 1048576)
    (hG : w.heap[G]? = some (.cells (row alts).toArray 29 (0, 0))) (hGlt : G < w.heap.size) :
    Calls Try.prog 34 #[.agg #[.slice (some ⟨G, 0, none⟩) n n], .slice none 0 0] w fun e w' => ∃ v, e = .returned v ∧ Owns w' w.heap.size v (text alts) ∧ Below w.heap.size w w' := by
  have HG : Hid (w.heap[G]? = some (.cells (row alts).toArray 29 (0, 0))) := hG
  have HS : Hid (∀ x ∈ alts, x.1.size ≤ 1048576 ∧ x.2.2.size ≤ 1048576) := hsz
  have HN : Hid (alts.length = n) := hn
  clear hG hsz hn
  go_enter Try.func34, Try.ntmps34
  go_wp2_with fail
  go_loopw [1, 11] (fun v i wr => ∃ k : Nat, k ≤ n ∧ i = .int .i64 k ∧ Owns wr w.heap.size v (text (alts.take k)) ∧ Below w.heap.size w wr) (fun _ i _ => n - (intOf i).toNat)
  case atStart => exact ⟨0, Nat.zero_le _, rfl, Owns.nil _ _, (Below.refl _ _).alloc (Nat.le_refl _) _⟩
  case round =>
    obtain ⟨k, hk, rfl, hown, hbel⟩ := hrel
    by_cases hlt : k < n
    · obtain ⟨x, hx⟩ : ∃ x, alts[k]? = some x := ⟨alts[k]'(by have := HN.out; omega), List.getElem?_eq_getElem _⟩
      obtain ⟨r1, r2, r3⟩ := row_at alts k x hx
      have hGr : wr.heap[G]? = some (.cells (row alts).toArray 29 (0, 0)) := (hbel.block G hGlt).trans HG.out
      have g1 : wr.cell? ⟨G, k * 3, none⟩ = some (.string x.1) := by unfold World.cell?; rw [hGr]; simpa using r1
      have g2 : wr.cell? ⟨G, k * 3 + 1, none⟩ = some (.int .u8 x.2.1) := by unfold World.cell?; rw [hGr]; simpa using r2
      have g3 : wr.cell? ⟨G, k * 3 + 1 + 1, none⟩ = some (.string x.2.2) := by unfold World.cell?; rw [hGr]; simpa using r3
      clear r1 r2 r3 hGr
      obtain ⟨f, c, vv⟩ := x
      have hfz := HS.out _ (List.mem_of_getElem? hx)
      have hf1 : f.size ≤ 1048576 := hfz.1
      have hf2 : vv.size ≤ 1048576 := hfz.2
      have HX : Hid (alts[k]? = some (f, c, vv)) := hx
      have hB0 : w.heap.size ≤ wr.heap.size := hbel.size
      have hlen := before_length alts k HS.out (by have := HN.out; omega)
      have hl0 : (before alts k).length ≤ 70368744177664 := by omega
      have hBA : w.heap.size ≤ (wr.alloc (.cells #[.string f, .int .u8 c, .string vv] 29)).heap.size := by simp; omega
      clear hx hfz
      have g1' : wr.cell? ⟨G, k * 3, none⟩ = some (.string f) := g1
      have g2' : wr.cell? ⟨G, k * 3 + 1, none⟩ = some (.int .u8 c) := g2
      have g3' : wr.cell? ⟨G, k * 3 + 1 + 1, none⟩ = some (.string vv) := g3
      clear g1 g2 g3
      have hA0 : (wr.alloc (.cells #[.string f, .int .u8 c, .string vv] 29)).heap[wr.heap.size]? = some (.cells #[.string f, .int .u8 c, .string vv] 29 (0, 0)) := heap_alloc_new wr _
      have HA0 : Hid ((wr.alloc (.cells #[.string f, .int .u8 c, .string vv] 29)).heap[wr.heap.size]? = some (.cells #[.string f, .int .u8 c, .string vv] 29 (0, 0))) := hA0
      have hbA : Below w.heap.size w (wr.alloc (.cells #[.string f, .int .u8 c, .string vv] 29)) := hbel.alloc hB0 _
      have htk := text_take_length alts k HS.out (by have := HN.out; omega)
      have htl : (text (alts.take k)).length ≤ 70368744177664 := by omega
      clear hA0 htk hlen
      have hB1 : w.heap.size ≤ ((wr.alloc (.cells #[.string f, .int .u8 c, .string vv] 29)).alloc (.cells #[.int .u8 124] 5)).heap.size := by simp; omega
      rcases Nat.eq_zero_or_pos k with h0 | h0
      focus
        have hown0 : Owns (wr.alloc (.cells #[.string f, .int .u8 c, .string vv] 29)) w.heap.size u1 (before alts k) := by
          have e : before alts k = text (alts.take k) := by rw [h0]; simp [before, text]
          rw [e]; exact hown.alloc _
        have h0' : ¬ (0 : Int) < (k : Int) := by omega
        clear h0 hown
        go_wp2_with (at_builtin; refine app_str (by rfl) _ _ (by rfl) w.heap.size u1 (before alts k) (by rfl) hown0 f (by rfl) hl0 hf1 hBA ?_)
        intro v2 w2 own2 grow2
        have HA2 : Hid (w2.heap[wr.heap.size]? = some (.cells #[.string f, .int .u8 c, .string vv] 29 (0, 0))) := hown0.kept (by decide) HA0.out grow2
        have bel2 : Below w.heap.size w w2 := hown0.below hbA hBA grow2
        clear hown0 grow2 h0'
      rotate_left
      focus
        have hown0 : Owns ((wr.alloc (.cells #[.string f, .int .u8 c, .string vv] 29)).alloc (.cells #[.int .u8 124] 5)) w.heap.size u1 (text (alts.take k)) := (hown.alloc _).alloc _
        have e : before alts k = text (alts.take k) ++ [124] := by unfold before; rw [if_neg (by omega)]
        have HE : Hid (before alts k = text (alts.take k) ++ [124]) := e
        have h0' : (0 : Int) < (k : Int) := by omega
        have HA1 : Hid (((wr.alloc (.cells #[.string f, .int .u8 c, .string vv] 29)).alloc (.cells #[.int .u8 124] 5)).heap[wr.heap.size]? = some (.cells #[.string f, .int .u8 c, .string vv] 29 (0, 0))) := by
          show _ = _
          rw [Below.heap_alloc _ _ _ (by simp)]
          exact HA0.out
        have hc1 : ((wr.alloc (.cells #[.string f, .int .u8 c, .string vv] 29)).alloc (.cells #[.int .u8 124] 5)).cell? ⟨wr.heap.size + 1, 0, none⟩ = some (.int .u8 124) := by
          have h := World.cell?_alloc_mark (wr.alloc (.cells #[.string f, .int .u8 c, .string vv] 29)) #[.int .u8 124] 5 (0, 0) 0
          rw [World.size_alloc] at h
          exact h
        clear h0 hown e
        go_wp2_with (at_builtin; refine app_byte (by rfl) _ _ (by rfl) w.heap.size u1 (text (alts.take k)) (by rfl) hown0 (wr.heap.size + 1) (by rfl) 124 hc1 htl hB1 ?_)
        intro v1 w1 own1 grow1
        rw [← HE.out] at own1
        have HA3 : Hid (w1.heap[wr.heap.size]? = some (.cells #[.string f, .int .u8 c, .string vv] 29 (0, 0))) := hown0.kept (by decide) HA1.out grow1
        have bel1 : Below w.heap.size w w1 := hown0.below (hbA.alloc (by simp; omega) _) hB1 grow1
        have q0 : w1.cell? ⟨wr.heap.size, 0, none⟩ = some (.string f) := by unfold World.cell?; rw [HA3.out]; rfl
        clear hown0 grow1 h0' HA1 HE hc1
        go_wp2_with (at_builtin; refine app_str (by rfl) _ _ (by rfl) w.heap.size v1 (before alts k) (by rfl) own1 f (by rfl) hl0 hf1 bel1.size ?_)
        intro v2 w2 own2 grow2
        have HA2 : Hid (w2.heap[wr.heap.size]? = some (.cells #[.string f, .int .u8 c, .string vv] 29 (0, 0))) := own1.kept (by decide) HA3.out grow2
        have bel2 : Below w.heap.size w w2 := own1.below bel1 bel1.size grow2
        clear own1 grow2 HA3 bel1 q0
      all_goals
        have q1 : w2.cell? ⟨wr.heap.size, 1, none⟩ = some (.int .u8 c) := by unfold World.cell?; rw [HA2.out]; rfl
        have ownc : Owns (w2.alloc (.cells #[.int .u8 c] 5)) w.heap.size v2 (before alts k ++ nums f) := own2.alloc _
        have hc2 : (w2.alloc (.cells #[.int .u8 c] 5)).cell? ⟨w2.heap.size, 0, none⟩ = some (.int .u8 c) := World.cell?_alloc_mark w2 #[.int .u8 c] 5 (0, 0) 0
        have hl2 : (before alts k ++ nums f).length ≤ 70368744177664 := by
          have h1 := before_length alts k HS.out (by have := HN.out; omega)
          rw [List.length_append, nums_length]; omega
        have hB2 : w.heap.size ≤ (w2.alloc (.cells #[.int .u8 c] 5)).heap.size := by have := bel2.size; simp; omega
        have HA4 : Hid ((w2.alloc (.cells #[.int .u8 c] 5)).heap[wr.heap.size]? = some (.cells #[.string f, .int .u8 c, .string vv] 29 (0, 0))) := by
          show _ = _
          rw [Below.heap_alloc _ _ _ (Lib.lt_of_heap HA2.out)]
          exact HA2.out
        have bela : Below w.heap.size w (w2.alloc (.cells #[.int .u8 c] 5)) := bel2.alloc bel2.size _
        clear own2
        go_wp2_with (at_builtin; refine app_byte (by rfl) _ _ (by rfl) w.heap.size v2 (before alts k ++ nums f) (by rfl) ownc w2.heap.size (by rfl) c hc2 hl2 hB2 ?_)
        intro v3 w3 own3' grow3
        have own3 : Owns w3 w.heap.size v3 (before alts k ++ nums f ++ [c]) := by rw [List.append_assoc]; exact own3'
        have HA5 : Hid (w3.heap[wr.heap.size]? = some (.cells #[.string f, .int .u8 c, .string vv] 29 (0, 0))) := ownc.kept (by decide) HA4.out grow3
        have bel3 : Below w.heap.size w w3 := ownc.below bela hB2 grow3
        have hpl : (before alts k ++ nums f ++ [c]).length ≤ 206159609859 := by
          have h1 := before_length alts k HS.out (by have := HN.out; omega)
          simp only [List.length_append, nums_length, List.length_cons, List.length_nil]; omega
        have hP := before_text alts k _ HX.out
        obtain ⟨T, hT⟩ : ∃ T, T = before alts k ++ nums f ++ [c] := ⟨_, rfl⟩
        simp only at hP
        rw [← hT] at own3 hpl hP
        have HP : Hid (T ++ esc (nums vv) = text (alts.take (k + 1))) := hP
        clear hP hT own3' ownc hc2 hl2 hB2 HA4 bela grow3 q1 HA2 bel2 hB1 htl hbA HA0 g1' g2' g3' hl0 hBA hB0 hbel
        go_wp2_with fail
        generalize wr.heap.size = A at *
        go_loopw [1, 7] (fun v i wx => ∃ j : Nat, j ≤ vv.size ∧ i = .int .i64 j ∧ Owns wx w.heap.size v (T ++ esc ((nums vv).take j)) ∧ Below w.heap.size w wx ∧ wx.heap[A]? = some (.cells #[.string f, .int .u8 c, .string vv] 29 (0, 0))) (fun _ i _ => vv.size - (intOf i).toNat)
        case atStart => exact ⟨0, Nat.zero_le _, rfl, by simpa [esc] using own3, bel3, HA5.out⟩
        case round =>
          obtain ⟨j, hj, rfl, hownx, hbelx, hAx⟩ := hrel
          have q2 : wr.cell? ⟨A, 2, none⟩ = some (.string vv) := by unfold World.cell?; rw [hAx]; rfl
          have HAx : Hid (wr.heap[A]? = some (.cells #[.string f, .int .u8 c, .string vv] 29 (0, 0))) := hAx
          have hBx := hbelx.size
          have hel : (T ++ esc ((nums vv).take j)).length ≤ 70368744177660 := by
            have h1 := esc_length ((nums vv).take j)
            have h2 : ((nums vv).take j).length ≤ vv.size := by rw [List.length_take, nums_length]; omega
            rw [List.length_append]; omega
          clear hAx own3 bel3 HA5
          by_cases hlt2 : j < vv.size
          · obtain ⟨b, hb⟩ : ∃ b, vv[j]'hlt2 = b := ⟨_, rfl⟩
            have HE : Hid (esc ((nums vv).take (j + 1)) = esc ((nums vv).take j) ++ escB (b.toNat : Int)) := by
              show _ = _
              have hl : j < (nums vv).length := by rw [nums_length]; exact hlt2
              rw [List.take_succ_eq_append_getElem hl, esc_append, esc_one]
              congr 2
              rw [← hb]
              simp [nums]
              rfl
            obtain ⟨E, hE⟩ : ∃ E, E = T ++ esc ((nums vv).take j) := ⟨_, rfl⟩
            rw [← hE] at hownx hel
            have HEE : Hid (E = T ++ esc ((nums vv).take j)) := hE
            have hbv : 0 ≤ (b.toNat : Int) := by omega
            clear hE
            go_wp2_with fail
            refine (escaped b _).mono ?_
            rintro e w4 ⟨z, rfl, hz, rfl⟩
            by_cases hzz : 0 ≤ z
            · have HB : Hid (escB (b.toNat : Int) = [92, (b.toNat : Int)]) := by
                show _ = _
                unfold escB; rw [if_pos (hz.out.1 hzz)]
              have own0 : Owns (w4.alloc (.cells #[.int .u8 92] 5)) w.heap.size u1 E := hownx.alloc _
              have c0 : (w4.alloc (.cells #[.int .u8 92] 5)).cell? ⟨w4.heap.size, 0, none⟩ = some (.int .u8 92) := World.cell?_alloc_mark w4 #[.int .u8 92] 5 (0, 0) 0
              have b0 : w.heap.size ≤ (w4.alloc (.cells #[.int .u8 92] 5)).heap.size := by simp; omega
              have HA1 : Hid ((w4.alloc (.cells #[.int .u8 92] 5)).heap[A]? = some (.cells #[.string f, .int .u8 c, .string vv] 29 (0, 0))) := by
                show _ = _
                rw [Below.heap_alloc _ _ _ (Lib.lt_of_heap HAx.out)]
                exact HAx.out
              have bl0 : Below w.heap.size w (w4.alloc (.cells #[.int .u8 92] 5)) := hbelx.alloc hBx _
              have hel1 : E.length ≤ 70368744177664 := by omega
              clear hz hownx
              go_wp2_with (at_builtin; refine app_byte (by rfl) _ _ (by rfl) w.heap.size u1 E (by rfl) own0 w4.heap.size (by rfl) 92 c0 hel1 b0 ?_)
              intro v5 w5 own5 grow5
              have HA5 : Hid (w5.heap[A]? = some (.cells #[.string f, .int .u8 c, .string vv] 29 (0, 0))) := own0.kept (by decide) HA1.out grow5
              have bl5 : Below w.heap.size w w5 := own0.below bl0 b0 grow5
              have q5 : w5.cell? ⟨A, 2, none⟩ = some (.string vv) := by unfold World.cell?; rw [HA5.out]; rfl
              obtain ⟨E2, hE2⟩ : ∃ E2, E2 = E ++ [92] := ⟨_, rfl⟩
              rw [← hE2] at own5
              have hel2 : E2.length ≤ 70368744177664 := by rw [hE2]; simp; omega
              have HE2 : Hid (E2 = E ++ [92]) := hE2
              clear own0 c0 b0 HA1 bl0 hel1 grow5 hE2 q2 HAx
              have own6 : Owns (w5.alloc (.cells #[.int .u8 (b.toNat : Int)] 5)) w.heap.size v5 E2 := own5.alloc _
              have c6 : (w5.alloc (.cells #[.int .u8 (b.toNat : Int)] 5)).cell? ⟨w5.heap.size, 0, none⟩ = some (.int .u8 (b.toNat : Int)) := World.cell?_alloc_mark w5 #[.int .u8 (b.toNat : Int)] 5 (0, 0) 0
              have b6 : w.heap.size ≤ (w5.alloc (.cells #[.int .u8 (b.toNat : Int)] 5)).heap.size := by have := bl5.size; simp; omega
              have HA6 : Hid ((w5.alloc (.cells #[.int .u8 (b.toNat : Int)] 5)).heap[A]? = some (.cells #[.string f, .int .u8 c, .string vv] 29 (0, 0))) := by
                show _ = _
                rw [Below.heap_alloc _ _ _ (Lib.lt_of_heap HA5.out)]
                exact HA5.out
              have bl6 : Below w.heap.size w (w5.alloc (.cells #[.int .u8 (b.toNat : Int)] 5)) := bl5.alloc bl5.size _
              go_wp2_with (at_builtin; refine app_byte (by rfl) _ _ (by rfl) w.heap.size v5 E2 (by rfl) own6 w5.heap.size (by rfl) (b.toNat : Int) c6 hel2 b6 ?_)
              intro v7 w7 own7 grow7
              have HA7 : Hid (w7.heap[A]? = some (.cells #[.string f, .int .u8 c, .string vv] 29 (0, 0))) := own6.kept (by decide) HA6.out grow7
              have bl7 : Below w.heap.size w w7 := own6.below bl6 b6 grow7
              have HO : Hid (Owns w7 w.heap.size v7 (T ++ esc ((nums vv).take (j + 1)))) := by
                have e : T ++ esc ((nums vv).take (j + 1)) = E2 ++ [(b.toNat : Int)] := by
                  rw [HE.out, HB.out, HE2.out, HEE.out]; simp
                show Owns _ _ _ _
                rw [e]; exact own7
              clear own6 c6 b6 HA6 bl6 grow7 own7 q5 HA5 bl5 own5
              go_wp2
              go_roundw
              case rel => exact ⟨j + 1, by omega, by go_num, HO.out, bl7, HA7.out⟩
              case measure => simp [intOf]; omega
            · have HB : Hid (escB (b.toNat : Int) = [(b.toNat : Int)]) := by
                show _ = _
                unfold escB; rw [if_neg (fun h => hzz (hz.out.2 h))]
              have own6 : Owns (w4.alloc (.cells #[.int .u8 (b.toNat : Int)] 5)) w.heap.size u1 E := hownx.alloc _
              have c6 : (w4.alloc (.cells #[.int .u8 (b.toNat : Int)] 5)).cell? ⟨w4.heap.size, 0, none⟩ = some (.int .u8 (b.toNat : Int)) := World.cell?_alloc_mark w4 #[.int .u8 (b.toNat : Int)] 5 (0, 0) 0
              have b6 : w.heap.size ≤ (w4.alloc (.cells #[.int .u8 (b.toNat : Int)] 5)).heap.size := by simp; omega
              have HA6 : Hid ((w4.alloc (.cells #[.int .u8 (b.toNat : Int)] 5)).heap[A]? = some (.cells #[.string f, .int .u8 c, .string vv] 29 (0, 0))) := by
                show _ = _
                rw [Below.heap_alloc _ _ _ (Lib.lt_of_heap HAx.out)]
                exact HAx.out
              have bl6 : Below w.heap.size w (w4.alloc (.cells #[.int .u8 (b.toNat : Int)] 5)) := hbelx.alloc hBx _
              have hel1 : E.length ≤ 70368744177664 := by omega
              clear hz hownx
              go_wp2_with (at_builtin; refine app_byte (by rfl) _ _ (by rfl) w.heap.size u1 E (by rfl) own6 w4.heap.size (by rfl) (b.toNat : Int) c6 hel1 b6 ?_)
              intro v7 w7 own7 grow7
              have HA7 : Hid (w7.heap[A]? = some (.cells #[.string f, .int .u8 c, .string vv] 29 (0, 0))) := own6.kept (by decide) HA6.out grow7
              have bl7 : Below w.heap.size w w7 := own6.below bl6 b6 grow7
              have HO : Hid (Owns w7 w.heap.size v7 (T ++ esc ((nums vv).take (j + 1)))) := by
                have e : T ++ esc ((nums vv).take (j + 1)) = E ++ [(b.toNat : Int)] := by
                  rw [HE.out, HB.out, HEE.out]; simp
                show Owns _ _ _ _
                rw [e]; exact own7
              clear own6 c6 b6 HA6 bl6 grow7 own7 q2 HAx
              go_wp2
              go_roundw
              case rel => exact ⟨j + 1, by omega, by go_num, HO.out, bl7, HA7.out⟩
              case measure => simp [intOf]; omega
          · have hjv : (nums vv).take j = nums vv := List.take_of_length_le (by rw [nums_length]; omega)
            rw [hjv, HP.out] at hownx
            have HO : Hid (Owns wr w.heap.size u1 (text (alts.take (k + 1)))) := hownx
            clear hownx hjv hel
            go_wp2
            go_roundw
            case rel => exact ⟨k + 1, by omega, by go_num, HO.out, hbelx⟩
            case measure => simp [intOf]; omega
    · go_wp2_with fail
      go_ret
      refine ⟨_, rfl, ?_, hbel⟩
      have e : alts.take k = alts := List.take_of_length_le (by have := HN.out; omega)
      rw [e] at hown
      exact hown

end Go.Proofs.Qxb6600096a
