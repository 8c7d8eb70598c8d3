/-
  THE WALK OF FnDollarAtPushesExactlyWhenItOpens.
-/
import Derived.Test.Qxb6003564aLaw1
namespace Go.Proofs.Qxb6003564a
open Go.RowKit
set_option linter.unusedVariables false

def isSp (c : UInt8) : Bool := decide (c.toNat = 64 ∨ c.toNat = 42 ∨ c.toNat = 35 ∨ c.toNat = 63 ∨ c.toNat = 45 ∨ c.toNat = 36 ∨ c.toNat = 33)
def isDg (c : UInt8) : Bool := decide (48 ≤ c.toNat ∧ c.toNat ≤ 57)
theorem special_eq (c : UInt8) : special c = (isSp c || isDg c) := by
  unfold special isSp isDg
  rw [← Bool.decide_or]
  exact decide_eq_decide.2 (by omega)

set_option maxHeartbeats 1000000 in
theorem isSpecial (c : UInt8) (w : World) :
    Calls Try.prog 37 #[.int .u8 c.toNat] w fun e w' => e = .returned (.bool (isSp c)) ∧ w' = w := by
  have HT : Hid (((c.toNat : Int) = 64 ∨ (c.toNat : Int) = 42 ∨ (c.toNat : Int) = 35 ∨ (c.toNat : Int) = 63 ∨ (c.toNat : Int) = 45 ∨ (c.toNat : Int) = 36) → true = isSp c) := fun h => (decide_eq_true (by omega)).symm
  have HL : Hid (((c.toNat : Int) == 64 || (c.toNat : Int) == 42 || (c.toNat : Int) == 35 || (c.toNat : Int) == 63 || (c.toNat : Int) == 45 || (c.toNat : Int) == 36 || (c.toNat : Int) == 33) = isSp c) := by
    show _ = _
    rw [Bool.eq_iff_iff]
    simp [isSp]
    omega
  generalize isSp c = s at *
  go_enter Try.func37, Try.ntmps37
  go_wp2
  all_goals
    go_ret
    first
      | exact ⟨ret_bool HL.out, rfl⟩
      | exact ⟨ret_bool (HT.out (by omega)), rfl⟩

theorem isDigit (c : UInt8) (w : World) :
    Calls Try.prog 38 #[.int .u8 c.toNat] w fun e w' => e = .returned (.bool (isDg c)) ∧ w' = w := by
  by_cases h1 : 48 ≤ c.toNat
  · have h : decide ((c.toNat : Int) ≤ 57) = isDg c := decide_eq_decide.2 (by omega)
    have H : Hid (decide ((c.toNat : Int) ≤ 57) = isDg c) := h
    clear h
    go_enter Try.func38, Try.ntmps38
    go_wp2
    go_ret
    exact ⟨ret_bool H.out, rfl⟩
  · have h : isDg c = false := decide_eq_false (by omega)
    rw [h]
    clear h
    go_enter Try.func38, Try.ntmps38
    go_wp2
    go_ret
    exact ⟨rfl, rfl⟩

theorem zbPush_yes (t : ByteArray) (a b : Int) (c : Bool) (d : Int) (f : Bool) (g : Int) (w : World) (h : t.size ≤ 1048576) :
    Calls Try.prog 36 #[.string t, .int .i64 a, .int .i64 b, .bool c, .int .i64 d, .bool f, .int .i64 g] w fun e w' => e = .returned (.bool true) ∧ w' = w := by
  go_enter Try.func36, Try.ntmps36
  go_wp2
  go_ret
  exact ⟨rfl, rfl⟩
theorem zbPush_no (t : ByteArray) (a b : Int) (c : Bool) (d : Int) (f : Bool) (g : Int) (w : World) (h : 1048576 < t.size) :
    Calls Try.prog 36 #[.string t, .int .i64 a, .int .i64 b, .bool c, .int .i64 d, .bool f, .int .i64 g] w fun e w' => e = .returned (.bool false) ∧ w' = w := by
  go_enter Try.func36, Try.ntmps36
  go_wp2
  go_ret
  exact ⟨rfl, rfl⟩

/-- What dollarAt leaves, case by case. -/
theorem out_cases {t : ByteArray} {n : Int} {ws ws' : Bool} {lone lone' ol : Int} {k : Nat} (h : Out t n ws ws' lone lone' ol k) :
    (n = 1 ∧ k = 0 ∧ ws' = ws) ∨ (2 ≤ n ∧ n ≤ t.size ∧ k = 0 ∧ ws' = ws ∧ isSp (byte1 t) = true) ∨ (2 ≤ n ∧ n ≤ t.size ∧ k = 0 ∧ ws' = ws ∧ isSp (byte1 t) = false ∧ isDg (byte1 t) = true) ∨
    (2 ≤ n ∧ n ≤ t.size ∧ k = 1 ∧ ws' = ws ∧ isSp (byte1 t) = false ∧ isDg (byte1 t) = false) ∨ (n = 2 ∧ n ≤ t.size ∧ k = 1 ∧ ws' = true ∧ isSp (byte1 t) = false ∧ isDg (byte1 t) = false ∧ (byte1 t).toNat = 40) := by
  obtain ⟨h1, h2, h3, h4, h5, h6⟩ := h
  by_cases hn : n = 1
  · obtain ⟨_, hk⟩ := h4 hn
    rcases h6 with h6 | ⟨_, h6, _⟩
    · exact .inl ⟨hn, hk, h6⟩
    · omega
  · obtain ⟨_, hk⟩ := h5 hn
    rw [special_eq] at hk
    cases hs : isSp (byte1 t)
    · rw [hs] at hk
      cases hd : isDg (byte1 t)
      · rw [hd] at hk
        have hk1 : k = 1 := hk.2 rfl
        rcases h6 with h6 | ⟨h6, _, h7, h8⟩
        · exact .inr (.inr (.inr (.inl ⟨by omega, h2, hk1, h6, rfl, rfl⟩)))
        · exact .inr (.inr (.inr (.inr ⟨h7, h2, hk1, h6, rfl, rfl, h8⟩)))
      · rw [hd] at hk
        have hk1 : k ≠ 1 := fun e => by have := hk.1 e; cases this
        rcases h6 with h6 | ⟨_, h6, _⟩
        · exact .inr (.inr (.inl ⟨by omega, h2, by omega, h6, rfl, rfl⟩))
        · omega
    · rw [hs] at hk
      have hk1 : k ≠ 1 := fun e => by have := hk.1 e; cases this
      rcases h6 with h6 | ⟨_, h6, _⟩
      · exact .inr (.inl ⟨by omega, h2, by omega, h6, rfl⟩)
      · omega

set_option maxHeartbeats 4000000 in
set_option maxRecDepth 100000 in
theorem pushes_main (t : ByteArray) (ol : Nat) (lone : Int) (ws : Bool) (kind : Int) (quoted : Bool) (part : Int) (w : World) (hT : t.size ≤ 1048576) (ho : ol ≤ 65536) (ht : 1 ≤ t.size) (h36 : (((t[0]'(by omega)).toNat : Int) != 36) = false) :
    Calls Try.prog 10 #[.string t, .int .i64 ol, .int .i64 lone, .bool ws, .int .i64 kind, .bool quoted, .int .i64 part] w fun e w' => e = .returned (.bool true) ∧ Below w.heap.size w w' := by
  have e0 : ((t.size : Int) == 0) = false := beq_eq_false_iff_ne.2 (by omega)
  have hmk := fun W : World => run_make_row' (P := Try.prog) 34 5 (.int .u8 0) 1 Try.underlying34 info5 rfl .i64 .i64 ol (by omega) (by omega) W
  obtain ⟨M, hM⟩ : ∃ M, M = madeCells #[Value.int .u8 0] ol := ⟨_, rfl⟩
  rw [← hM] at hmk
  clear hM
  go_enter Try.func10, Try.ntmps10
  go_wp2_with fail
  refine (zbPush_yes t _ _ _ _ _ _ _ hT).mono ?_
  rintro e w' ⟨rfl, rfl⟩
  go_wp2_with fail
  refine (newReader _ _ _ _ _ _ rfl _).mono ?_
  rintro e w1 ⟨rfl, rfl⟩
  go_wp2_with fail
  refine (newFrame _ _ _ _).mono ?_
  rintro e w2 ⟨rfl, rfl⟩
  clear hmk
  obtain ⟨W, hW⟩ : ∃ W, W = (((w'.alloc (.cells M 5)).alloc (.cells #[.slice (some ⟨w'.heap.size, 0, none⟩) ol ol, .slice none 0 0, .slice none 0 0, .bool ws, .bool false, .slice none 0 0, .bool false, .bool false, .int .i64 lone, .bool false] 62)).alloc (.cells #[.int .i64 kind, .int .i64 0, .int .u8 0, .bool false, .bool quoted, .int .i64 part, .string ⟨#[]⟩, .bool false, .bool false] 69)) := ⟨_, rfl⟩
  obtain ⟨hr, k0, k4, k5, hb⟩ := laid3 w' M _ _ _ _ _ _ _ _ W hW
  go_wp2_with fail
  rw [← hW]
  clear hW
  refine (zzDollar w'.heap.size (w'.heap.size + 1) t _ ol ol ws lone W (by omega) ht hT (w'.heap.size + 1 + 1) kind part quoted k0 k4 k5 hr).mono ?_
  rintro e w3 ⟨n, a, k, c, ws', lone', rfl, hr', hb', ho⟩
  have HB : Below w'.heap.size w' w3 := hb.trans hb'
  obtain ⟨r0, r1, r3, r8, _, _, _, _⟩ := hr'
  clear hr k0 k4 k5 hb hb' r0 r8
  rcases out_cases ho with ⟨rfl, rfl, rfl⟩ | ⟨hn, hn2, rfl, rfl, hs⟩ | ⟨hn, hn2, rfl, rfl, hs, hd⟩ | ⟨hn, hn2, rfl, rfl, hs, hd⟩ | ⟨rfl, hn2, rfl, rfl, hs, hd, h40⟩
  · clear ho
    go_wp2_with fail
    refine (framesOf _ _ _ _ _ r1).mono ?_
    rintro e w5 ⟨rfl, rfl⟩
    go_wp2_with fail
    refine (wordOf _ _ _ r3).mono ?_
    rintro e w6 ⟨rfl, rfl⟩
    cases ws'
    all_goals
      go_wp2
      go_ret
      exact ⟨rfl, HB⟩
  · clear ho
    have hn' : (n == 1) = false := beq_eq_false_iff_ne.2 (by omega)
    have hsz : 1 < t.size := by omega
    rw [byte1_eq t hsz] at hs
    have H37 := fun W => isSpecial (t[1]'hsz) W
    rw [hs] at H37
    go_wp2_with fail
    refine (framesOf _ _ _ _ _ r1).mono ?_
    rintro e w5 ⟨rfl, rfl⟩
    go_wp2_with fail
    refine (H37 _).mono ?_
    rintro e w6 ⟨rfl, rfl⟩
    go_wp2_with fail
    refine (wordOf _ _ _ r3).mono ?_
    rintro e w7 ⟨rfl, rfl⟩
    cases ws'
    all_goals
      go_wp2
      go_ret
      exact ⟨rfl, HB⟩
  · clear ho
    have hn' : (n == 1) = false := beq_eq_false_iff_ne.2 (by omega)
    have hsz : 1 < t.size := by omega
    rw [byte1_eq t hsz] at hs hd
    have H37 := fun W => isSpecial (t[1]'hsz) W
    rw [hs] at H37
    have H38 := fun W => isDigit (t[1]'hsz) W
    rw [hd] at H38
    go_wp2_with fail
    refine (framesOf _ _ _ _ _ r1).mono ?_
    rintro e w5 ⟨rfl, rfl⟩
    go_wp2_with fail
    refine (H37 _).mono ?_
    rintro e w6 ⟨rfl, rfl⟩
    go_wp2_with fail
    refine (H38 _).mono ?_
    rintro e w7 ⟨rfl, rfl⟩
    go_wp2_with fail
    refine (wordOf _ _ _ r3).mono ?_
    rintro e w8 ⟨rfl, rfl⟩
    cases ws'
    all_goals
      go_wp2
      go_ret
      exact ⟨rfl, HB⟩
  · clear ho
    have hn' : (n == 1) = false := beq_eq_false_iff_ne.2 (by omega)
    have hsz : 1 < t.size := by omega
    rw [byte1_eq t hsz] at hs hd
    have H37 := fun W => isSpecial (t[1]'hsz) W
    rw [hs] at H37
    have H38 := fun W => isDigit (t[1]'hsz) W
    rw [hd] at H38
    go_wp2_with fail
    refine (framesOf _ _ _ _ _ r1).mono ?_
    rintro e w5 ⟨rfl, rfl⟩
    go_wp2_with fail
    refine (H37 _).mono ?_
    rintro e w6 ⟨rfl, rfl⟩
    go_wp2_with fail
    refine (H38 _).mono ?_
    rintro e w7 ⟨rfl, rfl⟩
    go_wp2_with fail
    refine (wordOf _ _ _ r3).mono ?_
    rintro e w8 ⟨rfl, rfl⟩
    cases ws'
    all_goals
      go_wp2
      go_ret
      exact ⟨rfl, HB⟩
  · clear ho
    have hsz : 1 < t.size := by omega
    rw [byte1_eq t hsz] at hs hd h40
    have H37 := fun W => isSpecial (t[1]'hsz) W
    rw [hs] at H37
    have H38 := fun W => isDigit (t[1]'hsz) W
    rw [hd] at H38
    have h40' : (((t[1]'hsz).toNat : Int) == 40) = true := beq_iff_eq.2 (by omega)
    clear h40
    go_wp2_with fail
    refine (framesOf _ _ _ _ _ r1).mono ?_
    rintro e w5 ⟨rfl, rfl⟩
    go_wp2_with fail
    refine (H37 _).mono ?_
    rintro e w6 ⟨rfl, rfl⟩
    go_wp2_with fail
    refine (H38 _).mono ?_
    rintro e w7 ⟨rfl, rfl⟩
    go_wp2_with fail
    refine (wordOf _ _ _ r3).mono ?_
    rintro e w8 ⟨rfl, rfl⟩
    cases ws
    all_goals
      go_wp2
      go_ret
      exact ⟨rfl, HB⟩

set_option maxHeartbeats 1000000 in
set_option maxRecDepth 100000 in
theorem pushes (t : ByteArray) (ol lone : Int) (ws : Bool) (kind : Int) (quoted : Bool) (part : Int) (w : World) :
    Calls Try.prog 10 #[.string t, .int .i64 ol, .int .i64 lone, .bool ws, .int .i64 kind, .bool quoted, .int .i64 part] w fun e w' => e = .returned (.bool true) ∧ Below w.heap.size w w' := by
  by_cases hT : t.size ≤ 1048576
  · by_cases h0 : ol < 0
    · go_enter Try.func10, Try.ntmps10
      go_wp2_with fail
      refine (zbPush_yes t _ _ _ _ _ _ _ hT).mono ?_
      rintro e w' ⟨rfl, rfl⟩
      go_wp2
      go_ret
      exact ⟨rfl, Below.refl _ _⟩
    · by_cases h1 : 65536 < ol
      · go_enter Try.func10, Try.ntmps10
        go_wp2_with fail
        refine (zbPush_yes t _ _ _ _ _ _ _ hT).mono ?_
        rintro e w' ⟨rfl, rfl⟩
        go_wp2
        go_ret
        exact ⟨rfl, Below.refl _ _⟩
      · by_cases h2 : t.size = 0
        · have e0 : ((t.size : Int) == 0) = true := beq_iff_eq.2 (by omega)
          clear h2
          go_enter Try.func10, Try.ntmps10
          go_wp2_with fail
          refine (zbPush_yes t _ _ _ _ _ _ _ hT).mono ?_
          rintro e w' ⟨rfl, rfl⟩
          go_wp2
          go_ret
          exact ⟨rfl, Below.refl _ _⟩
        · have e0 : ((t.size : Int) == 0) = false := beq_eq_false_iff_ne.2 (by omega)
          have ht : 0 < t.size := by omega
          cases h3 : (((t[0]'(by omega)).toNat : Int) != 36)
          · obtain ⟨o, rfl⟩ := Int.eq_ofNat_of_zero_le (show 0 ≤ ol by omega)
            exact pushes_main t o lone ws kind quoted part w hT (by omega) (by omega) h3
          · clear h2
            go_enter Try.func10, Try.ntmps10
            go_wp2_with fail
            refine (zbPush_yes t _ _ _ _ _ _ _ hT).mono ?_
            rintro e w' ⟨rfl, rfl⟩
            go_wp2
            go_ret
            exact ⟨rfl, Below.refl _ _⟩
  · go_enter Try.func10, Try.ntmps10
    go_wp2_with fail
    refine (zbPush_no t _ _ _ _ _ _ _ (by omega)).mono ?_
    rintro e w' ⟨rfl, rfl⟩
    go_wp2
    go_ret
    exact ⟨rfl, Below.refl _ _⟩

end Go.Proofs.Qxb6003564a
