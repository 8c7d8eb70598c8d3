import Derived.Test.Qxb6001210aRune
namespace Go.Proofs.Qxb6001210a
open Go.RowKit
set_option linter.unusedVariables false

/-- An ASCII string holds no byte beyond ASCII, and no piece of it does. -/
theorem nowhere (s : ByteArray) (a b : Nat) (c : UInt8) (W : World) (hascii : ∀ b ∈ s.data.toList, b.toNat < 128) (hc : 128 ≤ c.toNat) :
    Calls Try.prog 11 #[.string (s.extract a b), .int .u8 c.toNat] W fun e w' => e = .returned (.int .i64 (-1)) ∧ w' = W := by
  refine (indexByte _ _ _).mono ?_
  rintro e w' ⟨rfl, rfl⟩
  refine ⟨?_, rfl⟩
  rw [Int.toNat_natCast, show c.toNat.toUInt8 = c from by simp, ← Lib.firstIdx_eq, firstIdx_ascii s a b c hascii hc]

set_option maxHeartbeats 1000000 in
set_option maxRecDepth 1000000 in
/-- .. at a rune beyond ASCII in an ASCII string of four bytes: its last byte stands nowhere. -/
theorem indexRune_beyond (s rs : ByteArray) (r : Int) (n : Nat) (w : World) (hs4 : s.size = 4) (hascii : ∀ b ∈ s.data.toList, b.toNat < 128)
    (hr1 : 128 ≤ r) (hr2 : (r == 65533) = false) (hr3 : (0 ≤ r ∧ r < 55296) ∨ (57343 < r ∧ r ≤ 1114111)) (hrs : Utf8.encode r = rs) (hn : rs.size = n + 1) (hn1 : 1 ≤ n) (hn2 : n ≤ 3) (hb : ∀ h : n < rs.size, 128 ≤ (rs[n]'h).toNat) :
    Calls Try.prog 10 #[.string s, .int .i32 r] w fun e w' => e = .returned (.int .i64 (-1)) ∧ Below w.heap.size w w' := by
  go_enter Try.func10, Try.ntmps10
  go_wp2_with fail
  refine (valid_yes _ _ hr3).mono ?_
  rintro e w' ⟨rfl, rfl⟩
  go_wp2_with fail
  go_step3
  go_wp2_with fail
  refine wp_loop_rounds 1 ?_
  rw [rounds_succ]
  go_wp2_with fail
  go_step3
  go_wp2_with fail
  have hnlt : n < rs.size := by omega
  have HN : Hid (rs.size = n + 1) := hn
  clear hn
  obtain ⟨c, hc⟩ : ∃ c, rs[n]'hnlt = c := ⟨_, rfl⟩
  have hc128 : 128 ≤ c.toNat := by rw [← hc]; exact hb hnlt
  have hsn : (s[n]'(by omega)).toNat < 128 := hascii _ (by rw [List.mem_iff_getElem?]; exact ⟨n, Lib.data_getElem? s n (by omega)⟩)
  have hne : (((s[n]'(by omega)).toNat : Int) != (c.toNat : Int)) = true := by rw [bne_iff_ne]; omega
  clear hb
  go_quiet (fail)
  go_wp2_with fail
  go_quiet ((go_at_call 11; refine (nowhere s (n + 1) 4 c _ hascii hc128).mono ?_; rintro e w2 ⟨rfl, rfl⟩; exact ⟨rfl, _, rfl⟩))
  go_wp2_with fail
  rw [Exit.noGoto_ret]
  go_wp2_with fail
  rw [Exit.noGoto_ret]
  go_wp2_with fail
  go_ret
  exact ⟨rfl, below_drewN (Below.refl _ _) _⟩

end Go.Proofs.Qxb6001210a
