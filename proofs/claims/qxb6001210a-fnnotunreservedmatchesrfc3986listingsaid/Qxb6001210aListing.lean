/-
  THE WALKS OF unreservedListing, inListing AND OF THE LAW FnNotUnreservedMatchesRFC3986Listing.
-/
import Derived.Test.Qxb6001210aNot
namespace Go.Proofs.Qxb6001210a
open Go.RowKit
set_option linter.unusedVariables false

/-- The listing, as the translation lays it. -/
def listed : List UInt8 := [65, 66, 67, 68, 69, 70, 71, 72, 73, 74, 75, 76, 77, 78, 79, 80, 81, 82, 83, 84, 85, 86, 87, 88, 89, 90, 97, 98, 99, 100, 101, 102, 103].append [104, 105, 106, 107, 108, 109, 110, 111, 112, 113, 114, 115, 116, 117, 118, 119, 120, 121, 122, 48, 49, 50, 51, 52, 53, 54, 55, 56, 57, 45, 46, 95, 126]
def listing : ByteArray := ⟨listed.toArray⟩

theorem listing_call (w : World) :
    Calls Try.prog 8 #[] w fun e w' => e = .returned (.string listing) ∧ w' = w := by
  go_enter Try.func8, Try.ntmps8
  go_wp2
  go_ret
  exact ⟨rfl, rfl⟩

theorem listed_all : ∀ n : Fin 256, listed.contains n.val.toUInt8 = unres (n.val : Int) := by decide +kernel

/-- Whether a rune is in the listing: some byte of it is that rune. -/
theorem unres_beyond (r : Int) (h : r < 0 ∨ 256 ≤ r) : unres r = false := by
  unfold unres
  rw [mark_beyond r (by omega)]
  unfold alnum
  rw [decide_eq_false (by omega)]
  rfl

theorem unres_iff (r : Int) : unres r = true ↔ ∃ k : Nat, ∃ b : UInt8, listed[k]? = some b ∧ (b.toNat : Int) = r := by
  constructor
  · intro h
    by_cases hr : r < 0 ∨ 256 ≤ r
    · rw [unres_beyond r hr] at h; cases h
    · have h2 := listed_all ⟨r.toNat, by omega⟩
      rw [show ((r.toNat : Nat) : Int) = r from by omega, h] at h2
      have hm : r.toNat.toUInt8 ∈ listed := List.contains_iff_mem.1 h2
      obtain ⟨k, hk⟩ := List.mem_iff_getElem?.1 hm
      refine ⟨k, _, hk, ?_⟩
      rw [Nat.toUInt8_eq, UInt8.toNat_ofNat']
      omega
  · rintro ⟨k, b, hk, rfl⟩
    have h2 := listed_all ⟨b.toNat, b.toNat_lt⟩
    rw [← h2]
    refine List.contains_iff_mem.2 ?_
    rw [show b.toNat.toUInt8 = b from by simp]
    exact List.mem_of_getElem? hk

theorem listing_size : listing.size = 66 := by decide +kernel
theorem listing_at (k : Nat) (h : k < listing.size) : listed[k]? = some (listing[k]'h) := by
  rw [← Lib.data_getElem? listing k h]
  rfl

theorem wrap32_small (n : Nat) (h : n < 256) : wrap32 (n : Int) = (n : Int) := by
  unfold wrap32
  omega

set_option maxHeartbeats 1000000 in
theorem inListing (r : Int) (w : World) (hr : (Lit.int .i32 r).wf = true) :
    Calls Try.prog 6 #[.int .i32 r] w fun e w' => e = .returned (.bool (unres r)) ∧ w' = w := by
  have HL : Hid (∀ (k : Nat) (h : k < listing.size), listed[k]? = some (listing[k]'h)) := listing_at
  have hsz := listing_size
  have H8 := listing_call
  have HU : Hid (unres r = true ↔ ∃ k : Nat, ∃ b : UInt8, listed[k]? = some b ∧ (b.toNat : Int) = r) := unres_iff r
  have HE : Hid (∀ k : Nat, 66 ≤ k → listed[k]? = none) := fun k hk => List.getElem?_eq_none (by exact hk)
  generalize listing = T at *
  generalize unres r = u at *
  go_enter Try.func6, Try.ntmps6
  go_wp2_with fail
  refine (H8 _).mono ?_
  rintro e w' ⟨rfl, rfl⟩
  clear H8
  go_wp2_with fail
  go_loop [4] (fun i => ∃ k : Nat, k ≤ 66 ∧ i = .int .i64 k ∧ ∀ j : Nat, j < k → ∀ b, listed[j]? = some b → (b.toNat : Int) ≠ r) (fun i => 66 - (intOf i).toNat)
  case atStart => exact ⟨0, Nat.zero_le _, rfl, fun j hj => by omega⟩
  case round =>
    obtain ⟨k, hk, rfl, hno⟩ := hrel
    have HN : Hid (∀ j : Nat, j < k → ∀ b, listed[j]? = some b → (b.toNat : Int) ≠ r) := hno
    clear hno
    by_cases hlt : k < 66
    · have hlt' : k < T.size := by omega
      obtain ⟨c, hc⟩ : ∃ c, T[k]'hlt' = c := ⟨_, rfl⟩
      have HC : Hid (listed[k]? = some c) := by rw [← hc]; exact HL.out k hlt'
      have HW : Hid (wrap32 (c.toNat : Int) = (c.toNat : Int)) := wrap32_small c.toNat (by have := c.toNat_lt; omega)
      cases he : (wrap32 (c.toNat : Int) == r)
      · go_wp2
        go_round
        case rel =>
          refine ⟨k + 1, by omega, by go_num, fun j hj b hb => ?_⟩
          by_cases hjk : j < k
          · exact HN.out j hjk b hb
          · obtain rfl : j = k := by omega
            rw [HC.out] at hb
            cases hb
            rw [HW.out] at he
            exact beq_eq_false_iff_ne.1 he
        case measure => simp [intOf]; omega
      · go_wp2
        go_ret
        refine ⟨ret_bool ?_, rfl⟩
        rw [HW.out] at he
        exact (HU.out.2 ⟨k, c, HC.out, beq_iff_eq.1 he⟩).symm
    · go_wp2
      go_ret
      refine ⟨ret_bool ?_, rfl⟩
      cases hu : u
      · rfl
      · obtain ⟨j, b, hj, hb⟩ := HU.out.1 hu
        by_cases hjk : j < k
        · exact absurd hb (HN.out j hjk b hj)
        · rw [HE.out j (by omega)] at hj
          cases hj

/-- THE SECOND LAW's WALK. -/
theorem listing_law (r : Int) (w : World) (hr : (Lit.int .i32 r).wf = true) :
    Calls Try.prog 3 #[.int .i32 r] w fun e w' => e = .returned (.bool true) ∧ Below w.heap.size w w' := by
  have H1 := zzNot r w hr
  have H2 := fun W => inListing r W hr
  generalize unres r = u at *
  go_enter Try.func3, Try.ntmps3
  go_wp2_with fail
  refine H1.mono ?_
  rintro e w1 ⟨rfl, hb⟩
  go_wp2_with fail
  refine (H2 _).mono ?_
  rintro e w2 ⟨rfl, rfl⟩
  clear H1 H2
  go_wp2
  go_ret
  exact ⟨ret_bool (by simp), hb⟩

end Go.Proofs.Qxb6001210a
