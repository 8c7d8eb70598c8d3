/-
  THE INPUTS OF THE LAW OVER SLICES OF STRINGS, AND THE WALKS OF zzBytes, zzStringsBytes, zzMin3 AND zzSameBytes.
-/
import Derived.Test.Qxb6600096aAppend
import Derived.BigQuiet
import Derived.Deep.QuietTactic
namespace Go.Proofs.Qxb6600096a
open Go.RowKit Plain
set_option linter.unusedVariables false

/-- A slice of n strings, in a block below B. -/
def Strs (w : World) (B : Nat) (a : Option Addr) (n : Nat) (ss : List ByteArray) : Prop :=
  ss.length = n ∧ (0 < n → ∃ b o, a = some ⟨b, o, none⟩ ∧ b < B ∧ ∀ (i : Nat) (s : ByteArray), ss[i]? = some s → w.cell? ⟨b, o + i, none⟩ = some (.string s))
/-- A slice of n bytes, likewise. -/
def Byts (w : World) (B : Nat) (a : Option Addr) (n : Nat) (zs : List Int) : Prop :=
  zs.length = n ∧ (0 < n → ∃ b o, a = some ⟨b, o, none⟩ ∧ b < B ∧ ∀ (i : Nat) (z : Int), zs[i]? = some z → w.cell? ⟨b, o + i, none⟩ = some (.int .u8 z))
theorem Strs.below {w w' : World} {B : Nat} {a : Option Addr} {n : Nat} {ss : List ByteArray} (h : Strs w B a n ss) (hb : Below B w w') : Strs w' B a n ss :=
  ⟨h.1, fun hn => by
    obtain ⟨b, o, ha, hB, hc⟩ := h.2 hn
    exact ⟨b, o, ha, hB, fun i s hs => (hb.cell (p := ⟨b, o + i, none⟩) hB).trans (hc i s hs)⟩⟩
theorem Byts.below {w w' : World} {B : Nat} {a : Option Addr} {n : Nat} {zs : List Int} (h : Byts w B a n zs) (hb : Below B w w') : Byts w' B a n zs :=
  ⟨h.1, fun hn => by
    obtain ⟨b, o, ha, hB, hc⟩ := h.2 hn
    exact ⟨b, o, ha, hB, fun i s hs => (hb.cell (p := ⟨b, o + i, none⟩) hB).trans (hc i s hs)⟩⟩

/-- What the bound says. -/
def Fit (fs vs : List ByteArray) (w : World) (e : Ending) (w' : World) : Prop :=
  w' = w ∧ (e = .returned (.bool false) ∨ (e = .returned (.bool true) ∧ (∀ (i : Nat) (s : ByteArray), fs[i]? = some s → s.size ≤ 1048576) ∧ ∀ (i : Nat) (s : ByteArray), vs[i]? = some s → s.size ≤ 1048576))
theorem Fit.no {fs vs : List ByteArray} {w : World} : Fit fs vs w (.returned (.bool false)) w := ⟨rfl, .inl rfl⟩

set_option maxHeartbeats 2000000 in
set_option maxRecDepth 100000 in
theorem zzBytes (a0 a1 a2 : Option Addr) (n0 c0 n1 c1 n2 c2 : Nat) (fs vs : List ByteArray) (sp : Int) (B : Nat) (w : World) (hf : Strs w B a0 n0 fs) (hv : Strs w B a2 n2 vs) :
    Calls Try.prog 24 #[.slice a0 n0 c0, .slice a1 n1 c1, .slice a2 n2 c2, .int .u32 sp] w (Fit fs vs w) := by
  by_cases h0 : n0 ≤ 1048576
  · have HF : Hid (Strs w B a0 n0 fs) := hf
    have HV : Hid (Strs w B a2 n2 vs) := hv
    clear hf hv
    go_enter Try.func24, Try.ntmps24
    go_wp2_with fail
    go_loop [9, 10] (fun t i => ∃ (k : Nat) (z : Int), k ≤ n0 ∧ i = .int .i64 k ∧ t = .int .i64 z ∧ 0 ≤ z ∧ z ≤ 1048576 ∧ ∀ (j : Nat) (s : ByteArray), j < k → fs[j]? = some s → s.size ≤ 1048576) (fun _ i => n0 - (intOf i).toNat)
    case atStart => exact ⟨0, n0, Nat.zero_le _, rfl, rfl, by omega, by omega, fun j s hj => by omega⟩
    case round =>
      obtain ⟨k, z, hk, rfl, rfl, hz0, hz1, hall⟩ := hrel
      have HL : Hid (∀ (j : Nat) (s : ByteArray), j < k → fs[j]? = some s → s.size ≤ 1048576) := hall
      clear hall
      by_cases hlt : k < n0
      · obtain ⟨b, o, rfl, _, hc⟩ := HF.out.2 (by omega)
        obtain ⟨s, hs⟩ : ∃ s, fs[k]? = some s := ⟨fs[k]'(by have := HF.out.1; omega), List.getElem?_eq_getElem _⟩
        have hcell := hc k s hs
        have HS : Hid (fs[k]? = some s) := hs
        clear hc hs
        by_cases hsz : s.size ≤ 1048576
        · by_cases hz2 : z + (s.size : Int) ≤ 1048576
          · go_wp2
            go_round
            case rel => exact ⟨k + 1, z + s.size, by omega, by go_num, rfl, by omega, hz2, fun j t hj ht => by
              by_cases hjk : j < k
              · exact HL.out j t hjk ht
              · obtain rfl : j = k := by omega
                rw [HS.out] at ht
                cases ht
                exact hsz⟩
            case measure => simp [intOf]; omega
          · go_wp2
            go_ret
            exact Fit.no
        · go_wp2
          go_ret
          exact Fit.no
      · have HL2 : Hid (∀ (i : Nat) (s : ByteArray), fs[i]? = some s → s.size ≤ 1048576) := fun i s hs => HL.out i s (by have := (List.getElem?_eq_some_iff.1 hs).1; have := HF.out.1; omega) hs
        clear HL HF
        by_cases g1 : n1 ≤ 1048576
        · by_cases g2 : z + (n1 : Int) ≤ 1048576
          · by_cases g3 : n2 ≤ 1048576
            · by_cases g4 : z + (n1 : Int) + (n2 : Int) ≤ 1048576
              · go_wp2_with fail
                go_loop [9, 11] (fun t i => ∃ (k : Nat) (z : Int), k ≤ n2 ∧ i = .int .i64 k ∧ t = .int .i64 z ∧ 0 ≤ z ∧ z ≤ 1048576 ∧ ∀ (j : Nat) (s : ByteArray), j < k → vs[j]? = some s → s.size ≤ 1048576) (fun _ i => n2 - (intOf i).toNat)
                case atStart => exact ⟨0, z + n1 + n2, Nat.zero_le _, rfl, rfl, by omega, by omega, fun j s hj => by omega⟩
                case round =>
                  obtain ⟨k2, z2, hk2, rfl, rfl, hz20, hz21, hall⟩ := hrel
                  have HL : Hid (∀ (j : Nat) (s : ByteArray), j < k2 → vs[j]? = some s → s.size ≤ 1048576) := hall
                  clear hall
                  by_cases hlt2 : k2 < n2
                  · obtain ⟨b, o, rfl, _, hc⟩ := HV.out.2 (by omega)
                    obtain ⟨s, hs⟩ : ∃ s, vs[k2]? = some s := ⟨vs[k2]'(by have := HV.out.1; omega), List.getElem?_eq_getElem _⟩
                    have hcell := hc k2 s hs
                    have HS : Hid (vs[k2]? = some s) := hs
                    clear hc hs
                    by_cases hsz : s.size ≤ 1048576
                    · by_cases hz22 : z2 + (s.size : Int) ≤ 1048576
                      · go_wp2
                        go_round
                        case rel => exact ⟨k2 + 1, z2 + s.size, by omega, by go_num, rfl, by omega, hz22, fun j t hj ht => by
                          by_cases hjk : j < k2
                          · exact HL.out j t hjk ht
                          · obtain rfl : j = k2 := by omega
                            rw [HS.out] at ht
                            cases ht
                            exact hsz⟩
                        case measure => simp [intOf]; omega
                      · go_wp2
                        go_ret
                        exact Fit.no
                    · go_wp2
                      go_ret
                      exact Fit.no
                  · go_wp2
                    go_ret
                    exact ⟨rfl, .inr ⟨rfl, HL2.out, fun i s hs => HL.out i s (by have := (List.getElem?_eq_some_iff.1 hs).1; have := HV.out.1; omega) hs⟩⟩
              · go_wp2
                go_ret
                exact Fit.no
            · go_wp2
              go_ret
              exact Fit.no
          · go_wp2
            go_ret
            exact Fit.no
        · go_wp2
          go_ret
          exact Fit.no
  · clear hf hv
    go_enter Try.func24, Try.ntmps24
    go_wp2
    go_ret
    exact Fit.no

/-- A number between 0 and 2^22. -/
def Small (w : World) (e : Ending) (w' : World) : Prop := ∃ z : Int, e = .returned (.int .i64 z) ∧ 0 ≤ z ∧ z ≤ 4194304 ∧ w' = w

set_option maxHeartbeats 2000000 in
set_option maxRecDepth 100000 in
theorem zzStrings (a0 : Option Addr) (n0 c0 : Nat) (fs : List ByteArray) (B : Nat) (w : World) (hf : Strs w B a0 n0 fs) (hn : n0 ≤ 65536) :
    Calls Try.prog 19 #[.slice a0 n0 c0] w (Small w) := by
  have HF : Hid (Strs w B a0 n0 fs) := hf
  clear hf
  go_enter Try.func19, Try.ntmps19
  go_wp2_with fail
  go_loop [3, 4] (fun t i => ∃ (k : Nat) (z : Int), k ≤ n0 ∧ i = .int .i64 k ∧ t = .int .i64 z ∧ 0 ≤ z ∧ z ≤ 1048576) (fun _ i => n0 - (intOf i).toNat)
  case atStart => exact ⟨0, 16 * n0, Nat.zero_le _, rfl, rfl, by omega, by omega⟩
  case round =>
    obtain ⟨k, z, hk, rfl, rfl, hz0, hz1⟩ := hrel
    by_cases hlt : k < n0
    · obtain ⟨b, o, rfl, _, hc⟩ := HF.out.2 (by omega)
      obtain ⟨s, hs⟩ : ∃ s, fs[k]? = some s := ⟨fs[k]'(by have := HF.out.1; omega), List.getElem?_eq_getElem _⟩
      have hcell := hc k s hs
      clear hc hs
      by_cases hsz : s.size ≤ 1048576
      · by_cases hz2 : z + (s.size : Int) ≤ 1048576
        · go_wp2
          go_round
          case rel => exact ⟨k + 1, z + s.size, by omega, by go_num, rfl, by omega, hz2⟩
          case measure => simp [intOf]; omega
        · go_wp2
          go_ret
          exact ⟨_, rfl, by omega, by omega, rfl⟩
      · go_wp2
        go_ret
        exact ⟨_, rfl, by omega, by omega, rfl⟩
    · go_wp2
      go_ret
      exact ⟨_, rfl, by omega, by omega, rfl⟩

def min3 (a b c : Nat) : Nat := min (min a b) c
theorem zzMin (a b c : Nat) (w : World) :
    Calls Try.prog 21 #[.int .i64 a, .int .i64 b, .int .i64 c] w fun e w' => e = .returned (.int .i64 (min3 a b c)) ∧ w' = w := by
  by_cases h1 : b < a
  · by_cases h2 : c < b
    · have e : min3 a b c = c := by unfold min3; omega
      rw [e]; clear e
      go_enter Try.func21, Try.ntmps21
      go_wp2
      go_ret
      exact ⟨rfl, rfl⟩
    · have e : min3 a b c = b := by unfold min3; omega
      rw [e]; clear e
      go_enter Try.func21, Try.ntmps21
      go_wp2
      go_ret
      exact ⟨rfl, rfl⟩
  · by_cases h2 : c < a
    · have e : min3 a b c = c := by unfold min3; omega
      rw [e]; clear e
      go_enter Try.func21, Try.ntmps21
      go_wp2
      go_ret
      exact ⟨rfl, rfl⟩
    · have e : min3 a b c = a := by unfold min3; omega
      rw [e]; clear e
      go_enter Try.func21, Try.ntmps21
      go_wp2
      go_ret
      exact ⟨rfl, rfl⟩

set_option maxHeartbeats 2000000 in
set_option maxRecDepth 100000 in
/-- Two slices of the same bytes. -/
theorem zzSame (b1 o1 c1 b2 o2 c2 n : Nat) (T : List Int) (w : World) (hn : n ≤ 70368744177664) (h1 : ∀ i, i < n → w.cell? ⟨b1, o1 + i, none⟩ = some (.int .u8 (T.getD i 0))) (h2 : ∀ i, i < n → w.cell? ⟨b2, o2 + i, none⟩ = some (.int .u8 (T.getD i 0))) :
    Calls Try.prog 23 #[.slice (some ⟨b1, o1, none⟩) n c1, .slice (some ⟨b2, o2, none⟩) n c2] w fun e w' => e = .returned (.bool true) ∧ ∃ m, w' = w.drewN m := by
  have H1 : Hid (∀ i, i < n → w.cell? ⟨b1, o1 + i, none⟩ = some (.int .u8 (T.getD i 0))) := h1
  have H2 : Hid (∀ i, i < n → w.cell? ⟨b2, o2 + i, none⟩ = some (.int .u8 (T.getD i 0))) := h2
  have hnn : ((n : Int) != (n : Int)) = false := by simp
  clear h1 h2
  go_enter Try.func23, Try.ntmps23
  go_wp2_with fail
  go_loopw [5] (fun i wr => ∃ k m : Nat, k ≤ n ∧ i = .int .i64 k ∧ wr = w.drewN m) (fun i _ => n - (intOf i).toNat)
  case atStart => exact ⟨0, 0, Nat.zero_le _, rfl, rfl⟩
  case round =>
    obtain ⟨k, m, hk, rfl, rfl⟩ := hrel
    by_cases hlt : k < n
    · have q1 := H1.out k hlt
      have q2 := H2.out k hlt
      have k0 : (0 : Int) ≤ (k : Int) := by omega
      have k1 : (k : Int) < (n : Int) := by omega
      generalize T.getD k 0 = c at *
      go_wp2_with fail
      go_quiet (fail)
      go_wp2
      go_roundw
      case rel => exact ⟨k + 1, _, by omega, by go_num, rfl⟩
      case measure => simp [intOf]; omega
    · go_wp2
      go_ret
      exact ⟨rfl, _, rfl⟩

end Go.Proofs.Qxb6600096a
