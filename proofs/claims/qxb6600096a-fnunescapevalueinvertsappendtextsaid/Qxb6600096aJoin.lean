/-
  THE WALK OF FnAppendTextJoinsWithBar.
-/
import Derived.Test.Qxb6600096aAlts
namespace Go.Proofs.Qxb6600096a
open Go.RowKit Plain
set_option linter.unusedVariables false

theorem Owns.lower {w : World} {B B' : Nat} {v : Value} {T : List Int} (h : Owns w B v T) (hB : B' ≤ B) : Owns w B' v T := by
  refine ⟨h.1, ?_⟩
  rcases h.2 with h2 | ⟨g, cap, cur, hv, hg, r⟩
  · exact .inl h2
  · exact .inr ⟨g, cap, cur, hv, Nat.le_trans hB hg, r⟩

/-- What a slice that owns something looks like, and what its cells hold. -/
theorem Owns.form {w : World} {B : Nat} {v : Value} {T : List Int} (h : Owns w B v T) (hT : 0 < T.length) :
    ∃ g cap, v = .slice (some ⟨g, 0, none⟩) T.length cap ∧ g < w.heap.size ∧ T.length ≤ cap ∧ cap ≤ maxLen ∧ ∀ i, i < T.length → w.cell? ⟨g, 0 + i, none⟩ = some (.int .u8 (T.getD i 0)) := by
  rcases h.2 with ⟨_, h0⟩ | ⟨g, cap, cur, hv, _, hg, h1, h2, hs, ht⟩
  · omega
  · refine ⟨g, cap, hv, Lib.lt_of_heap hg, h1, h2, fun i hi => ?_⟩
    rw [Nat.zero_add, Lib.cell_of_heap hg]
    have e : (cur.toList.take (T.length * 1))[i]? = (T.map (Value.int .u8))[i]? := by rw [ht]
    rw [List.getElem?_take, if_pos (by omega), List.getElem?_map, List.getElem?_eq_getElem hi] at e
    rw [List.getD_eq_getElem?_getD, List.getElem?_eq_getElem hi]
    simpa using e

theorem zz_none (a : Option Addr) (c : Nat) (w : World) :
    Calls Try.prog 17 #[.agg #[.slice a 0 c], .slice none 0 0] w fun e w' => e = .returned (.slice none 0 0) ∧ Below w.heap.size w w' := by
  go_enter Try.func17, Try.ntmps17
  go_wp2_with fail
  refine (append_none _ _ _).mono ?_
  rintro e w' ⟨rfl, hb⟩
  have hb' : Below w.heap.size w w' := ((Below.refl _ _).alloc (Nat.le_refl _) _).trans (hb.mono (by simp))
  clear hb
  go_wp2
  go_ret
  exact ⟨rfl, hb'⟩

theorem zz_some (alts : List (ByteArray × Int × ByteArray)) (G n : Nat) (w : World) (hn : alts.length = n) (hN : n ≤ 65536) (hsz : ∀ x ∈ alts, x.1.size ≤ 1048576 ∧ x.2.2.size ≤ 1048576)
    (hG : w.heap[G]? = some (.cells (row alts).toArray 29 (0, 0))) :
    Calls Try.prog 17 #[.agg #[.slice (some ⟨G, 0, none⟩) n n], .slice none 0 0] w fun e w' => ∃ v, e = .returned v ∧ Owns w' w.heap.size v (text alts) ∧ Below w.heap.size w w' := by
  have hlt := Lib.lt_of_heap hG
  have H := append_some alts G n (w.alloc (.cells #[.slice (some ⟨G, 0, none⟩) n n] 32)) hn hN hsz (by rw [Below.heap_alloc _ _ _ hlt]; exact hG) (by simp; omega)
  clear hG hsz
  go_enter Try.func17, Try.ntmps17
  go_wp2_with fail
  refine H.mono ?_
  rintro e w' ⟨v, rfl, hown, hb⟩
  have hb' : Below w.heap.size w w' := ((Below.refl _ _).alloc (Nat.le_refl _) _).trans (hb.mono (by simp))
  have hown' : Hid (Owns w' w.heap.size v (text alts)) := hown.lower (by simp)
  clear hb hown H
  go_wp2
  go_ret
  exact ⟨v, rfl, hown'.out, hb'⟩

/-- The alternatives of the three slices, place by place. -/
def zip3 (fs : List ByteArray) (zs : List Int) (vs : List ByteArray) : List (ByteArray × Int × ByteArray) := fs.zip (zs.zip vs)
theorem zip3_length (fs : List ByteArray) (zs : List Int) (vs : List ByteArray) : (zip3 fs zs vs).length = min3 fs.length zs.length vs.length := by
  simp only [zip3, List.length_zip, min3]; omega
theorem zip3_zip (fs : List ByteArray) (zs : List Int) (vs : List ByteArray) : Zip (zip3 fs zs vs) fs zs vs := by
  intro i x hx
  obtain ⟨f, z, v⟩ := x
  rw [zip3, List.getElem?_zip_eq_some, List.getElem?_zip_eq_some] at hx
  exact ⟨hx.1, hx.2.1, hx.2.2⟩

theorem alts0 (a0 a1 a2 : Option Addr) (n0 c0 n1 c1 n2 c2 : Nat) (fs vs : List ByteArray) (zs : List Int) (al : List (ByteArray × Int × ByteArray)) (m : Nat) (w : World) (hf : Strs w w.heap.size a0 n0 fs) (hc : Byts w w.heap.size a1 n1 zs) (hv : Strs w w.heap.size a2 n2 vs)
    (hz : Zip al fs zs vs) (hal : al.length ≤ 65536) (hm : m ≤ al.length) (hm0 : 0 < m) :
    Calls Try.prog 22 #[.slice a0 n0 c0, .slice a1 n1 c1, .slice a2 n2 c2, .int .i64 0, .int .i64 (m : Int)] w (Laid (al.take m) w m) := by
  have h := zzAlts a0 a1 a2 n0 c0 n1 c1 n2 c2 fs vs zs al 0 m w hf hc hv hz hal (by omega) hm0
  have e : ((0 : Nat) : Int) = 0 := rfl
  rw [Nat.zero_add, List.drop_zero, e] at h
  exact h
theorem altsFrom (a0 a1 a2 : Option Addr) (n0 c0 n1 c1 n2 c2 : Nat) (fs vs : List ByteArray) (zs : List Int) (al : List (ByteArray × Int × ByteArray)) (k n : Nat) (w : World) (hf : Strs w w.heap.size a0 n0 fs) (hc : Byts w w.heap.size a1 n1 zs) (hv : Strs w w.heap.size a2 n2 vs)
    (hz : Zip al fs zs vs) (hal : al.length ≤ 65536) (hn : al.length = n) (hk : k < n) :
    Calls Try.prog 22 #[.slice a0 n0 c0, .slice a1 n1 c1, .slice a2 n2 c2, .int .i64 (k : Int), .int .i64 (n : Int)] w (Laid (al.drop k) w (n - k)) := by
  have h := zzAlts a0 a1 a2 n0 c0 n1 c1 n2 c2 fs vs zs al k (n - k) w hf hc hv hz hal (by omega) (by omega)
  rw [show k + (n - k) = n from by omega, List.take_of_length_le (by rw [List.length_drop]; omega)] at h
  exact h

theorem Strs.later {w w' : World} {B B' : Nat} {a : Option Addr} {n : Nat} {ss : List ByteArray} (h : Strs w B a n ss) (hb : Below B w w') (hB : B ≤ B') : Strs w' B' a n ss :=
  ⟨h.1, fun hn => by
    obtain ⟨b, o, ha, hlt, hc⟩ := (h.below hb).2 hn
    exact ⟨b, o, ha, Nat.lt_of_lt_of_le hlt hB, hc⟩⟩
theorem Byts.later {w w' : World} {B B' : Nat} {a : Option Addr} {n : Nat} {ss : List Int} (h : Byts w B a n ss) (hb : Below B w w') (hB : B ≤ B') : Byts w' B' a n ss :=
  ⟨h.1, fun hn => by
    obtain ⟨b, o, ha, hlt, hc⟩ := (h.below hb).2 hn
    exact ⟨b, o, ha, Nat.lt_of_lt_of_le hlt hB, hc⟩⟩

theorem text_pos (l : List (ByteArray × Int × ByteArray)) (h : l ≠ []) : 0 < (text l).length := by
  match l, h with
  | x :: r, _ => simp only [text, alt, List.length_append, List.length_cons]; omega

set_option maxHeartbeats 4000000 in
set_option maxRecDepth 100000 in
theorem join_main (a0 a1 a2 : Option Addr) (n0 c0 n1 c1 n2 c2 : Nat) (fs vs : List ByteArray) (zs : List Int) (sp : Int) (w : World) (hf : Strs w w.heap.size a0 n0 fs) (hc : Byts w w.heap.size a1 n1 zs) (hv : Strs w w.heap.size a2 n2 vs)
    (l0 : n0 ≤ 65536) (l1 : n1 ≤ 65536) (l2 : n2 ≤ 65536) (hs0 : 0 ≤ sp) (hs1 : sp < 4294967296) (n : Nat) (hn : min3 n0 n1 n2 = n) (hn2 : 2 ≤ n) :
    Calls Try.prog 7 #[.slice a0 n0 c0, .slice a1 n1 c1, .slice a2 n2 c2, .int .u32 sp] w fun e w' => e = .returned (.bool true) ∧ Below w.heap.size w w' := by
  have H24 := zzBytes a0 a1 a2 n0 c0 n1 c1 n2 c2 fs vs sp w.heap.size w hf hv
  have H19 := zzStrings a0 n0 c0 fs w.heap.size w hf l0
  have H19' := zzStrings a2 n2 c2 vs w.heap.size w hv l2
  have H21 := zzMin n0 n1 n2 w
  rw [hn] at H21
  go_enter Try.func7, Try.ntmps7
  go_wp2_with fail
  refine H24.mono ?_
  rintro e w' ⟨rfl, rfl | ⟨rfl, hfit⟩⟩
  · go_wp2
    go_ret
    exact ⟨rfl, Below.refl _ _⟩
  clear H24
  have HFit : Hid ((∀ (i : Nat) (s : ByteArray), fs[i]? = some s → s.size ≤ 1048576) ∧ ∀ (i : Nat) (s : ByteArray), vs[i]? = some s → s.size ≤ 1048576) := hfit
  have HF : Hid (Strs w' w'.heap.size a0 n0 fs) := hf
  have HC : Hid (Byts w' w'.heap.size a1 n1 zs) := hc
  have HV : Hid (Strs w' w'.heap.size a2 n2 vs) := hv
  clear hfit hf hc hv
  go_wp2_with fail
  refine H19.mono ?_
  rintro e w1 ⟨z1, rfl, z10, z11, rfl⟩
  go_wp2_with fail
  refine H19'.mono ?_
  rintro e w2 ⟨z2, rfl, z20, z21, rfl⟩
  by_cases htot : 1048576 < z1 + z2 + (n1 : Int)
  · go_wp2
    go_ret
    exact ⟨rfl, Below.refl _ _⟩
  clear H19 H19'
  go_wp2_with fail
  refine H21.mono ?_
  rintro e w3 ⟨rfl, rfl⟩
  have e0 : ((n : Int) == 0) = false := beq_eq_false_iff_ne.2 (by omega)
  have e1 : ((n : Int) == 1) = false := beq_eq_false_iff_ne.2 (by omega)
  have HN : Hid (min3 n0 n1 n2 = n) := hn
  have hn65 : n ≤ 65536 := by unfold min3 at hn; omega
  clear hn H21
  go_wp2_with fail
  -- where the split lies
  obtain ⟨k, hk, hk1, hk2⟩ : ∃ k : Nat, wrap64 (1 + wrap64 (sp % ((n : Int) - 1))) = (k : Int) ∧ 1 ≤ k ∧ k < n := by
    have r0 : 0 ≤ sp % ((n : Int) - 1) := Int.emod_nonneg _ (by omega)
    have r1 : sp % ((n : Int) - 1) < (n : Int) - 1 := Int.emod_lt_of_pos _ (by omega)
    generalize sp % ((n : Int) - 1) = r at *
    refine ⟨(1 + r).toNat, ?_, by omega, by omega⟩
    unfold wrap64
    omega
  rw [hk]
  clear hk hs0 hs1
  -- the alternatives
  obtain ⟨al, hal⟩ : ∃ al, al = zip3 fs zs vs := ⟨_, rfl⟩
  have hZ : Zip al fs zs vs := by rw [hal]; exact zip3_zip fs zs vs
  have hL : al.length = n := by rw [hal, zip3_length, HF.out.1, HC.out.1, HV.out.1]; exact HN.out
  have hSz : ∀ x ∈ al, x.1.size ≤ 1048576 ∧ x.2.2.size ≤ 1048576 := by
    intro x hx
    obtain ⟨i, hi⟩ := List.mem_iff_getElem?.1 hx
    obtain ⟨h1, _, h3⟩ := hZ i x hi
    exact ⟨HFit.out.1 i _ h1, HFit.out.2 i _ h3⟩
  clear hal HN HFit
  have HZ : Hid (Zip al fs zs vs) := hZ
  have HL : Hid (al.length = n) := hL
  have HSz : Hid (∀ x ∈ al, x.1.size ≤ 1048576 ∧ x.2.2.size ≤ 1048576) := hSz
  clear hZ hL hSz
  -- the whole
  have H22 := alts0 a0 a1 a2 n0 c0 n1 c1 n2 c2 fs vs zs al n w3 HF.out HC.out HV.out HZ.out (by rw [HL.out]; exact hn65) (by rw [HL.out]; exact Nat.le_refl _) (by omega)
  rw [List.take_of_length_le (Nat.le_of_eq HL.out)] at H22
  refine H22.mono ?_
  rintro e w4 ⟨rfl, hG4, hb4⟩
  clear H22
  go_wp2_with fail
  refine (zz_some al _ n w4 HL.out hn65 HSz.out hG4).mono ?_
  rintro e w5 ⟨v5, rfl, ho5, hb5⟩
  obtain ⟨T1, hT1⟩ : ∃ T1, T1 = text al := ⟨_, rfl⟩
  obtain ⟨T2, hT2⟩ : ∃ T2, T2 = text (al.take k) := ⟨_, rfl⟩
  obtain ⟨T3, hT3⟩ : ∃ T3, T3 = text (al.drop k) := ⟨_, rfl⟩
  have HT2 : Hid (T2 = text (al.take k)) := hT2
  have HT3 : Hid (T3 = text (al.drop k)) := hT3
  have ne2 : al.take k ≠ [] := by intro e; have := congrArg List.length e; rw [List.length_take, HL.out, List.length_nil] at this; omega
  have ne3 : al.drop k ≠ [] := by intro e; have := congrArg List.length e; rw [List.length_drop, HL.out, List.length_nil] at this; omega
  have hJ : T1 = T2 ++ 124 :: T3 := by rw [hT1, hT2, hT3, ← text_join _ _ ne2 ne3, List.take_append_drop]
  have p2 : 0 < T2.length := by rw [hT2]; exact text_pos _ ne2
  have p3 : 0 < T3.length := by rw [hT3]; exact text_pos _ ne3
  have big : T1.length ≤ 206158561280 := by
    have h := text_take_length al n HSz.out (by rw [HL.out]; exact hn65)
    rw [List.take_of_length_le (Nat.le_of_eq HL.out)] at h
    rw [hT1]; exact h
  have hlen : T1.length = T2.length + 1 + T3.length := by rw [hJ]; simp; omega
  rw [← hT1] at ho5
  clear hT1 hT2 hT3 ne2 ne3
  have HJ : Hid (T1 = T2 ++ 124 :: T3) := hJ
  clear hJ
  have bel5 : Below w3.heap.size w3 w5 := hb4.trans (hb5.mono hb4.size)
  obtain ⟨g1, cap1, hv5, hg1, hc1, hm1, cells1⟩ := ho5.form (by omega)
  rw [hv5]
  clear hv5 ho5 hb5 hb4 hG4 w4
  -- the left part
  go_wp2_with fail
  have H22b := alts0 a0 a1 a2 n0 c0 n1 c1 n2 c2 fs vs zs al k w5 (HF.out.later bel5 bel5.size) (HC.out.later bel5 bel5.size) (HV.out.later bel5 bel5.size) HZ.out (by rw [HL.out]; exact hn65) (by rw [HL.out]; omega) (by omega)
  refine H22b.mono ?_
  rintro e w6 ⟨rfl, hG6, hb6⟩
  clear H22b
  go_wp2_with fail
  refine (zz_some (al.take k) _ k w6 (by rw [List.length_take, HL.out]; omega) (by omega) (fun x hx => HSz.out x (List.mem_of_mem_take hx)) hG6).mono ?_
  rintro e w7 ⟨v7, rfl, ho7, hb7⟩
  rw [← HT2.out] at ho7
  have bel57 : Below w5.heap.size w5 w7 := hb6.trans (hb7.mono hb6.size)
  have bel7 : Below w3.heap.size w3 w7 := bel5.trans (bel57.mono bel5.size)
  obtain ⟨g2, cap2, hv7, hg2, hc2, hm2, cells2⟩ := ho7.form p2
  rw [hv7]
  clear hv7 ho7 hb7 hb6 hG6 w6
  -- the right part
  go_wp2_with fail
  have H22c := altsFrom a0 a1 a2 n0 c0 n1 c1 n2 c2 fs vs zs al k n w7 (HF.out.later bel7 bel7.size) (HC.out.later bel7 bel7.size) (HV.out.later bel7 bel7.size) HZ.out (by rw [HL.out]; exact hn65) HL.out hk2
  refine H22c.mono ?_
  rintro e w8 ⟨rfl, hG8, hb8⟩
  clear H22c
  go_wp2_with fail
  refine (zz_some (al.drop k) _ (n - k) w8 (by rw [List.length_drop, HL.out]) (by omega) (fun x hx => HSz.out x (List.mem_of_mem_drop hx)) hG8).mono ?_
  rintro e w9 ⟨v9, rfl, ho9, hb9⟩
  rw [← HT3.out] at ho9
  have bel79 : Below w7.heap.size w7 w9 := hb8.trans (hb9.mono hb8.size)
  have bel9 : Below w3.heap.size w3 w9 := bel7.trans (bel79.mono bel7.size)
  obtain ⟨g3, cap3, hv9, hg3, hc3, hm3, cells3⟩ := ho9.form p3
  rw [hv9]
  -- what lies where, at the end
  have C1 : Hid (∀ i, i < T1.length → w9.cell? ⟨g1, 0 + i, none⟩ = some (.int .u8 (T1.getD i 0))) := fun i hi => by
    have h57 := bel57.cell (p := ⟨g1, 0 + i, none⟩) hg1
    have h79 := bel79.cell (p := ⟨g1, 0 + i, none⟩) (Nat.lt_of_lt_of_le hg1 bel57.size)
    rw [h79, h57]; exact cells1 i hi
  have C2 : Hid (∀ i, i < T2.length → w9.cell? ⟨g2, 0 + i, none⟩ = some (.int .u8 (T2.getD i 0))) := fun i hi => by
    have h79 := bel79.cell (p := ⟨g2, 0 + i, none⟩) hg2
    rw [h79]; exact cells2 i hi
  have C3 : Hid (∀ i, i < T3.length → w9.cell? ⟨g3, 0 + i, none⟩ = some (.int .u8 (T3.getD i 0))) := cells3
  clear hv9 ho9 hb9 hb8 hG8 w8 cells1 cells2 cells3 bel57 bel79 bel5 bel7 hg1 hg2 hg3 HF HC HV HZ HL HSz HT2 HT3
  unfold maxLen at hm1 hm2 hm3
  go_wp2_with fail
  refine (zzSame g1 0 cap1 g2 0 cap2 T2.length T2 w9 (by omega) (fun i hi => ?_) C2.out).mono ?_
  · rw [C1.out i (by omega), HJ.out]
    simp [List.getD_eq_getElem?_getD, List.getElem?_append_left hi]
  rintro e w10 ⟨rfl, m1, rfl⟩
  have q1 : w9.cell? ⟨g1, T2.length, none⟩ = some (.int .u8 124) := by
    have h := C1.out T2.length (by omega)
    rw [Nat.zero_add, HJ.out] at h
    rw [h]
    simp [List.getD_eq_getElem?_getD]
  have i0 : (T2.length : Int) < ((T2.length + 1 + T3.length : Nat) : Int) := by omega
  have hcap : ¬ cap1 = T2.length + 1 := by omega
  go_wp2_with fail
  refine (zzSame g1 (T2.length + 1) (cap1 - (T2.length + 1)) g3 0 cap3 T3.length T3 (w9.drewN m1) (by omega) (fun i hi => ?_) C3.out).mono ?_
  · have h := C1.out (T2.length + 1 + i) (by omega)
    rw [Nat.zero_add, HJ.out] at h
    show w9.cell? _ = _
    rw [h]
    simp only [List.getD_eq_getElem?_getD]
    rw [List.getElem?_append_right (by omega), show T2.length + 1 + i - T2.length = i + 1 from by omega, List.getElem?_cons_succ]
  rintro e w11 ⟨rfl, m2, rfl⟩
  clear q1 C1 C2 C3 HJ
  go_wp2
  go_ret
  exact ⟨rfl, below_drewN bel9 _⟩

/-- Everything ahead of the main road: the Go function says true itself. -/
theorem join_few (a0 a1 a2 : Option Addr) (n0 c0 n1 c1 n2 c2 : Nat) (fs vs : List ByteArray) (sp : Int) (w : World) (hf : Strs w w.heap.size a0 n0 fs) (hv : Strs w w.heap.size a2 n2 vs)
    (l0 : n0 ≤ 65536) (l1 : n1 ≤ 65536) (l2 : n2 ≤ 65536) (n : Nat) (hn : min3 n0 n1 n2 = n) (hn2 : n < 2) :
    Calls Try.prog 7 #[.slice a0 n0 c0, .slice a1 n1 c1, .slice a2 n2 c2, .int .u32 sp] w fun e w' => e = .returned (.bool true) ∧ Below w.heap.size w w' := by
  have H24 := zzBytes a0 a1 a2 n0 c0 n1 c1 n2 c2 fs vs sp w.heap.size w hf hv
  have H19 := zzStrings a0 n0 c0 fs w.heap.size w hf l0
  have H19' := zzStrings a2 n2 c2 vs w.heap.size w hv l2
  have H21 := zzMin n0 n1 n2 w
  rw [hn] at H21
  clear hf hv hn
  go_enter Try.func7, Try.ntmps7
  go_wp2_with fail
  refine H24.mono ?_
  rintro e w' ⟨rfl, rfl | ⟨rfl, hfit⟩⟩
  · go_wp2
    go_ret
    exact ⟨rfl, Below.refl _ _⟩
  clear H24 hfit
  go_wp2_with fail
  refine H19.mono ?_
  rintro e w1 ⟨z1, rfl, z10, z11, rfl⟩
  go_wp2_with fail
  refine H19'.mono ?_
  rintro e w2 ⟨z2, rfl, z20, z21, rfl⟩
  by_cases htot : 1048576 < z1 + z2 + (n1 : Int)
  · go_wp2
    go_ret
    exact ⟨rfl, Below.refl _ _⟩
  clear H19 H19'
  go_wp2_with fail
  refine H21.mono ?_
  rintro e w3 ⟨rfl, rfl⟩
  clear H21
  by_cases h0 : n = 0
  · have e0 : ((n : Int) == 0) = true := beq_iff_eq.2 (by omega)
    clear h0
    go_wp2_with fail
    refine (zz_none _ _ _).mono ?_
    rintro e w4 ⟨rfl, hb⟩
    go_wp2
    go_ret
    exact ⟨rfl, hb⟩
  · have e0 : ((n : Int) == 0) = false := beq_eq_false_iff_ne.2 (by omega)
    have e1 : ((n : Int) == 1) = true := beq_iff_eq.2 (by omega)
    go_wp2
    go_ret
    exact ⟨rfl, Below.refl _ _⟩

theorem join_long (a0 a1 a2 : Option Addr) (n0 c0 n1 c1 n2 c2 : Nat) (fs vs : List ByteArray) (sp : Int) (w : World) (hf : Strs w w.heap.size a0 n0 fs) (hv : Strs w w.heap.size a2 n2 vs)
    (hl : 65536 < n0 ∨ (n0 ≤ 65536 ∧ 65536 < n1) ∨ (n0 ≤ 65536 ∧ n1 ≤ 65536 ∧ 65536 < n2)) :
    Calls Try.prog 7 #[.slice a0 n0 c0, .slice a1 n1 c1, .slice a2 n2 c2, .int .u32 sp] w fun e w' => e = .returned (.bool true) ∧ Below w.heap.size w w' := by
  have H24 := zzBytes a0 a1 a2 n0 c0 n1 c1 n2 c2 fs vs sp w.heap.size w hf hv
  clear hf hv
  rcases hl with h1 | ⟨h1, h2⟩ | ⟨h1, h2, h3⟩
  all_goals
    go_enter Try.func7, Try.ntmps7
    go_wp2_with fail
    refine H24.mono ?_
    rintro e w' ⟨rfl, rfl | ⟨rfl, hfit⟩⟩
  all_goals
    go_wp2
    go_ret
    exact ⟨rfl, Below.refl _ _⟩

/-- THE LAW's WALK. -/
theorem join (a0 a1 a2 : Option Addr) (n0 c0 n1 c1 n2 c2 : Nat) (fs vs : List ByteArray) (zs : List Int) (sp : Int) (w : World) (hf : Strs w w.heap.size a0 n0 fs) (hc : Byts w w.heap.size a1 n1 zs) (hv : Strs w w.heap.size a2 n2 vs)
    (hs0 : 0 ≤ sp) (hs1 : sp < 4294967296) :
    Calls Try.prog 7 #[.slice a0 n0 c0, .slice a1 n1 c1, .slice a2 n2 c2, .int .u32 sp] w fun e w' => e = .returned (.bool true) ∧ Below w.heap.size w w' := by
  by_cases hl : 65536 < n0 ∨ (n0 ≤ 65536 ∧ 65536 < n1) ∨ (n0 ≤ 65536 ∧ n1 ≤ 65536 ∧ 65536 < n2)
  · exact join_long a0 a1 a2 n0 c0 n1 c1 n2 c2 fs vs sp w hf hv hl
  · by_cases h2 : min3 n0 n1 n2 < 2
    · exact join_few a0 a1 a2 n0 c0 n1 c1 n2 c2 fs vs sp w hf hv (by omega) (by omega) (by omega) _ rfl h2
    · exact join_main a0 a1 a2 n0 c0 n1 c1 n2 c2 fs vs zs sp w hf hc hv (by omega) (by omega) (by omega) hs0 hs1 _ rfl (by omega)

end Go.Proofs.Qxb6600096a
