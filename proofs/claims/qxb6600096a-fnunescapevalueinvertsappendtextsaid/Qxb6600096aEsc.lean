/-
  THE PLAIN LAWS OF ESCAPING: what is escaped is read back; no Go in sight.
-/
import Derived.Test.Qxb6600096aText
namespace Go.Proofs.Qxb6600096a.Plain

/-- Numbers that are bytes. -/
def Bytes (l : List Int) : Prop := ∀ z ∈ l, 0 ≤ z ∧ z < 256
def strOf (l : List Int) : ByteArray := ⟨(l.map fun z => z.toNat.toUInt8).toArray⟩

theorem nums_bytes (s : ByteArray) : Bytes (nums s) := by
  intro z hz
  obtain ⟨b, _, rfl⟩ := List.mem_map.1 hz
  have := b.toNat_lt
  omega
theorem esc_bytes (l : List Int) (h : Bytes l) : Bytes (esc l) := by
  intro z hz
  obtain ⟨b, hb, hz⟩ := List.mem_flatMap.1 hz
  have hb' := h b hb
  unfold escB at hz
  split at hz
  · rcases List.mem_cons.1 hz with rfl | hz
    · omega
    · rcases List.mem_cons.1 hz with rfl | hz
      · exact hb'
      · cases hz
  · rcases List.mem_cons.1 hz with rfl | hz
    · exact hb'
    · cases hz
theorem byte_back (z : Int) (h : 0 ≤ z ∧ z < 256) : ((z.toNat.toUInt8).toNat : Int) = z := by
  rw [Nat.toUInt8_eq, UInt8.toNat_ofNat']
  omega
theorem nums_strOf (l : List Int) (h : Bytes l) : nums (strOf l) = l := by
  simp only [nums, strOf, List.map_map]
  have e : ∀ z ∈ l, ((fun b : UInt8 => (b.toNat : Int)) ∘ fun z : Int => z.toNat.toUInt8) z = z := fun z hz => byte_back z (h z hz)
  rw [List.map_congr_left e, List.map_id']
theorem strOf_size (l : List Int) : (strOf l).size = l.length := by
  show ((l.map _).toArray).size = _
  simp
theorem strOf_nums (s : ByteArray) : strOf (nums s) = s := by
  apply ByteArray.ext
  apply Array.ext'
  simp [strOf, nums, Function.comp_def]
theorem nums_at (s : ByteArray) (i : Nat) (h : i < s.size) : (nums s)[i]? = some ((s[i].toNat : Nat) : Int) := by
  have hd : i < s.data.size := h
  unfold nums
  rw [List.getElem?_map, Array.getElem?_toList, Array.getElem?_eq_getElem hd]
  rfl

/-- The escaped text, cut at byte j of the value. -/
theorem esc_cut (v raw : ByteArray) (hraw : nums raw = esc (nums v)) (j : Nat) (hj : j < v.size) :
    nums raw = esc ((nums v).take j) ++ (escB ((v[j].toNat : Nat) : Int) ++ esc ((nums v).drop (j + 1))) := by
  have hl : j < (nums v).length := by rw [nums_length]; exact hj
  have e : (nums v)[j] = ((v[j].toNat : Nat) : Int) := by
    have h := nums_at v j hj
    rw [List.getElem?_eq_getElem hl] at h
    exact Option.some.inj h
  rw [hraw]
  conv => lhs; rw [← List.take_append_drop j (nums v), List.drop_eq_getElem_cons hl, e]
  rw [esc_append]
  rfl
theorem esc_next (v : ByteArray) (j : Nat) (hj : j < v.size) : (esc ((nums v).take (j + 1))).length = (esc ((nums v).take j)).length + (escB ((v[j].toNat : Nat) : Int)).length := by
  have hl : j < (nums v).length := by rw [nums_length]; exact hj
  have e : (nums v)[j] = ((v[j].toNat : Nat) : Int) := by
    have h := nums_at v j hj
    rw [List.getElem?_eq_getElem hl] at h
    exact Option.some.inj h
  rw [List.take_succ_eq_append_getElem hl, esc_append, esc_one, List.length_append, e]

/-- At byte j of the value the escaped text holds the byte, or a backslash and the byte. -/
theorem esc_at (v raw : ByteArray) (hraw : nums raw = esc (nums v)) (j p : Nat) (hp : p = (esc ((nums v).take j)).length) (hj : j < v.size) :
    (∃ (h : p < raw.size) (h1 : p + 1 < raw.size), (raw[p]'h).toNat = 92 ∧ raw[p + 1]'h1 = v[j] ∧ p + 2 = (esc ((nums v).take (j + 1))).length) ∨
    (∃ h : p < raw.size, (raw[p]'h).toNat ≠ 92 ∧ raw[p]'h = v[j] ∧ p + 1 = (esc ((nums v).take (j + 1))).length) := by
  have hc := esc_cut v raw hraw j hj
  have hn := esc_next v j hj
  have hlen : raw.size = (nums raw).length := (nums_length raw).symm
  have at_ : ∀ i (h : i < raw.size) (z : Int), (nums raw)[i]? = some z → ((raw[i].toNat : Nat) : Int) = z := fun i h z hz => by
    have := nums_at raw i h
    rw [hz] at this
    exact (Option.some.inj this).symm
  have byteq : ∀ (a b : UInt8), ((a.toNat : Nat) : Int) = ((b.toNat : Nat) : Int) → a = b := fun a b h => UInt8.toNat_inj.1 (by omega)
  by_cases hb : ((v[j].toNat : Nat) : Int) = 92 ∨ ((v[j].toNat : Nat) : Int) = 124 ∨ ((v[j].toNat : Nat) : Int) = 38
  · left
    have he : escB ((v[j].toNat : Nat) : Int) = [92, ((v[j].toNat : Nat) : Int)] := by unfold escB; rw [if_pos hb]
    rw [he] at hc hn
    have h1 : p + 1 < raw.size := by rw [hlen, hc]; simp only [List.length_append, List.length_cons, List.length_nil]; omega
    have g0 := at_ p (by omega) 92 (by rw [hc, hp, List.getElem?_append_right (Nat.le_refl _), Nat.sub_self]; rfl)
    have g1 := at_ (p + 1) h1 ((v[j].toNat : Nat) : Int) (by rw [hc, hp, List.getElem?_append_right (by omega), show (esc ((nums v).take j)).length + 1 - (esc ((nums v).take j)).length = 1 from by omega]; rfl)
    exact ⟨by omega, h1, by omega, byteq _ _ g1, by rw [hn, hp]; rfl⟩
  · right
    have he : escB ((v[j].toNat : Nat) : Int) = [((v[j].toNat : Nat) : Int)] := by unfold escB; rw [if_neg hb]
    rw [he] at hc hn
    have h1 : p < raw.size := by rw [hlen, hc]; simp only [List.length_append, List.length_cons, List.length_nil]; omega
    have g0 := at_ p h1 ((v[j].toNat : Nat) : Int) (by rw [hc, hp, List.getElem?_append_right (Nat.le_refl _), Nat.sub_self]; rfl)
    exact ⟨h1, by omega, byteq _ _ g0, by rw [hn, hp]; rfl⟩

theorem esc_end (v raw : ByteArray) (hraw : nums raw = esc (nums v)) (j p : Nat) (hp : p = (esc ((nums v).take j)).length) (hj : v.size ≤ j) : p = raw.size := by
  rw [hp, List.take_of_length_le (by rw [nums_length]; exact hj), ← hraw, nums_length]

end Go.Proofs.Qxb6600096a.Plain
