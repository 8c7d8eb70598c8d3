/-
  THE PLAIN LAWS: the canonical text of a list of alternatives; no Go in sight.
-/
import Derived.WalkKit
namespace Go.Proofs.Qxb6600096a.Plain

/-- A string's bytes as numbers. -/
def nums (s : ByteArray) : List Int := s.data.toList.map fun b => (b.toNat : Int)
/-- One byte of a value, escaped. -/
def escB (b : Int) : List Int := if b = 92 ∨ b = 124 ∨ b = 38 then [92, b] else [b]
def esc (l : List Int) : List Int := l.flatMap escB
/-- One alternative: its field, its condition, its value escaped. -/
def alt (x : ByteArray × Int × ByteArray) : List Int := nums x.1 ++ x.2.1 :: esc (nums x.2.2)
/-- The alternatives behind the first, each with its bar. -/
def more (l : List (ByteArray × Int × ByteArray)) : List Int := l.flatMap fun y => 124 :: alt y
def text : List (ByteArray × Int × ByteArray) → List Int
  | [] => []
  | x :: r => alt x ++ more r

theorem nums_length (s : ByteArray) : (nums s).length = s.size := by
  simp [nums]
theorem escB_length (b : Int) : (escB b).length ≤ 2 := by
  unfold escB; split <;> simp
theorem esc_length (l : List Int) : (esc l).length ≤ 2 * l.length := by
  induction l with
  | nil => simp [esc]
  | cons b r ih =>
    have hb := escB_length b
    have e : esc (b :: r) = escB b ++ esc r := by simp [esc]
    rw [e, List.length_append, List.length_cons]
    omega
theorem esc_append (a b : List Int) : esc (a ++ b) = esc a ++ esc b := by simp [esc]
theorem esc_one (b : Int) : esc [b] = escB b := by simp [esc]

/-- The text of two parts, neither empty: the one, a bar, the other. -/
theorem text_join (a b : List (ByteArray × Int × ByteArray)) (ha : a ≠ []) (hb : b ≠ []) : text (a ++ b) = text a ++ 124 :: text b := by
  match a, ha, b, hb with
  | x :: r, _, y :: s, _ => simp [text, more]

theorem text_one (x : ByteArray × Int × ByteArray) : text [x] = alt x := by simp [text, more]
/-- One alternative more. -/
theorem text_snoc (a : List (ByteArray × Int × ByteArray)) (x : ByteArray × Int × ByteArray) (ha : a ≠ []) : text (a ++ [x]) = text a ++ 124 :: alt x := by
  rw [text_join a [x] ha (by simp), text_one]

theorem alt_length (x : ByteArray × Int × ByteArray) (h1 : x.1.size ≤ 1048576) (h2 : x.2.2.size ≤ 1048576) : (alt x).length ≤ 3145729 := by
  have h := esc_length (nums x.2.2)
  rw [nums_length] at h
  simp only [alt, List.length_append, List.length_cons, nums_length]
  omega
theorem more_length (l : List (ByteArray × Int × ByteArray)) (h : ∀ x ∈ l, x.1.size ≤ 1048576 ∧ x.2.2.size ≤ 1048576) : (more l).length ≤ l.length * 3145730 := by
  induction l with
  | nil => simp [more]
  | cons x r ih =>
    have hx := h x (by simp)
    have ha := alt_length x hx.1 hx.2
    have hr := ih fun y hy => h y (by simp [hy])
    have e : more (x :: r) = 124 :: alt x ++ more r := by simp [more]
    rw [e, List.length_append, List.length_cons, List.length_cons]
    omega
theorem text_length (l : List (ByteArray × Int × ByteArray)) (h : ∀ x ∈ l, x.1.size ≤ 1048576 ∧ x.2.2.size ≤ 1048576) : (text l).length ≤ l.length * 3145730 := by
  match l with
  | [] => simp [text]
  | x :: r =>
    have hx := h x (by simp)
    have ha := alt_length x hx.1 hx.2
    have hr := more_length r fun y hy => h y (by simp [hy])
    simp only [text, List.length_append, List.length_cons]
    omega

/-- The cells of a row of alternatives. -/
def row (l : List (ByteArray × Int × ByteArray)) : List Value := l.flatMap fun x => [.string x.1, .int .u8 x.2.1, .string x.2.2]
theorem row_length (l : List (ByteArray × Int × ByteArray)) : (row l).length = 3 * l.length := by
  induction l with
  | nil => simp [row]
  | cons x r ih =>
    have e : row (x :: r) = [.string x.1, .int .u8 x.2.1, .string x.2.2] ++ row r := by simp [row]
    rw [e, List.length_append, ih]; simp; omega
theorem row_append (a b : List (ByteArray × Int × ByteArray)) : row (a ++ b) = row a ++ row b := by simp [row]
theorem row_at (l : List (ByteArray × Int × ByteArray)) (k : Nat) (x : ByteArray × Int × ByteArray) (h : l[k]? = some x) :
    (row l)[k * 3]? = some (.string x.1) ∧ (row l)[k * 3 + 1]? = some (.int .u8 x.2.1) ∧ (row l)[k * 3 + 1 + 1]? = some (.string x.2.2) := by
  induction l generalizing k with
  | nil => simp at h
  | cons y r ih =>
    have e : row (y :: r) = .string y.1 :: .int .u8 y.2.1 :: .string y.2.2 :: row r := by simp [row]
    cases k with
    | zero => simp at h; subst h; rw [e]; simp
    | succ k =>
      have h' : r[k]? = some x := by simpa using h
      obtain ⟨i1, i2, i3⟩ := ih k h'
      rw [e, show (k + 1) * 3 = k * 3 + 1 + 1 + 1 from by omega]
      exact ⟨by simpa using i1, by simpa using i2, by simpa using i3⟩

end Go.Proofs.Qxb6600096a.Plain
