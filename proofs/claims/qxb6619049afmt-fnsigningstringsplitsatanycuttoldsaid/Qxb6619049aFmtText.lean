import Derived.Lib.Join
import Derived.Test.Qxb6619049aFmtPlain
namespace Go.Proofs.Qxb6619049aFmt
namespace Plain
set_option linter.unusedVariables false
set_option linter.unusedSimpArgs false

/-- One line, name then colon, blank, value. -/
def line (M : ByteArray → Option ByteArray) (x : ByteArray) : ByteArray := x ++ ⟨#[58, 32]⟩ ++ val M x

def lineL (M : ByteArray → Option ByteArray) (x : ByteArray) : List UInt8 := x.data.toList ++ [58, 32] ++ (val M x).data.toList

theorem line_data (M : ByteArray → Option ByteArray) (x : ByteArray) : (line M x).data.toList = lineL M x := by
  simp [line, lineL]

/-- The whole text. -/
def text (M : ByteArray → Option ByteArray) (xs : List ByteArray) : List UInt8 := Lib.join (xs.map (lineL M)) [10]

def allHave (M : ByteArray → Option ByteArray) (xs : List ByteArray) : Bool := xs.all (has M)

theorem lens_le (M : ByteArray → Option ByteArray) (xs : List ByteArray) : Lib.lens (xs.map (lineL M)) + xs.length ≤ cost M xs := by
  induction xs with
  | nil => simp [cost, Lib.lens]
  | cons x r ih =>
    simp only [List.map_cons, Lib.lens, List.sum_cons, List.length_cons, cost, lineL, List.length_append] at ih ⊢
    rw [Lib.size_eq, Lib.size_eq]
    simp only [List.length_cons, List.length_nil]
    omega

theorem text_le (M : ByteArray → Option ByteArray) (xs : List ByteArray) : (text M xs).length ≤ cost M xs := by
  cases xs with
  | nil => simp [text, Lib.join_nil]
  | cons x r =>
    have h := lens_le M (x :: r)
    unfold text
    rw [List.map_cons, Lib.join_length]
    simp only [List.map_cons, List.length_cons, List.length_map, List.length_nil] at h ⊢
    omega

/-- The join of two non-empty lists, parted by the separator. -/
theorem text_append (M : ByteArray → Option ByteArray) (a b : List ByteArray) (ha : a ≠ []) (hb : b ≠ []) : text M (a ++ b) = text M a ++ [10] ++ text M b := by
  obtain ⟨x, r, rfl⟩ := List.exists_cons_of_ne_nil ha
  obtain ⟨y, s, rfl⟩ := List.exists_cons_of_ne_nil hb
  simp only [text, List.cons_append, List.map_cons, List.map_append, Lib.join_cons]
  simp [Lib.joinTail, List.append_assoc]

theorem text_one (M : ByteArray → Option ByteArray) (x : ByteArray) : text M [x] = lineL M x := by
  simp [text, Lib.join_one]

theorem text_nil (M : ByteArray → Option ByteArray) : text M [] = [] := rfl

end Plain
end Go.Proofs.Qxb6619049aFmt
