/-
  THE PLAIN LAWS: the CREATE TABLE statement as a function of its table, its definitions and its constraints.
-/
import Derived.Laws.Concat
import Derived.Lib.Strings
namespace Go.Proofs.Qxb6618427a
set_option linter.unusedVariables false

/-- The statement's fixed beginning. -/
def preB : ByteArray := ⟨#[67, 82, 69, 65, 84, 69, 32, 84, 65, 66, 76, 69, 32, 73, 70, 32, 78, 79, 84, 32, 69, 88, 73, 83, 84, 83, 32]⟩
def openB : ByteArray := ⟨#[32, 40]⟩
def commaB : ByteArray := ⟨#[44, 32]⟩
def closeB : ByteArray := ⟨#[41]⟩

/-- The definitions, each constraint behind them. -/
def joinc (d : ByteArray) (cs : List ByteArray) : ByteArray := cs.foldl (fun acc c => acc ++ (commaB ++ c)) d

/-- The head: the beginning, the table, the bracket. -/
def head (t : ByteArray) : ByteArray := preB ++ t ++ openB

/-- The whole statement. -/
def ct (t d : ByteArray) (cs : List ByteArray) : ByteArray := head t ++ joinc d cs ++ closeB

/-- How many bytes the constraints add. -/
def weight (cs : List ByteArray) : Nat := (cs.map fun c => c.size + 2).sum

theorem ba_assoc (a b c : ByteArray) : a ++ b ++ c = a ++ (b ++ c) := ByteArray.append_assoc

theorem joinc_size (d : ByteArray) (cs : List ByteArray) : (joinc d cs).size = d.size + weight cs := by
  induction cs generalizing d with
  | nil => simp [joinc, weight]
  | cons c cs ih =>
    have h := ih (d ++ (commaB ++ c))
    have e : joinc d (c :: cs) = joinc (d ++ (commaB ++ c)) cs := rfl
    have e2 : commaB.size = 2 := rfl
    rw [e, h]
    simp only [ByteArray.size_append, weight, List.map_cons, List.sum_cons, e2]
    omega

theorem joinc_append (d : ByteArray) (cs ds : List ByteArray) : joinc d (cs ++ ds) = joinc (joinc d cs) ds := by simp [joinc, List.foldl_append]

theorem joinc_snoc (d : ByteArray) (cs : List ByteArray) (c : ByteArray) : joinc d (cs ++ [c]) = joinc d cs ++ (commaB ++ c) := by simp [joinc, List.foldl_append]

theorem head_size (t : ByteArray) : (head t).size = t.size + 29 := by
  have e1 : preB.size = 27 := rfl
  have e2 : openB.size = 2 := rfl
  simp only [head, ByteArray.size_append, e1, e2]; omega

theorem ct_size (t d : ByteArray) (cs : List ByteArray) : (ct t d cs).size = t.size + 30 + d.size + weight cs := by
  have e : closeB.size = 1 := rfl
  simp only [ct, ByteArray.size_append, head_size, joinc_size, e]; omega

theorem weight_append (a b : List ByteArray) : weight (a ++ b) = weight a + weight b := by simp [weight, List.sum_append]

/-- One constraint is the same as none over the longer definitions. -/
theorem ct_one (t d c : ByteArray) : ct t d [c] = ct t (d ++ commaB ++ c) [] := by
  simp only [ct, joinc, List.foldl_cons, List.foldl_nil, ba_assoc]

theorem ct_data (t d : ByteArray) (cs : List ByteArray) : (ct t d cs).data.toList = (head t).data.toList ++ ((joinc d cs).data.toList ++ [41]) := by
  unfold ct
  rw [ByteArray.data_append, ByteArray.data_append, Array.toList_append, Array.toList_append, List.append_assoc]
  rfl

theorem data_len (b : ByteArray) : b.data.toList.length = b.size := by rw [Array.length_toList]; rfl

/-- The definitions part of a statement. -/
theorem ct_mid (t d : ByteArray) (cs : List ByteArray) : (ct t d cs).extract (head t).size ((ct t d cs).size - 1) = joinc d cs := by
  apply ByteArray.ext
  apply Array.ext'
  rw [Lib.extract_data, ct_data, List.drop_left' (data_len _), ct_size, head_size]
  apply List.take_left'
  rw [data_len, joinc_size]
  omega

theorem ct_front (t d : ByteArray) (cs : List ByteArray) : (ct t d cs).extract 0 (head t).size = head t := by
  apply ByteArray.ext
  apply Array.ext'
  rw [Lib.extract_data, ct_data, List.drop_zero, Nat.sub_zero]
  exact List.take_left' (data_len _)

theorem ct_last (t d : ByteArray) (cs : List ByteArray) (h : (ct t d cs).size - 1 < (ct t d cs).size) : (ct t d cs)[(ct t d cs).size - 1] = 41 := by
  have e : (ct t d cs).data.toList[(ct t d cs).size - 1]? = some 41 := by
    rw [ct_data, List.getElem?_append_right (by rw [data_len, ct_size, head_size]; omega), List.getElem?_append_right (by rw [data_len, data_len, ct_size, head_size, joinc_size]; omega)]
    have e0 : (ct t d cs).size - 1 - (head t).data.toList.length - (joinc d cs).data.toList.length = 0 := by rw [data_len, data_len, ct_size, head_size, joinc_size]; omega
    rw [e0]; rfl
  have h' : (ct t d cs).size - 1 < (ct t d cs).data.toList.length := by rw [data_len]; exact h
  rw [List.getElem?_eq_getElem h'] at e
  have := Option.some.inj e
  rw [← this]
  rfl

/-- Cut anywhere. -/
theorem ct_cut (t d : ByteArray) (cs : List ByteArray) (k : Nat) : ct t d cs = ct t (joinc d (cs.take k)) (cs.drop k) := by
  have e : cs = cs.take k ++ cs.drop k := (List.take_append_drop k cs).symm
  unfold ct
  rw [← joinc_append, List.take_append_drop]
end Go.Proofs.Qxb6618427a
