/-
  PLAIN LAWS ON oneOf's TEXT.
-/
import Derived.Test.Qxb6612587aOneOf
namespace Go.Proofs.Qxb6612587a
open Go.RowKit

theorem joinTail_append (s : List UInt8) (a b : List (List UInt8)) : Lib.joinTail s (a ++ b) = Lib.joinTail s a ++ Lib.joinTail s b := by simp [Lib.joinTail]
theorem joinTail_cons (s x : List UInt8) (r : List (List UInt8)) : Lib.joinTail s (x :: r) = s ++ Lib.join (x :: r) s := by
  rw [Lib.join_cons]; simp [Lib.joinTail]
theorem join_append (s x y : List UInt8) (a b : List (List UInt8)) : Lib.join ((x :: a) ++ (y :: b)) s = Lib.join (x :: a) s ++ s ++ Lib.join (y :: b) s := by
  rw [List.cons_append, Lib.join_cons, joinTail_append, joinTail_cons, Lib.join_cons x a]
  simp

theorem jn_append (a b : List ByteArray) (ha : 1 ≤ a.length) (hb : 1 ≤ b.length) : jn (a ++ b) = jn a ++ ⟨#[44, 32]⟩ ++ jn b := by
  match a, b, ha, hb with
  | x :: a, y :: b, _, _ =>
    apply ByteArray.ext
    have h := join_append [44, 32] x.data.toList y.data.toList (a.map (·.data.toList)) (b.map (·.data.toList))
    simp only [jn, List.map_append, List.map_cons] at h ⊢
    rw [h]
    simp
theorem jn_one (y : ByteArray) : jn [y] = y := by
  apply ByteArray.ext
  simp [jn, Lib.join_one]

/-- " or " and y. -/
def orB (y : ByteArray) : ByteArray := ⟨#[32, 111, 114, 32]⟩ ++ y

theorem orB_size (y : ByteArray) : (orB y).size = 4 + y.size := by
  rw [orB, ByteArray.size_append]; rfl

theorem oneB_eq (xs : List ByteArray) (y : ByteArray) : oneB xs y = jn xs ++ orB y := by
  apply ByteArray.ext
  simp [oneB, orB, ByteArray.data_append, Array.append_assoc]

theorem oneB_size (xs : List ByteArray) (y : ByteArray) : (oneB xs y).size = (jn xs).size + (4 + y.size) := by
  rw [oneB_eq, ByteArray.size_append, orB_size]

theorem oneB_len (xs : List ByteArray) (y : ByteArray) (h : 1 ≤ xs.length) : (oneB xs y).size = tot xs + y.size + 2 * (xs.length + 1) := by
  have := jn_size xs h
  rw [oneB_size]
  omega

theorem ext_left (a b : ByteArray) : (a ++ b).extract 0 a.size = a := by
  apply ByteArray.ext
  apply Array.toList_inj.1
  have e : a.size = a.data.toList.length := rfl
  simp only [ByteArray.data_extract, ByteArray.data_append, Array.toList_extract, Array.toList_append, List.extract_eq_take_drop, List.drop_zero, Nat.sub_zero]
  rw [e, List.take_left']
  rfl
theorem ext_right (a b : ByteArray) : (a ++ b).extract a.size (a ++ b).size = b := by
  apply ByteArray.ext
  apply Array.toList_inj.1
  have e : a.size = a.data.toList.length := rfl
  have e2 : (a ++ b).size - a.size = b.data.toList.length := by rw [ByteArray.size_append]; have : b.size = b.data.toList.length := rfl; omega
  simp only [ByteArray.data_extract, ByteArray.data_append, Array.toList_extract, Array.toList_append, List.extract_eq_take_drop]
  rw [e2, e, List.drop_left', List.take_length]
  rfl

theorem oneB_head (xs : List ByteArray) (y : ByteArray) : (oneB xs y).extract 0 ((oneB xs y).size - (orB y).size) = jn xs := by
  have e : (oneB xs y).size - (orB y).size = (jn xs).size := by rw [oneB_size, orB_size]; omega
  rw [e, oneB_eq, ext_left]
theorem oneB_tail (xs : List ByteArray) (y : ByteArray) : (oneB xs y).extract ((oneB xs y).size - (orB y).size) (oneB xs y).size = orB y := by
  have e : (oneB xs y).size - (orB y).size = (jn xs).size := by rw [oneB_size, orB_size]; omega
  rw [e, oneB_eq, ext_right]

theorem eq_bytes {a b : ByteArray} (h : a = b) : (a.toList == b.toList) = true := by rw [h]; simp

/-- The longer list's text out of the shorter one's parts. -/
theorem adds (xs : List ByteArray) (y k : ByteArray) (h : 1 ≤ xs.length) : ((oneB (xs ++ [y]) k).toList == (((jn xs ++ ⟨#[44, 32]⟩) ++ y) ++ ⟨#[32, 111, 114, 32]⟩ ++ k).toList) = true := by
  apply eq_bytes
  rw [oneB_eq, jn_append xs [y] h (by simp), jn_one, orB]
  apply ByteArray.ext
  simp [Array.append_assoc]

/-- The whole list's text out of the two parts'. -/
theorem splits (a b : List ByteArray) (y : ByteArray) (ha : 1 ≤ a.length) (hb : 1 ≤ b.length) : ((oneB (a ++ b) y).toList == ((jn a ++ ⟨#[44, 32]⟩) ++ oneB b y).toList) = true := by
  apply eq_bytes
  rw [oneB_eq, oneB_eq, jn_append a b ha hb]
  apply ByteArray.ext
  simp [Array.append_assoc]

end Go.Proofs.Qxb6612587a
