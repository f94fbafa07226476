/-
  LawS6472AWhole: the plain part: bytes of strings compared one by one against 'begins with', 'ends with'; the bytes between.
-/
import Derived.Test.YbulkeczyACallees
namespace Go.Proofs.Ybulkeczy
open Go.RowKit

/-- From place off on, the first k bytes of t are the first k bytes of p. -/
def eqUp (t p : ByteArray) (off k : Nat) : Bool := decide (∀ i, i < k → t.data.toList[off + i]? = p.data.toList[i]?)
theorem eqUp_zero (t p : ByteArray) (off : Nat) : eqUp t p off 0 = true := by simp [eqUp]
theorem get_data (t : ByteArray) (i : Nat) (h : i < t.size) : t.data.toList[i]? = some t[i] := by
  rw [List.getElem?_eq_getElem (by simpa using h)]; rfl
theorem eqUp_succ (t p : ByteArray) (off k : Nat) (h1 : off + k < t.size) (h2 : k < p.size) (he : ((t[off + k].toNat : Int) != (p[k].toNat : Int)) = false) : eqUp t p off (k + 1) = eqUp t p off k := by
  have e : t[off + k] = p[k] := by
    have : t[off + k].toNat = p[k].toNat := by have h' : (t[off + k].toNat : Int) = (p[k].toNat : Int) := by simpa using he
                                               omega
    exact UInt8.toNat.inj this
  rw [eqUp, eqUp, Bool.eq_iff_iff, decide_eq_true_iff, decide_eq_true_iff]
  constructor
  · exact fun h i hi => h i (by omega)
  · intro h i hi
    by_cases ei : i = k
    · subst ei; rw [get_data t _ h1, get_data p _ h2, e]
    · exact h i (by omega)
theorem eqUp_ne (t p : ByteArray) (off k : Nat) (h1 : off + k < t.size) (h2 : k < p.size) (he : ((t[off + k].toNat : Int) != (p[k].toNat : Int)) = true) : eqUp t p off (k + 1) = false := by
  rw [eqUp, decide_eq_false_iff_not]
  intro h
  have := h k (by omega)
  rw [get_data t _ h1, get_data p _ h2] at this
  simp at this
  simp [this] at he
theorem eqUp_succ0 (t p : ByteArray) (k : Nat) (h1 : k < t.size) (h2 : k < p.size) (he : ((t[k].toNat : Int) != (p[k].toNat : Int)) = false) : eqUp t p 0 (k + 1) = eqUp t p 0 k :=
  eqUp_succ t p 0 k (by omega) h2 (by simpa using he)
theorem eqUp_ne0 (t p : ByteArray) (k : Nat) (h1 : k < t.size) (h2 : k < p.size) (he : ((t[k].toNat : Int) != (p[k].toNat : Int)) = true) : eqUp t p 0 (k + 1) = false :=
  eqUp_ne t p 0 k (by omega) h2 (by simpa using he)
theorem extract_toList (t : ByteArray) (a b : Nat) : (t.extract a b).toList = (t.data.toList.drop a).take (b - a) := by
  rw [ByteArray.toList_eq]
  obtain ⟨⟨l⟩⟩ := t
  rw [ByteArray.extract_mk]
theorem eqUp_all (t p : ByteArray) (off : Nat) (_h : off + p.size ≤ t.size) : eqUp t p off p.size = ((t.data.toList.drop off).take p.size == p.data.toList) := by
  rw [Bool.eq_iff_iff, eqUp, decide_eq_true_iff, beq_iff_eq]
  have hp : p.data.toList.length = p.size := by simp
  have ht : t.data.toList.length = t.size := by simp
  constructor
  · intro hh
    apply List.ext_getElem?
    intro i
    by_cases hi : i < p.size
    · rw [List.getElem?_take_of_lt hi, List.getElem?_drop]; exact hh i hi
    · rw [List.getElem?_eq_none (by simp; omega), List.getElem?_eq_none (by omega)]
  · intro hh i hi
    rw [← hh, List.getElem?_take_of_lt hi, List.getElem?_drop]
theorem preB_eq (t p : ByteArray) (h : p.size ≤ t.size) : eqUp t p 0 p.size = preB t p := by
  rw [eqUp_all t p 0 (by omega), preB, extract_toList, ByteArray.toList_eq, Nat.sub_zero]
theorem sufB_eq (t x : ByteArray) (h : x.size ≤ t.size) : eqUp t x (t.size - x.size) x.size = sufB t x := by
  rw [eqUp_all t x _ (by omega), sufB, extract_toList, ByteArray.toList_eq, show t.size - (t.size - x.size) = x.size by omega]

/-- The bytes of t from place a on, n of them, as numbers. -/
def nums (t : ByteArray) (a n : Nat) : List Int := ((t.data.toList.drop a).take n).map fun c => (c.toNat : Int)
theorem nums_length (t : ByteArray) (a n : Nat) (h : a + n ≤ t.size) : (nums t a n).length = n := by
  have ht : t.data.toList.length = t.size := by simp
  simp [nums]; omega
theorem nums_snoc (t : ByteArray) (a n : Nat) (h : a + n < t.size) : nums t a (n + 1) = nums t a n ++ [(t[a + n].toNat : Int)] := by
  have ht : t.data.toList.length = t.size := by simp
  rw [nums, nums, List.take_add_one, List.map_append, List.getElem?_drop, get_data t _ h]
  rfl
theorem str_nums (t : ByteArray) (a b : Nat) : strOfNums (nums t a (b - a)) = t.extract a b := by
  obtain ⟨⟨l⟩⟩ := t
  rw [ByteArray.extract_mk, strOfNums, nums]
  congr 2
  rw [List.map_map]
  conv => rhs; rw [← List.map_id ((l.drop a).take (b - a))]
  apply List.map_congr_left
  intro c _
  simp
end Go.Proofs.Ybulkeczy
