/-
  THE PLAIN SIDE of seat b6601093a: no Go in sight. What 'turnNumber' answers, as a function on lists of bytes.
-/
import Derived.Laws.Strings
namespace Go.Proofs.Qxb6601093a

def pre5 : List UInt8 := [116, 117, 114, 110, 45]
def dig (c : UInt8) : Bool := decide (48 ≤ c.toNat) && decide (c.toNat ≤ 57)
def turnL (l : List UInt8) : List UInt8 :=
  if l.take 5 = pre5 ∧ (l.drop 5).head? ≠ some 48 ∧ (l.drop 5).all dig = true then l.drop 5 else []
def str (l : List UInt8) : ByteArray := ⟨l.toArray⟩

theorem str_list (l : List UInt8) : (str l).data.toList = l := by simp [str]
theorem str_of (s : ByteArray) : str s.data.toList = s := by cases s; simp [str]
theorem size_list (s : ByteArray) : s.data.toList.length = s.size := Array.length_toList
theorem str_size (l : List UInt8) : (str l).size = l.length := by rw [← size_list, str_list]
theorem ext_toList (s : ByteArray) (a b : Nat) : (s.extract a b).data.toList = (s.data.toList.drop a).take (b - a) := by
  simp [ByteArray.data_extract, List.extract_eq_take_drop]
theorem ext_end (s : ByteArray) (a : Nat) : (s.extract a s.size).data.toList = s.data.toList.drop a := by
  rw [ext_toList, List.take_of_length_le]; rw [List.length_drop, size_list]; exact Nat.le_refl _
theorem ext_end_str (s : ByteArray) (a : Nat) : s.extract a s.size = str (s.data.toList.drop a) := by
  rw [← str_of (s.extract a s.size), ext_end]

/-! the ways through turnNumber -/
theorem turn_short (s : ByteArray) (h : s.size < 5) : turnL s.data.toList = [] := by
  unfold turnL
  rw [if_neg]
  rintro ⟨h1, _⟩
  have := congrArg List.length h1
  simp [pre5] at this
  omega
theorem turn_nopre (s : ByteArray) (h : (!(s.extract 0 5).toList == [116, 117, 114, 110, 45]) = true) : turnL s.data.toList = [] := by
  unfold turnL
  rw [if_neg]
  rintro ⟨h1, _⟩
  rw [ByteArray.toList_eq, ext_toList] at h
  simp [h1, pre5] at h
theorem turn_zero (s : ByteArray) (h : (((s.extract 5 s.size).extract 0 1).toList == [48]) = true) : turnL s.data.toList = [] := by
  unfold turnL
  rw [if_neg]
  rintro ⟨_, h2, _⟩
  rw [ByteArray.toList_eq, ext_toList, ext_end] at h
  apply h2
  simp at h
  cases hl : s.data.toList.drop 5 with
  | nil => simp [hl] at h
  | cons a t => simp [hl] at h; simp [h]
theorem turn_bad (s : ByteArray) (k : Nat) (hk : k < (s.extract 5 s.size).size) (h : dig (s.extract 5 s.size)[k] = false) : turnL s.data.toList = [] := by
  unfold turnL
  rw [if_neg]
  rintro ⟨_, _, h3⟩
  rw [List.all_eq_true] at h3
  have : (s.extract 5 s.size)[k] ∈ s.data.toList.drop 5 := by
    rw [← ext_end]
    simp only [Array.mem_toList_iff]
    exact Array.getElem_mem _
  rw [h3 _ this] at h
  cases h
theorem turn_good (s : ByteArray) (h1 : (!(s.extract 0 5).toList == [116, 117, 114, 110, 45]) = false)
    (h2 : (s.extract 5 s.size).size < 1 ∨ (((s.extract 5 s.size).extract 0 1).toList == [48]) = false)
    (h3 : ∀ j (hj : j < (s.extract 5 s.size).size), dig (s.extract 5 s.size)[j] = true) : str (turnL s.data.toList) = s.extract 5 s.size := by
  rw [ext_end_str]
  congr 1
  unfold turnL
  rw [if_pos]
  refine ⟨?_, ?_, ?_⟩
  · rw [ByteArray.toList_eq, ext_toList] at h1
    simpa [pre5] using h1
  · rw [← ext_end]
    rcases h2 with h2 | h2
    · have : (s.extract 5 s.size).data.toList = [] := by
        apply List.eq_nil_of_length_eq_zero
        rw [size_list]; omega
      rw [this]; simp
    · rw [ByteArray.toList_eq, ext_toList] at h2
      intro hc
      cases hl : (s.extract 5 s.size).data.toList with
      | nil => rw [hl] at hc; simp at hc
      | cons a t => rw [hl] at hc h2; simp at hc h2; exact h2 hc
  · rw [← ext_end, List.all_eq_true]
    intro x hx
    obtain ⟨j, hj, rfl⟩ := List.mem_iff_getElem.1 hx
    rw [size_list] at hj
    exact h3 j hj
end Go.Proofs.Qxb6601093a
