/-
  THE PLAIN MATHEMATICS OF FOLDING: no program in sight. Bytes as integers 0 .. 255; a string as the list of its bytes.
-/
import Derived.WalkKit
import Derived.Laws.BytesArg
namespace Go.Proofs.Qxb6601348a.Fo

/-- 'foldCase'. -/
def foldI (c : Int) : Int := if 65 ≤ c ∧ c ≤ 90 then c + 32 else c

/-- 'zzUpperIndex': the place among the upper-case letters, or -1. -/
def upI (c : Int) : Int := if 65 ≤ c ∧ c ≤ 90 then c - 65 else -1

/-- 'zzLetterIndex': the place in the alphabet, whichever its case, or -1. -/
def alphI (c : Int) : Int := if 65 ≤ c ∧ c ≤ 90 then c - 65 else if 97 ≤ c ∧ c ≤ 122 then c - 97 else -1

theorem fold_range (c : Int) (h0 : 0 ≤ c) (h1 : c ≤ 255) : 0 ≤ foldI c ∧ foldI c ≤ 255 := by
  unfold foldI; split <;> omega

theorem fold_eq_iff (a b : Int) (h : ¬ a = b) : foldI a = foldI b ↔ 0 ≤ alphI a ∧ alphI b = alphI a := by
  unfold foldI alphI
  constructor
  · intro hh
    repeat' split at hh
    all_goals (repeat' split) <;> omega
  · intro hh
    repeat' split at hh
    all_goals (repeat' split) <;> omega

/-- The bytes of a string. -/
def bytes (s : ByteArray) : List Int := s.data.toList.map fun b => (b.toNat : Int)

theorem bytes_length (s : ByteArray) : (bytes s).length = s.size := by
  rw [bytes, List.length_map]
  exact Array.length_toList

theorem bytes_get (s : ByteArray) (k : Nat) (h : k < s.size) : (bytes s).getD k 0 = (s[k].toNat : Int) := by
  have h' : k < s.data.size := h
  rw [bytes, List.getD_eq_getElem?_getD, List.getElem?_map, Array.getElem?_toList, Array.getElem?_eq_getElem h']
  rfl

theorem bytes_range (s : ByteArray) (k : Nat) : 0 ≤ (bytes s).getD k 0 ∧ (bytes s).getD k 0 ≤ 255 := by
  by_cases h : k < s.size
  · rw [bytes_get s k h]
    have := s[k].toNat_lt
    omega
  · rw [List.getD_eq_getElem?_getD, List.getElem?_eq_none (by rw [bytes_length]; omega)]
    simp

theorem str_bytes (s : ByteArray) : strOfNums (bytes s) = s := by
  have e : (bytes s).map (fun n => UInt8.ofNat n.toNat) = s.data.toList := by
    rw [bytes, List.map_map]
    apply List.ext_getElem
    · simp
    · intro i h1 h2
      simp
  show (⟨((bytes s).map fun n => UInt8.ofNat n.toNat).toArray⟩ : ByteArray) = s
  rw [e]

/-- The folded string. -/
def foldS (s : ByteArray) : ByteArray := strOfNums ((bytes s).map foldI)

theorem foldS_size (s : ByteArray) : (foldS s).size = s.size := by
  rw [foldS, strOfNums_size, List.length_map, bytes_length]

theorem bytes_str (l : List Int) (h : ∀ k, 0 ≤ l.getD k 0 ∧ l.getD k 0 ≤ 255) : bytes (strOfNums l) = l := by
  rw [bytes, strOfNums_data, List.map_map]
  apply List.ext_getElem
  · simp
  · intro i h1 h2
    have hi := h i
    simp [List.getElem?_eq_getElem h2] at hi
    simp
    omega

theorem bytes_fold (s : ByteArray) : bytes (foldS s) = (bytes s).map foldI := by
  apply bytes_str
  intro k
  by_cases hk : k < (bytes s).length
  · have hr := bytes_range s k
    have e : ((bytes s).map foldI).getD k 0 = foldI ((bytes s).getD k 0) := by simp [List.getElem?_eq_getElem hk]
    rw [e]; exact fold_range _ hr.1 hr.2
  · rw [List.getD_eq_getElem?_getD, List.getElem?_eq_none (by simpa using Nat.le_of_not_lt hk)]; simp

theorem fold_get (s : ByteArray) (k : Nat) (h : k < s.size) : (bytes (foldS s)).getD k 0 = foldI ((bytes s).getD k 0) := by
  rw [bytes_fold]
  have hk : k < (bytes s).length := by rw [bytes_length]; exact h
  simp [List.getElem?_eq_getElem hk]

theorem ext_get (l m : List Int) (h : l.length = m.length) (hg : ∀ k, k < l.length → l.getD k 0 = m.getD k 0) : l = m := by
  apply List.ext_getElem h
  intro i h1 h2
  have := hg i h1
  simpa [List.getElem?_eq_getElem h1, List.getElem?_eq_getElem h2] using this

/-- Nothing to fold: the string itself. -/
theorem foldS_same (s : ByteArray) (h : ∀ k, k < s.size → foldI ((bytes s).getD k 0) = (bytes s).getD k 0) : foldS s = s := by
  have e : (bytes s).map foldI = bytes s := by
    apply ext_get
    · simp
    · intro k hk
      rw [List.length_map] at hk
      have := h k (by rw [← bytes_length]; exact hk)
      have e2 : ((bytes s).map foldI).getD k 0 = foldI ((bytes s).getD k 0) := by simp [List.getElem?_eq_getElem hk]
      rw [e2, this]
  rw [foldS, e, str_bytes]

/-- After the second loop: the bytes from i on have been folded, those before needed none. -/
theorem foldS_of (s : ByteArray) (L : List Int) (hl : L.length = s.size) (h : ∀ k, k < s.size → L.getD k 0 = foldI ((bytes s).getD k 0)) : strOfNums L = foldS s := by
  have e : L = (bytes s).map foldI := by
    apply ext_get
    · rw [List.length_map, bytes_length, hl]
    · intro k hk
      have hk' : k < (bytes s).length := by rw [bytes_length]; omega
      rw [h k (by omega)]
      simp [List.getElem?_eq_getElem hk']
  rw [e, foldS]

/-- Two strings are one if their bytes are. -/
theorem bytes_inj (s t : ByteArray) (h : bytes s = bytes t) : s = t := by rw [← str_bytes s, h, str_bytes t]
end Go.Proofs.Qxb6601348a.Fo
