import Derived.Test.Qxb6602767aModsName
namespace Go.Proofs.Qxb6602767aMods
open Go.RowKit

theorem byte_bang (t : ByteArray) (j : Nat) (h : j < t.size) : t.data.toList[j]? = some (t.data[j]!) := by
  have h' : j < t.data.size := h
  rw [List.getElem?_eq_getElem (by simpa using h'), getElem!_pos t.data j h']
  simp

theorem bang_47 (t : ByteArray) (j : Nat) (h : j < t.size) : (((t.data[j]!).toNat : Int) = 47) ↔ t.data.toList[j]? = some 47 := by
  rw [byte_bang t j h]
  constructor
  · intro e
    have := byte47 (t.data[j]!)
    rw [e] at this
    have h2 : (t.data[j]! == 47) = true := this.symm
    rw [eq_of_beq h2]
  · intro e
    have : t.data[j]! = 47 := by simpa using e
    rw [this]; rfl

theorem last_of (t : ByteArray) (k : Nat) (h1 : 0 < k → t.data.toList[k - 1]? = some 47) (h2 : ∀ j, k ≤ j → t.data.toList[j]? ≠ some 47) : Lib.lastIndexByte t 47 = (k : Int) - 1 := by
  rcases Lib.lastIndexByte_spec t 47 with ⟨e, hn⟩ | ⟨i, hi, e, h47, hn⟩
  · rw [e]
    by_cases hk : 0 < k
    · have h3 := h1 hk
      have hlt : k - 1 < t.size := by rw [Lib.size_eq]; exact (List.getElem?_eq_some_iff.1 h3).1
      exact absurd ((bang_47 t _ hlt).2 h3) (hn _ hlt)
    · omega
  · rw [e]
    have h4 := (bang_47 t i hi).1 h47
    have hik : i < k := by
      by_cases hc : k ≤ i
      · exact absurd h4 (h2 i hc)
      · omega
    have h3 := h1 (by omega)
    have hlt : k - 1 < t.size := by rw [Lib.size_eq]; exact (List.getElem?_eq_some_iff.1 h3).1
    by_cases hc : i < k - 1
    · exact absurd ((bang_47 t _ hlt).2 h3) (hn _ hc hlt)
    · omega

theorem suffix_of_last (q : List UInt8) (h : q[q.length - 1]? = some 47) : Lib.hasSuffix q [47] = true := by
  unfold Lib.hasSuffix
  rw [List.isSuffixOf_iff_suffix]
  have hl : q.getLast? = some 47 := by rw [List.getLast?_eq_getElem?]; exact h
  obtain ⟨l, rfl⟩ := List.getLast?_eq_some_iff.1 hl
  exact ⟨l, rfl⟩

theorem trimmed_bytes (p : ByteArray) (k n : Nat) (hz : p.data.toList.length = k + n) (hn : 0 < n) (hb : ∀ j, k ≤ j → j + 1 < k + n → p.data.toList[j]? ≠ some 47) (hk : 0 < k → p.data.toList[k - 1]? = some 47) :
    Lib.lastIndexByte (trimmed p) 47 = (k : Int) - 1 := by
  generalize hq : p.data.toList = q at *
  have e : (trimmed p).data.toList = Lib.trimSuffix q [47] := by simp [trimmed, hq]
  apply last_of
  · intro h0
    rw [e]
    unfold Lib.trimSuffix
    split
    · rw [List.getElem?_take_of_lt (by simp; omega)]; exact hk h0
    · exact hk h0
  · intro j hj
    rw [e]
    unfold Lib.trimSuffix
    split
    · by_cases hlt : j + 1 < k + n
      · rw [List.getElem?_take_of_lt (by simp; omega)]; exact hb j hj hlt
      · rw [List.getElem?_eq_none (by simp; omega)]; simp
    · rename_i hs
      by_cases hlt : j + 1 < k + n
      · exact hb j hj hlt
      · by_cases he : j = k + n - 1
        · intro h
          exact hs (suffix_of_last q (by rw [hz, ← he]; exact h))
        · rw [List.getElem?_eq_none (by omega)]; simp

/-- What the law asks at a cut k that is the start or follows a slash. -/
theorem agree (s : ByteArray) (k : Nat) (hk : k < s.size) (hst : 0 < k → s.data.toList[k - 1]? = some 47) :
    0 < kid (s.extract k s.size) ∧ k + kid (s.extract k s.size) ≤ s.size ∧
    Lib.lastIndexByte (trimmed (s.extract 0 (k + kid (s.extract k s.size)))) 47 = (k : Int) - 1 := by
  have hsz : (s.extract k s.size).data.toList.length = s.size - k := by rw [← Lib.size_eq]; simp
  have hpos := klen_pos (s.extract k s.size).data.toList (by omega)
  have hle := klen_le (s.extract k s.size).data.toList
  have hb := klen_before (s.extract k s.size).data.toList
  have hkl : klen (s.extract k s.size).data.toList = kid (s.extract k s.size) := rfl
  rw [hkl] at hpos hle hb
  rw [hsz] at hle
  generalize kid (s.extract k s.size) = n at *
  refine ⟨hpos, by omega, ?_⟩
  have hd : (s.extract 0 (k + n)).data.toList = s.data.toList.take (k + n) := by rw [Lib.extract_data]; simp
  apply trimmed_bytes _ k n
  · rw [hd, List.length_take, ← Lib.size_eq]; omega
  · exact hpos
  · intro j hj hlt
    rw [hd, List.getElem?_take_of_lt (by omega)]
    have h := hb (j - k) (by omega)
    rw [Lib.extract_data, List.take_of_length_le (by rw [List.length_drop, Lib.size_eq]; omega), List.getElem?_drop, show k + (j - k) = j by omega] at h
    exact h
  · intro h0
    rw [hd, List.getElem?_take_of_lt (by omega)]
    exact hst h0

theorem same_cut (s : ByteArray) (k n : Nat) (h : k + n ≤ s.size) : (s.extract 0 (k + n)).extract k (s.extract 0 (k + n)).size = (s.extract k s.size).extract 0 n := by
  have hz : (s.extract 0 (k + n)).size = k + n := by simp; omega
  rw [hz, Lib.extract_eq, Lib.extract_eq _ 0 n, Lib.extract_data, Lib.extract_data]
  congr 2
  simp only [List.drop_zero, Nat.sub_zero, Nat.add_sub_cancel_left]
  rw [List.drop_take, List.take_take, List.take_take]
  congr 1
  omega
end Go.Proofs.Qxb6602767aMods
