import Derived.Test.Qxb6602767aModsAbove
namespace Go.Proofs.Qxb6602767aMods
open Go.RowKit

theorem ups_grow (s : ByteArray) (a d : Nat) : ∃ t, ups s (a + d) = ups s a ++ t := by
  induction d with
  | zero => exact ⟨[], by simp⟩
  | succ d ih =>
    obtain ⟨t, ht⟩ := ih
    by_cases h : s.data.toList[a + d]? = some 47
    · exact ⟨t ++ [s.extract 0 (a + d)], by rw [← Nat.add_assoc, ups_hit s _ h, ht, List.append_assoc]⟩
    · exact ⟨t, by rw [← Nat.add_assoc, ups_miss s _ h, ht]⟩

theorem ups_same (s : ByteArray) (a d : Nat) (h : ∀ j, j < d → s.data.toList[a + j]? ≠ some 47) : ups s (a + d) = ups s a := by
  induction d with
  | zero => rfl
  | succ d ih => rw [← Nat.add_assoc, ups_miss s _ (h d (by omega)), ih (fun j hj => h j (by omega))]

theorem tail_bytes (s : ByteArray) (k j : Nat) : (s.extract k s.size).data.toList[j]? = s.data.toList[k + j]? := by
  rw [Lib.extract_data, List.take_of_length_le (by rw [List.length_drop, Lib.size_eq]; omega), List.getElem?_drop]

/-- One step down: there is an element left; the next child ends in a slash and names it. -/
theorem step_yes (s : ByteArray) (k : Nat) (hk : k ≤ s.size) (hlt : (ups s k).length < (ups s s.size).length) :
    0 < kid (s.extract k s.size) ∧ k + kid (s.extract k s.size) ≤ s.size ∧ (s.extract k s.size).data.toList[kid (s.extract k s.size) - 1]? = some 47 ∧
    (ups s (k + kid (s.extract k s.size))).length = (ups s k).length + 1 ∧
    (ups s s.size)[(ups s k).length]? = some (s.extract 0 (k + kid (s.extract k s.size) - 1)) := by
  have hb := klen_before (s.extract k s.size).data.toList
  have hle := kid_le (s.extract k s.size)
  have hsz : (s.extract k s.size).size = s.size - k := by simp
  rcases klen_end (s.extract k s.size).data.toList with ⟨_, h2⟩ | ⟨h1, h2⟩
  · exfalso
    have := ups_same s k (s.size - k) (fun j _ => by rw [← tail_bytes]; exact h2 j)
    rw [show k + (s.size - k) = s.size by omega] at this
    rw [this] at hlt
    omega
  · have hkl : klen (s.extract k s.size).data.toList = kid (s.extract k s.size) := rfl
    rw [hkl] at hb h1 h2
    generalize kid (s.extract k s.size) = n at *
    obtain ⟨m, rfl⟩ : ∃ m, n = m + 1 := ⟨n - 1, by omega⟩
    have e1 : ups s (k + m) = ups s k := ups_same s k m (fun j hj => by rw [← tail_bytes]; exact hb j (by omega))
    have h3 : s.data.toList[k + m]? = some 47 := by rw [← tail_bytes]; simpa using h2
    have e2 : ups s (k + (m + 1)) = ups s k ++ [s.extract 0 (k + m)] := by rw [← Nat.add_assoc, ups_hit s _ h3, e1]
    refine ⟨h1, by omega, h2, by rw [e2]; simp, ?_⟩
    obtain ⟨t, ht⟩ := ups_grow s (k + (m + 1)) (s.size - (k + (m + 1)))
    rw [show k + (m + 1) + (s.size - (k + (m + 1))) = s.size by omega] at ht
    rw [ht, e2, show k + (m + 1) - 1 = k + m by omega]
    simp

theorem step_no (s : ByteArray) (k : Nat) (h : (ups s k).length = (ups s s.size).length) : slashIn (s.extract k s.size) = false := by
  apply slashIn_no
  intro j hj
  rw [tail_bytes] at hj
  have hlt : k + j < s.size := by
    rw [Lib.size_eq]
    exact (List.getElem?_eq_some_iff.1 hj).1
  obtain ⟨t, ht⟩ := ups_grow s k j
  have h2 := ups_hit s (k + j) hj
  obtain ⟨t', ht'⟩ := ups_grow s (k + j + 1) (s.size - (k + j + 1))
  rw [show k + j + 1 + (s.size - (k + j + 1)) = s.size by omega, h2, ht] at ht'
  rw [ht'] at h
  simp at h
end Go.Proofs.Qxb6602767aMods
