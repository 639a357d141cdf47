import Derived.Test.Qxb6602767aModsKid
import Derived.ProofKit
namespace Go.Proofs.Qxb6602767aMods
open Go.RowKit

theorem cut_size (s : ByteArray) : (s.extract 0 (kid s)).size = kid s := by
  have := kid_le s
  simp; omega

theorem cut_byte (s : ByteArray) (n j : Nat) (h : j < n) : (s.extract 0 n).data.toList[j]? = s.data.toList[j]? := by
  rw [Lib.extract_data]; simp [h]

theorem cut_back (s : ByteArray) : (s.extract 0 (s.extract 0 (kid s)).size).toList = (s.extract 0 (kid s)).toList := by
  rw [cut_size]

theorem cut_clean (s : ByteArray) : slashIn ((s.extract 0 (kid s)).extract 0 ((s.extract 0 (kid s)).size - 1)) = false := by
  apply slashIn_no
  intro j
  rw [cut_size]
  by_cases hj : j + 1 < kid s
  · rw [cut_byte _ _ _ (by omega), cut_byte _ _ _ (by omega)]
    exact klen_before _ _ hj
  · rw [List.getElem?_eq_none]
    · simp
    · rw [Lib.extract_data]
      simp
      omega

theorem cut_end (s c : ByteArray) (hc : c = s.extract 0 (kid s)) : (c.toList == s.toList) = true ∨ ∃ h : 0 < c.size, ((c[c.size - 1]'(by omega)).toNat : Int) == 47 := by
  subst hc
  rcases klen_end s.data.toList with ⟨h, _⟩ | ⟨h1, h2⟩
  · left
    have e : kid s = s.size := by unfold kid; rw [h, Lib.size_eq]
    rw [e, extract_full]; simp
  · right
    refine ⟨by rw [cut_size]; exact h1, ?_⟩
    rw [byte47]
    have h3 := byteAt (s.extract 0 (kid s)) ((s.extract 0 (kid s)).size - 1) (by rw [cut_size]; unfold kid; omega)
    have h4 : (s.extract 0 (kid s)).data.toList[(s.extract 0 (kid s)).size - 1]? = some 47 := by
      rw [cut_size, cut_byte _ _ _ (by unfold kid; omega)]; exact h2
    rw [h4] at h3
    simpa using h3.symm

set_option maxHeartbeats 800000 in
theorem seg_walk (s : ByteArray) (hs : s.size ≤ 1048576) (w : World) :
    Calls Trym.prog 5 #[.string s] w fun e w' => e = .returned (.bool true) ∧ w' = w := by
  have hc := fun w => zzkid_any s w hs
  have hle : (s.extract 0 (kid s)).size ≤ s.size := by rw [cut_size]; exact kid_le s
  have hback := cut_back s
  have hclean := cut_clean s
  have hend := cut_end s
  generalize s.extract 0 (kid s) = c at *
  have hend := hend c rfl
  have HC := hide hc
  clear hc
  have HS := hide (fun w => slash_any (c.extract 0 (c.size - 1)) w (by simp; omega))
  have Hclean := hide hclean
  clear hclean
  by_cases h0 : 0 < c.size
  · rcases hend with heq | ⟨_, h47⟩
    · go_enter Trym.func5, Trym.ntmps5
      go_wp2_with (first | (go_at_call 18; refine (unhide HC _).mono ?_; rintro e w' ⟨rfl, rfl⟩) | (go_at_call 13; refine (unhide HS _).mono ?_; rw [unhide Hclean]; rintro e w' ⟨rfl, rfl⟩) | (go_at_call 17; go_in))
      go_ret
      exact ⟨rfl, rfl⟩
    · by_cases heq : (c.toList == s.toList) = true
      · go_enter Trym.func5, Trym.ntmps5
        go_wp2_with (first | (go_at_call 18; refine (unhide HC _).mono ?_; rintro e w' ⟨rfl, rfl⟩) | (go_at_call 13; refine (unhide HS _).mono ?_; rw [unhide Hclean]; rintro e w' ⟨rfl, rfl⟩) | (go_at_call 17; go_in))
        go_ret
        exact ⟨rfl, rfl⟩
      · have heq' : (c.toList == s.toList) = false := by simpa using heq
        clear heq
        go_enter Trym.func5, Trym.ntmps5
        go_wp2_with (first | (go_at_call 18; refine (unhide HC _).mono ?_; rintro e w' ⟨rfl, rfl⟩) | (go_at_call 13; refine (unhide HS _).mono ?_; rw [unhide Hclean]; rintro e w' ⟨rfl, rfl⟩) | (go_at_call 17; go_in))
        go_ret
        exact ⟨rfl, rfl⟩
  · have heq : (c.toList == s.toList) = true := by
      rcases hend with h | ⟨h, _⟩
      · exact h
      · exact absurd h h0
    clear hend
    go_enter Trym.func5, Trym.ntmps5
    go_wp2_with (first | (go_at_call 18; refine (unhide HC _).mono ?_; rintro e w' ⟨rfl, rfl⟩) | (go_at_call 17; go_in))
    go_ret
    exact ⟨rfl, rfl⟩
end Go.Proofs.Qxb6602767aMods
