import Derived.Test.Qxb6602767aModsAgree
import Derived.ProofKit
namespace Go.Proofs.Qxb6602767aMods
open Go.RowKit

theorem pack (s : ByteArray) (k : Nat) (hk : k < s.size) (hs : s.size ≤ 1048576) (hst : 0 < k → s.data.toList[k - 1]? = some 47) :
    ∃ (c : ByteArray) (n : Nat), c.size = n ∧ 0 < n ∧ k + n ≤ s.size ∧ (∀ w, Calls Trym.prog 18 #[.string (s.extract k s.size)] w fun e w' => e = .returned (.string c) ∧ w' = w) ∧
      (∀ w, Calls Trym.prog 12 #[.agg #[.string (s.extract 0 (k + n))]] w fun e w' => e = .returned (.string c) ∧ w' = w.alloc (.cells #[.string (s.extract 0 (k + n))] 24)) := by
  obtain ⟨h1, h2, h3⟩ := agree s k hk hst
  have hck := fun w => zzkid_any (s.extract k s.size) w (by simp; omega)
  have hcz : ((s.extract k s.size).extract 0 (kid (s.extract k s.size))).size = kid (s.extract k s.size) := by simp; omega
  have hsc := same_cut s k _ h2
  generalize kid (s.extract k s.size) = n at *
  refine ⟨_, n, hcz, h1, h2, hck, fun w => ?_⟩
  have hz : (s.extract 0 (k + n)).size = k + n := by simp; omega
  have h0 : (s.extract 0 (k + n)).toList.isEmpty = false := by
    rw [Lib.toList_data, List.isEmpty_eq_false_iff]
    intro h
    have := congrArg List.length h
    rw [← Lib.size_eq, hz] at this
    simp at this
    omega
  have := name_any (s.extract 0 (k + n)) k w h0 (by omega) (by omega) h3
  rw [hsc] at this
  exact this

theorem byte_of {b : UInt8} (h : ((b.toNat : Int) != 47) = false) : b = 47 := by
  have h1 : ((b.toNat : Int) == 47) = true := by simpa using h
  rw [byte47] at h1
  exact eq_of_beq h1

set_option maxHeartbeats 1000000 in
theorem agree_walk (s : ByteArray) (w : World) (hs : s.size ≤ 1048576) :
    Calls Trym.prog 7 #[.string s] w fun e w' => e = .returned (.bool true) ∧ Below w.heap.size w w' := by
  go_enter Trym.func7, Trym.ntmps7
  go_wp2_with (go_at_call 20; go_in)
  go_loopw [3] (fun kk wr => ∃ k : Nat, k ≤ s.size ∧ kk = .int .i64 k ∧ Below w.heap.size w wr) (fun kk _ => s.size - (intOf kk).toNat)
  case atStart => exact ⟨0, Nat.zero_le _, rfl, Below.refl _ _⟩
  case round =>
    obtain ⟨k, hk, rfl, hbel⟩ := hrel
    by_cases hlt : k < s.size
    · by_cases h0 : 0 < k
      · have hlk : k - 1 < s.size := by omega
        by_cases h47 : (((s[k - 1]'hlk).toNat : Int) != 47) = true
        · go_wp2
          go_roundw
          case rel => ((repeat apply Exists.intro); exact ⟨⟨k + 1, by omega, by go_num, hbel⟩, rfl⟩)
          case measure => simp [intOf]; omega
        · have h47' : (((s[k - 1]'hlk).toNat : Int) != 47) = false := by simpa using h47
          obtain ⟨c, n, hcz, hn, hkn, hck, hnm⟩ := pack s k hlt hs (fun _ => by rw [byteAt s (k - 1) hlk, byte_of h47'])
          have HK := hide hck
          have HN := hide hnm
          have hn0 : ((n : Int) == 0) = false := by rw [beq_eq_false_iff_ne]; omega
          have hnk : (n : Int) ≤ (s.size : Int) - (k : Int) := by omega
          clear hck hnm h47
          go_wp2_with (first | (go_at_call 18; refine (unhide HK _).mono ?_; rintro e w' ⟨rfl, rfl⟩) | (go_at_call 11; refine (make_any _ _).mono ?_; rintro e w' ⟨rfl, rfl⟩) | (go_at_call 12; refine (unhide HN _).mono ?_; rintro e w' ⟨rfl, rfl⟩))
          go_roundw
          case rel => ((repeat apply Exists.intro); exact ⟨⟨k + 1, by omega, by go_num, (hbel.alloc hbel.size _).alloc (by have := hbel.size; simp; omega) _⟩, rfl⟩)
          case measure => simp [intOf]; omega
      · obtain ⟨c, n, hcz, hn, hkn, hck, hnm⟩ := pack s k hlt hs (fun h => absurd h h0)
        have HK := hide hck
        have HN := hide hnm
        have hn0 : ((n : Int) == 0) = false := by rw [beq_eq_false_iff_ne]; omega
        have hnk : (n : Int) ≤ (s.size : Int) - (k : Int) := by omega
        clear hck hnm
        go_wp2_with (first | (go_at_call 18; refine (unhide HK _).mono ?_; rintro e w' ⟨rfl, rfl⟩) | (go_at_call 11; refine (make_any _ _).mono ?_; rintro e w' ⟨rfl, rfl⟩) | (go_at_call 12; refine (unhide HN _).mono ?_; rintro e w' ⟨rfl, rfl⟩))
        go_roundw
        case rel => ((repeat apply Exists.intro); exact ⟨⟨k + 1, by omega, by go_num, (hbel.alloc hbel.size _).alloc (by have := hbel.size; simp; omega) _⟩, rfl⟩)
        case measure => simp [intOf]; omega
    · go_wp2
      go_ret
      exact ⟨rfl, hbel⟩
end Go.Proofs.Qxb6602767aMods
