import Derived.Test.Qxb6602767aModsSteps
import Derived.RegionTactic
import Derived.ChangeAlike
import Derived.Deep.RegionWith
namespace Go.Proofs.Qxb6602767aMods
open Go.RowKit

theorem addr_add (g j : Nat) : (⟨g, 0, none⟩ : Addr).add j = ⟨g, j, none⟩ := by
  by_cases h : j = 0
  · subst h; rfl
  · simp [Addr.add, h]

theorem last_kid (t c : ByteArray) (n : Nat) (hc : c.data.toList = t.data.toList.take n) (h1 : 0 < n) (h3 : t.data.toList[n - 1]? = some 47) (h : n - 1 < c.size) : (((c[n - 1]'h).toNat : Int) != 47) = false := by
  have h4 := byteAt c (n - 1) h
  rw [hc, List.getElem?_take_of_lt (by omega), h3] at h4
  have : c[n - 1] = 47 := by simpa using h4.symm
  rw [this]; rfl

theorem next_kid (t : ByteArray) (hs : t.size ≤ 1048576) (h1 : 0 < kid t) (h3 : t.data.toList[kid t - 1]? = some 47) :
    ∃ c : ByteArray, (∀ w, Calls Trym.prog 18 #[.string t] w fun e w' => e = .returned (.string c) ∧ w' = w) ∧ c.size = kid t ∧ ∀ h : kid t - 1 < c.size, (((c[kid t - 1]'h).toNat : Int) != 47) = false := by
  have hsz : (t.extract 0 (kid t)).size = kid t := by have := kid_le t; simp; omega
  have hd : (t.extract 0 (kid t)).data.toList = t.data.toList.take (kid t) := by rw [Lib.extract_data]; simp
  exact ⟨t.extract 0 (kid t), fun w => zzkid_any t w hs, hsz, last_kid t _ _ hd h1 h3⟩

set_option maxHeartbeats 1000000 in
theorem steps_walk (s : ByteArray) (w : World) (hs : s.size ≤ 65536) :
    Calls Trym.prog 9 #[.string s] w fun e w' => e = .returned (.bool true) ∧ Below w.heap.size w w' := by
  go_enter Trym.func9, Trym.ntmps9
  go_wp2_with (first | (go_at_call 23; go_in) | (go_at_call 15; refine (zzabove_any s _ hs).mono ?_; rintro e w1 ⟨v, rfl, hown, hbel⟩))
  have hcases := hown.2
  have hlen := ups_le s s.size
  rcases hcases with ⟨rfl, h0⟩ | ⟨g, cap, cur, rfl, hg, hblk, hcap, hcapm, hcur, htake⟩
  · have hst := step_no s 0 (by rw [h0]; simp [ups])
    have HS := hide (fun w => slash_any s w (by omega))
    rw [extract_full] at hst
    have Hst := hide hst
    clear hst hown h0
    go_loopw [4, 5] (fun kk jj wr => kk = .int .i64 0 ∧ jj = .int .i64 0 ∧ wr = w1) (fun _ _ _ => 0)
    case atStart => exact ⟨rfl, rfl, rfl⟩
    case round =>
      obtain ⟨rfl, rfl, rfl⟩ := hrel
      go_wp2_with (go_at_call 13; refine (unhide HS _).mono ?_; rw [unhide Hst]; rintro e w' ⟨rfl, rfl⟩)
      go_ret
      exact ⟨rfl, hbel⟩
  · have hcs := hown.cells (g := g) rfl
    have hgl := (hown.lt g rfl).2
    clear hblk hcur htake hown
    generalize hN : (ups s s.size).length = N at *
    have HN := hide hN
    clear hN
    go_loopw [4, 5] (fun kk jj wr => ∃ k j : Nat, j ≤ N ∧ k ≤ s.size ∧ kk = .int .i64 k ∧ jj = .int .i64 j ∧ Hid ((ups s k).length = j) ∧ Below w1.heap.size w1 wr) (fun _ jj _ => N - (intOf jj).toNat)
    case atStart => exact ⟨0, 0, Nat.zero_le _, Nat.zero_le _, rfl, rfl, hide (by simp [ups]), Below.refl _ _⟩
    case round =>
      obtain ⟨k, j, hj, hk, rfl, rfl, HJ, hb1⟩ := hrel
      by_cases hlt : j < N
      · obtain ⟨y1, y2, y3, y4, y5⟩ := step_yes s k hk (by rw [unhide HJ, unhide HN]; exact hlt)
        obtain ⟨c, hck, hcz, hcl⟩ := next_kid (s.extract k s.size) (by simp; omega) y1 y3
        generalize kid (s.extract k s.size) = n at *
        have Y4 := hide y4
        have hcell : wr.cell? ⟨g, j, none⟩ = some (.string (s.extract 0 (k + n - 1))) := by
          rw [hb1.cell (by exact hgl)]
          have := hcs j (.string (s.extract 0 (k + n - 1))) (by rw [List.getElem?_map, ← unhide HJ, y5]; rfl)
          rwa [addr_add] at this
        have HK := hide hck
        clear hck y3 y4 y5 hcs
        have hn0 : ((n : Int) == 0) = false := by rw [beq_eq_false_iff_ne]; omega
        have hnk : (n : Int) ≤ (s.size : Int) - (k : Int) := by omega
        go_wp2_with (go_at_call 18; refine (unhide HK _).mono ?_; rintro e w' ⟨rfl, rfl⟩)
        have hjN : (j : Int) < (N : Int) := by omega
        have hkn : (0 : Int) ≤ (k : Int) + (n : Int) - 1 ∧ (k : Int) + (n : Int) - 1 ≤ (s.size : Int) := by omega
        go_region_with (go_at_call 16; refine (rel_any _ _).mono ?_; rintro e w' ⟨rfl, rfl⟩)
        all_goals go_wp2
        all_goals go_roundw
        case rel => exact ⟨k + n, j + 1, by omega, by omega, by go_num, by go_num, hide (by rw [unhide Y4, unhide HJ]), (hb1.alloc hb1.size _).drew⟩
        case measure => simp [intOf]; omega
        case rel => exact ⟨k + n, j + 1, by omega, by omega, by go_num, by go_num, hide (by rw [unhide Y4, unhide HJ]), (hb1.alloc hb1.size _).drew⟩
        case measure => simp [intOf]; omega
        case rel => exact ⟨k + n, j + 1, by omega, by omega, by go_num, by go_num, hide (by rw [unhide Y4, unhide HJ]), (hb1.alloc hb1.size _).drew⟩
        case measure => simp [intOf]; omega
      · have hst := step_no s k (by rw [unhide HJ, unhide HN]; omega)
        have HS := hide (fun w => slash_any (s.extract k s.size) w (by simp; omega))
        have Hst := hide hst
        clear hst hcs
        go_wp2_with (go_at_call 13; refine (unhide HS _).mono ?_; rw [unhide Hst]; rintro e w' ⟨rfl, rfl⟩)
        go_ret
        exact ⟨rfl, hbel.trans (hb1.mono hbel.size)⟩
end Go.Proofs.Qxb6602767aMods
