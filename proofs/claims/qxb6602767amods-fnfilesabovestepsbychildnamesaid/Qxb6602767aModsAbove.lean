import Derived.Test.Qxb6602767aModsKid
import Derived.ProofKit
import Derived.OwnWalk
namespace Go.Proofs.Qxb6602767aMods
open Go.RowKit

theorem info24 : (Trym.prog.info? 24).map (fun i => (i.zero, i.size, i.bytes)) = some (some (.agg #[.string ⟨#[]⟩]), 1, 16) := by kernel_rfl

/-- What stands above: s cut ahead of each slash among its first k bytes. -/
def ups (s : ByteArray) (k : Nat) : List ByteArray := ((List.range k).filter (fun i => s.data.toList[i]? == some 47)).map (fun i => s.extract 0 i)

theorem ups_hit (s : ByteArray) (k : Nat) (h : s.data.toList[k]? = some 47) : ups s (k + 1) = ups s k ++ [s.extract 0 k] := by
  unfold ups
  rw [List.range_succ, List.filter_append, List.map_append]
  generalize s.data.toList = l at *
  simp [h]

theorem ups_miss (s : ByteArray) (k : Nat) (h : s.data.toList[k]? ≠ some 47) : ups s (k + 1) = ups s k := by
  unfold ups
  rw [List.range_succ, List.filter_append, List.map_append]
  generalize s.data.toList = l at *
  simp [h]

theorem ups_le (s : ByteArray) (k : Nat) : (ups s k).length ≤ k := by
  unfold ups
  rw [List.length_map]
  have := List.length_filter_le (fun i => s.data.toList[i]? == some 47) (List.range k)
  simpa using this

set_option maxHeartbeats 800000 in
theorem above_any (s : ByteArray) (w : World) (hs : s.size ≤ 65536) :
    Calls Trym.prog 26 #[.agg #[.string s]] w fun e w' => ∃ v, e = .returned v ∧ w'.ownsRow (w.heap.size + 1) 24 1 v (ups s s.size).length ((ups s s.size).map Value.string) ∧ Below w.heap.size w w' := by
  obtain ⟨i0, hi, hz0, hz1, hz2⟩ := info_parts info24
  go_enter Trym.func26, Trym.ntmps26
  go_wp2
  go_loopw [3, 8] (fun v i wr => ∃ k : Nat, k ≤ s.size ∧ i = .int .i64 k ∧ wr.ownsRow (w.heap.size + 1) 24 1 v (ups s k).length ((ups s k).map Value.string) ∧ Below (w.heap.size + 1) (w.alloc (.cells #[.string s] 24)) wr)
    (fun _ i _ => s.size - (intOf i).toNat)
  case atStart => exact ⟨0, Nat.zero_le _, rfl, World.ownsRow_nil _ _ _ _, Below.refl _ _⟩
  case round =>
    obtain ⟨k, hk, rfl, hown, hbel⟩ := hrel
    have hcell : wr.cell? ⟨w.heap.size, 0, none⟩ = some (.string s) := (hbel.cell (by simp)).trans (by simp)
    have hsz := hbel.size
    have hul := ups_le s k
    by_cases hlt : k < s.size
    · go_wp2_with (first
        | (at_builtin; refine wpList_append_own _ rfl _ _ 27 rfl (w.heap.size + 1) 24 i0 (.agg #[.string ⟨#[]⟩]) 1 16 Trym.underlying27 hi hz0 hz1 hz2 rfl (by decide) _ _ _ rfl (hown.alloc _) ⟨wr.heap.size, 0, none⟩ 1 1 [.string (s.extract 0 k)] rfl rfl ?c1 ?c2 ?c3 ?c4 ?c5 ?_))
      case c1 =>
        intro j u hj
        match j, hj with
        | 0, hj => simp at hj; subst hj; simp [Addr.add]
      case c2 => intro u hu; simp at hu; subst hu; rfl
      case c3 => unfold maxLen; omega
      case c4 => omega
      case c5 => simp at hsz; simp; omega
      · intro v' w1 hown' hgrow _
        have h47 : (s[k] == 47) = true := by rw [← byte47]; assumption
        have hu : ups s (k + 1) = ups s k ++ [s.extract 0 k] := ups_hit s k (by rw [byteAt s k hlt, eq_of_beq h47])
        have R : w1.ownsRow (w.heap.size + 1) 24 1 v' (ups s (k + 1)).length ((ups s (k + 1)).map Value.string) := by
          rw [hu, List.map_append, List.length_append]; exact hown'
        have B : Below (w.heap.size + 1) (w.alloc (.cells #[.string s] 24)) w1 :=
          (hbel.alloc (by simp at hsz; omega) _).grown hgrow (by simp at hsz; simp; omega) (fun b hb => (hown.lt b hb).1)
        clear hown' hgrow hown hbel hcell hu
        go_wp2
        go_roundw
        case rel => exact ⟨k + 1, by omega, by go_num, R, B⟩
        case measure => simp [intOf]; omega
      · have h47 : (s[k] == 47) = false := by rw [← byte47]; assumption
        have hu : ups s (k + 1) = ups s k := ups_miss s k (by rw [byteAt s k hlt]; intro h; simp at h; simp [h] at h47)
        go_roundw
        case rel => exact ⟨k + 1, by omega, by go_num, by rw [hu]; exact hown, hbel⟩
        case measure => simp [intOf]; omega
    · go_wp2
      have hke : k = s.size := by omega
      subst hke
      go_ret
      exact ⟨_, rfl, hown, ((Below.refl _ _).alloc (Nat.le_refl _) _).trans (hbel.mono (by omega))⟩

theorem zzabove_any (s : ByteArray) (w : World) (hs : s.size ≤ 65536) :
    Calls Trym.prog 15 #[.string s] w fun e w' => ∃ v, e = .returned v ∧ w'.ownsRow (w.heap.size + 1) 24 1 v (ups s s.size).length ((ups s s.size).map Value.string) ∧ Below w.heap.size w w' := by
  go_enter Trym.func15, Trym.ntmps15
  go_wp2_with (go_at_call 26; refine (above_any s _ hs).mono ?_; rintro e w' ⟨v, rfl, hown, hbel⟩)
  go_ret
  exact ⟨_, rfl, hown, hbel⟩

theorem rel_any (s : ByteArray) (w : World) :
    Calls Trym.prog 16 #[.agg #[.string s]] w fun e w' => e = .returned (.string s) ∧ w' = w.alloc (.cells #[.string s] 24) := by
  go_enter Trym.func16, Trym.ntmps16
  go_wp2
  go_ret
  exact ⟨rfl, rfl⟩
end Go.Proofs.Qxb6602767aMods
