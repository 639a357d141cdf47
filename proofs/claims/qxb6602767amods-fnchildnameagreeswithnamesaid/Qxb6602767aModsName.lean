import Derived.Test.Qxb6602767aModsKid
import Derived.Lib.LastIndexByte
namespace Go.Proofs.Qxb6602767aMods
open Go.RowKit

/-- p without one slash at its end. -/
def trimmed (p : ByteArray) : ByteArray := ⟨(Lib.trimSuffix p.data.toList [47]).toArray⟩

theorem trim_any (p : ByteArray) (w : World) (hp : p.size ≤ 1048576) :
    Calls Trym.prog 25 #[.string p, .string ⟨#[47]⟩] w fun e w' => e = .returned (.string (trimmed p)) ∧ w' = w :=
  Trym.strings_TrimSuffix p ⟨#[47]⟩ w (by omega)

theorem trimmed_le (p : ByteArray) : (trimmed p).size ≤ p.size := by
  have := Lib.trimSuffix_le p.data.toList [47]
  rw [Lib.size_eq, Lib.size_eq]
  simpa [trimmed] using this

set_option maxHeartbeats 400000 in
theorem name_any (p : ByteArray) (k : Nat) (w : World) (h0 : p.toList.isEmpty = false) (hp : p.size ≤ 1048576) (hk : k ≤ p.size)
    (hst : Lib.lastIndexByte (trimmed p) 47 = (k : Int) - 1) :
    Calls Trym.prog 12 #[.agg #[.string p]] w fun e w' => e = .returned (.string (p.extract k p.size)) ∧ w' = w.alloc (.cells #[.string p] 24) := by
  have ht := fun w => trim_any p w hp
  have hl := fun w => Trym.strings_LastIndexByte (trimmed p) 47 (by have := trimmed_le p; omega) w
  rw [hst] at hl
  clear hst
  generalize trimmed p = t at *
  have HT := hide ht
  have HL := hide hl
  clear ht hl
  go_enter Trym.func12, Trym.ntmps12
  go_wp2_with (first | (go_at_call 25; refine (unhide HT _).mono ?_; rintro e w' ⟨rfl, rfl⟩) | (go_at_call 24; refine (unhide HL _).mono ?_; rintro e w' ⟨rfl, rfl⟩))
  go_ret
  exact ⟨rfl, rfl⟩

theorem make_any (p : ByteArray) (w : World) :
    Calls Trym.prog 11 #[.string p] w fun e w' => e = .returned (.agg #[.string p]) ∧ w' = w.alloc (.cells #[.string p] 24) := by
  go_enter Trym.func11, Trym.ntmps11
  go_wp2
  exact bodyPost_ret (v := .agg #[.string p]) (by simp [results, Trym.results11, go_sem]) rfl ⟨rfl, rfl⟩
end Go.Proofs.Qxb6602767aMods
