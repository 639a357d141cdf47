import Derived.Test.Qxb6600304aModsValue
namespace Go.Proofs.Qxb6600304aMods
open Go.RowKit

theorem value_nil (w : World) : Calls Trym.prog 15 #[.slice none 0 0] w fun e w' => e = .returned (.bool true) ∧ w' = w := by
  go_enter Trym.func15, Trym.ntmps15
  go_wp2
  go_loopw [3] (fun pp wr => pp = .int .i64 0 ∧ wr = w) (fun _ _ => 0)
  case atStart => exact ⟨rfl, rfl⟩
  case round =>
    obtain ⟨rfl, rfl⟩ := hrel
    go_wp2
    go_ret
    exact ⟨rfl, rfl⟩

theorem value_any (v : Value) (zs : List Int) (w : World) (h : Holds w v zs) (hs : zs.length ≤ 1048576) :
    Calls Trym.prog 15 #[v] w fun e w' => e = .returned (.bool (apart 0 zs)) ∧ Below w.heap.size w w' := by
  obtain ⟨_, h⟩ := h
  rcases h with ⟨rfl, rfl⟩ | ⟨g, cap, rfl, hg, hc⟩
  · exact (value_nil w).mono fun e w' ⟨he, hw⟩ => ⟨he, by rw [hw]; exact Below.refl _ _⟩
  · exact value_row g zs.length cap zs w rfl hs hg hc

set_option maxHeartbeats 1000000 in
theorem same_walk (a : Option Addr) (len cap : Nat) (ys : List Int) (w : World) (h : Came w a len cap ys) (hlen : len ≤ 1048576) :
    Calls Trym.prog 4 #[.slice a len cap] w fun e w' => e = .returned (.bool true) ∧ Below w.heap.size w w' := by
  have hl := h.2.1
  have H := hide h
  clear h
  go_enter Trym.func4, Trym.ntmps4
  go_wp2_with (go_at_call 12; go_in)
  refine (clone_any a len cap ys _ (unhide H) hlen).mono ?_
  rintro e w1 ⟨v1, rfl, h1, hb1⟩
  have k1 := hide (zzapart_any v1 ys w1 h1 (by omega))
  have k2 := hide (value_any v1 ys w1 h1 (by omega))
  clear h1 H hl
  generalize apart 0 ys = r at *
  go_wp2_with fail
  refine (unhide k1).mono ?_
  rintro e w2 ⟨rfl, rfl⟩
  go_wp2_with fail
  refine (unhide k2).mono ?_
  rintro e w3 ⟨rfl, hb3⟩
  go_wp2_with fail
  go_ret
  exact ⟨by simp, hb1.trans (hb3.mono hb1.size)⟩
end Go.Proofs.Qxb6600304aMods
