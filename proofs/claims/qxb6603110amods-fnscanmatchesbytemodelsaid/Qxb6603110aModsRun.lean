import Derived.Test.Qxb6603110aModsScan
import Derived.Test.Qxb6603110aModsClone
import Derived.Deep.QuietTactic
import Derived.BigQuiet
import Derived.WalkSmall
namespace Go.Proofs.Qxb6603110aMods
open Go.RowKit

theorem scan_nil (s : St) (w : World) :
    Calls Trym.prog 25 #[.pointer (some ⟨w.heap.size, 0, none⟩), .slice none 0 0] (w.alloc (.cells #[.bool s.sc, .int .i64 s.d, .bool s.ins, .bool s.esc] 53))
      fun e w' => e = .returned (.tuple #[.int .i64 0, .bool false]) ∧ w' = w.alloc (.cells #[.bool s.sc, .int .i64 s.d, .bool s.ins, .bool s.esc] 53) := by
  go_enter Trym.func25, Trym.ntmps25
  go_wp2
  go_loopw [8] (fun ii wr => ii = .int .i64 0 ∧ wr = w.alloc (.cells #[.bool s.sc, .int .i64 s.d, .bool s.ins, .bool s.esc] 53)) (fun _ _ => 0)
  case atStart => exact ⟨rfl, rfl⟩
  case round =>
    obtain ⟨rfl, rfl⟩ := hrel
    go_wp2
    go_ret2
    exact ⟨rfl, rfl⟩

theorem Row.cells {w : World} {g : Nat} {zs : List Int} (h : w.heap[g]? = some (.cells (zs.map (Value.int .u8)).toArray 5 (0, 0))) :
    g < w.heap.size ∧ ∀ i, i < zs.length → w.cell? ⟨g, i, none⟩ = some (.int .u8 (zs.getD i 0)) := by
  refine ⟨(Array.getElem?_eq_some_iff.1 h).1, fun i hi => ?_⟩
  simp [World.cell?, h, List.getElem?_eq_getElem hi]

theorem bcell {W w1 : World} (hb : Below W.heap.size W w1) : (∀ b o, b < W.heap.size → w1.cell? ⟨b, o, none⟩ = W.cell? ⟨b, o, none⟩) ∧ (∀ b o, b < W.heap.size → w1.frozen? ⟨b, o, none⟩ = W.frozen? ⟨b, o, none⟩) :=
  ⟨fun b o h => hb.cell (p := ⟨b, o, none⟩) h, fun b o h => hb.frozen (p := ⟨b, o, none⟩) h⟩

theorem scan_any (s : St) (v : Value) (zs : List Int) (w : World) (h : Row w v zs) (hs : zs.length ≤ 1048576) :
    Calls Trym.prog 25 #[.pointer (some ⟨w.heap.size, 0, none⟩), v] (w.alloc (.cells #[.bool s.sc, .int .i64 s.d, .bool s.ins, .bool s.esc] 53))
      fun e w' => e = .returned (.tuple #[.int .i64 (mscan s zs).1, .bool (mscan s zs).2.1]) ∧ w' = w.alloc (stc (mscan s zs).2.2 53) := by
  obtain ⟨hz, ao, rfl, h⟩ := h
  rcases h with ⟨rfl, rfl⟩ | ⟨g, rfl, hg⟩
  · exact scan_nil s w
  · obtain ⟨h1, h2⟩ := Row.cells hg
    exact scan_row g zs.length zs s w rfl hs hz h1 h2

set_option maxHeartbeats 1000000 in
theorem zzscan_any (s : St) (v : Value) (zs : List Int) (w : World) (h : Row w v zs) (hs : zs.length ≤ 1048576) :
    Calls Trym.prog 22 #[.bool s.sc, .int .i64 s.d, .bool s.ins, .bool s.esc, v] w
      fun e w' => e = .returned (.tuple #[.int .i64 (mscan s zs).1, .bool (mscan s zs).2.1, .bool (mscan s zs).2.2.sc, .int .i64 (mscan s zs).2.2.d, .bool (mscan s zs).2.2.ins, .bool (mscan s zs).2.2.esc]) ∧ Below w.heap.size w w' := by
  have hc := scan_any s v zs w h hs
  clear h
  generalize mscan s zs = r at *
  obtain ⟨n, done, sc', d', ins', esc'⟩ := r
  obtain ⟨sc, d, ins, esc⟩ := s
  simp only [stc] at hc
  have HC := hide hc
  clear hc
  go_enter Trym.func22, Trym.ntmps22
  go_wp2_with (go_at_call 25; refine (unhide HC).mono ?_; rintro e w' ⟨rfl, rfl⟩)
  go_quiet (fail)
  go_wp2
  exact bodyPost_ret (v := .tuple #[.int .i64 n, .bool done, .bool sc', .int .i64 d', .bool ins', .bool esc']) (by simp [results, Trym.results22, go_sem]) rfl ⟨rfl, below_drewN ((Below.refl _ _).alloc (Nat.le_refl _) _) _⟩

set_option maxHeartbeats 1000000 in
theorem run_any (s : St) (v : Value) (zs : List Int) (w : World) (h : Row w v zs) (hs : zs.length ≤ 1048576) :
    Calls Trym.prog 12 #[.agg #[.bool s.sc, .int .i64 s.d, .bool s.ins, .bool s.esc], v] w
      fun e w' => e = .returned (.tuple #[.int .i64 (mscan s zs).1, .bool (mscan s zs).2.1, .agg #[.bool (mscan s zs).2.2.sc, .int .i64 (mscan s zs).2.2.d, .bool (mscan s zs).2.2.ins, .bool (mscan s zs).2.2.esc]]) ∧ Below w.heap.size w w' := by
  have hc := fun w' (hb : Below w.heap.size w w') => zzscan_any s v zs w' (h.keep hb) hs
  clear h
  generalize mscan s zs = r at *
  obtain ⟨n, done, sc', d', ins', esc'⟩ := r
  obtain ⟨sc, d, ins, esc⟩ := s
  have HC := hide hc
  clear hc
  go_enter Trym.func12, Trym.ntmps12
  go_wp2_with (go_at_call 22; refine (unhide HC _ (((Below.refl _ _).alloc (Nat.le_refl _) _).alloc (by simp) _)).mono ?_; rintro e w1 ⟨rfl, hb1⟩; obtain ⟨hc1, hf1⟩ := bcell hb1)
  refine bodyPost_ret (v := .tuple #[.int .i64 n, .bool done, .agg #[.bool sc', .int .i64 d', .bool ins', .bool esc']]) (by simp [results, Trym.results12, go_sem, hc1]) rfl ⟨rfl, ?_⟩
  exact ((((((((Below.refl _ _).alloc (Nat.le_refl _) _).alloc (by simp) _).trans (hb1.mono (by simp; omega))).setCell (by simp) _).setCell (by simp) _).setCell (by simp) _).setCell (by simp) _)
end Go.Proofs.Qxb6603110aMods
