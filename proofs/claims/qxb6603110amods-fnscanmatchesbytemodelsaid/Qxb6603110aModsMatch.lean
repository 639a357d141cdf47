import Derived.Test.Qxb6603110aModsModel
import Derived.Laws.StructEq
namespace Go.Proofs.Qxb6603110aMods
open Go.RowKit

theorem model_nil (s : St) (w : World) :
    Calls Trym.prog 13 #[.agg #[.bool s.sc, .int .i64 s.d, .bool s.ins, .bool s.esc], .slice none 0 0] w
      fun e w' => e = .returned (.tuple #[.int .i64 0, .bool false, .agg #[.bool s.sc, .int .i64 s.d, .bool s.ins, .bool s.esc]]) ∧ Below w.heap.size w w' := by
  go_enter Trym.func13, Trym.ntmps13
  go_wp2
  go_loopw [7] (fun ii wr => ii = .int .i64 0 ∧ wr = (w.alloc (.cells #[.bool s.sc, .int .i64 s.d, .bool s.ins, .bool s.esc] 28)).alloc (.cells #[.bool false, .int .i64 0, .bool false, .bool false] 28)) (fun _ _ => 0)
  case atStart => exact ⟨rfl, rfl⟩
  case round =>
    obtain ⟨rfl, rfl⟩ := hrel
    go_wp2
    go_region
    go_wp2
    exact bodyPost_ret (v := .tuple #[.int .i64 0, .bool false, .agg #[.bool s.sc, .int .i64 s.d, .bool s.ins, .bool s.esc]]) (by simp [results, Trym.results13, go_sem]) rfl ⟨rfl, (((Below.refl _ _).alloc (Nat.le_refl _) _).alloc (by simp) _).drew⟩

theorem model_any (s : St) (v : Value) (zs : List Int) (w : World) (h : Row w v zs) (hs : zs.length ≤ 1048576) :
    Calls Trym.prog 13 #[.agg #[.bool s.sc, .int .i64 s.d, .bool s.ins, .bool s.esc], v] w
      fun e w' => e = .returned (.tuple #[.int .i64 (mscan s zs).1, .bool (mscan s zs).2.1, .agg #[.bool (mscan s zs).2.2.sc, .int .i64 (mscan s zs).2.2.d, .bool (mscan s zs).2.2.ins, .bool (mscan s zs).2.2.esc]]) ∧ Below w.heap.size w w' := by
  obtain ⟨hz, ao, rfl, h⟩ := h
  rcases h with ⟨rfl, rfl⟩ | ⟨g, rfl, hg⟩
  · exact model_nil s w
  · obtain ⟨h1, h2⟩ := Row.cells hg
    exact model_row g zs.length zs s w rfl hs h1 h2

theorem eqSt (sc : Bool) (d : Int) (ins esc : Bool) (w : World) : (Op.equalIn 10000 28 (.agg #[.bool sc, .int .i64 d, .bool ins, .bool esc]) (.agg #[.bool sc, .int .i64 d, .bool ins, .bool esc])).run Trym.prog w = .ok true w := by
  have u3 := Trym.underlying3
  have a3 := Trym.isAgg3
  have z3 := Trym.sizeOf3
  have u4 := Trym.underlying4
  have a4 := Trym.isAgg4
  have z4 := Trym.sizeOf4
  have hS : Trym.prog.underlying 28 = some (.struct (Trym.prog.fieldsOf 28)) := by kernel_rfl
  rw [show (10000 : Nat) = 9999 + 1 from rfl, run_equalIn_agg w 9999 28 _ _ hS (by kernel_rfl)]
  simp only [Program.fieldsOf, Trym.underlying28]
  go_simp

set_option maxRecDepth 100000 in
set_option maxHeartbeats 2000000 in
theorem match_walk (s : St) (a4 : Option Addr) (len4 cap4 : Nat) (za : List Int) (w : World) (ha : Came w a4 len4 cap4 za) (h4 : len4 ≤ 1048576) :
    Calls Trym.prog 4 #[.bool s.sc, .int .i64 s.d, .bool s.ins, .bool s.esc, .slice a4 len4 cap4] w fun e w' => e = .returned (.bool true) ∧ Below w.heap.size w w' := by
  have hla := ha.2.1
  have HA := hide ha
  clear ha
  go_enter Trym.func4, Trym.ntmps4
  go_wp2_with (go_at_call 10; go_in)
  refine (clone_any a4 len4 cap4 za _ (unhide HA) (by omega)).mono ?_
  rintro e w1 ⟨va, rfl, hra, hb1⟩
  have k1 := fun W (hb : Below w1.heap.size w1 W) => run_any s va za W (hra.keep hb) (by omega)
  have k2 := fun W (hb : Below w1.heap.size w1 W) => model_any s va za W (hra.keep hb) (by omega)
  clear hra HA hla
  generalize mscan s za = r at *
  obtain ⟨n1, dn, sc1, d1, ins1, esc1⟩ := r
  have K1 := hide k1
  have K2 := hide k2
  clear k1 k2
  have he := eqSt sc1 d1 ins1 esc1
  go_wp2_with fail
  refine (unhide K1 _ ((Below.refl _ _).alloc (Nat.le_refl _) _)).mono ?_
  rintro e w2 ⟨rfl, hb2⟩
  obtain ⟨hc2, hf2⟩ := bcell hb2
  have hB2 : Below w1.heap.size w1 w2 := ((Below.refl _ _).alloc (Nat.le_refl _) _).trans (hb2.mono (by simp))
  have hz2 : w1.heap.size < w2.heap.size := by (have := hb2.size; simp at this; omega)
  go_wp2_with fail
  refine (unhide K2 _ (hB2.alloc (by omega) _)).mono ?_
  rintro e w3 ⟨rfl, hb3⟩
  obtain ⟨hc3, hf3⟩ := bcell hb3
  have hz3 : w2.heap.size < w3.heap.size := by (have := hb3.size; simp at this; omega)
  have hB3 : Below w1.heap.size w1 w3 := (hB2.alloc (by omega) _).trans (hb3.mono (by simp; omega))
  go_wp2_with fail
  go_ret
  exact ⟨rfl, hb1.trans ((hB3.alloc (by omega) _).mono hb1.size)⟩
end Go.Proofs.Qxb6603110aMods
