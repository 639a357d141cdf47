import Derived.Test.Qxb6603110aModsLeaf
import Derived.Lib.SliceRun
namespace Go.Proofs.Qxb6603110aMods
open Go.RowKit

theorem info5 : (Trym.prog.info? 5).map (fun i => (i.zero, i.size, i.bytes)) = some (some (.int .u8 0), 1, 1) := by kernel_rfl
theorem size5 : (Trym.prog.info? 5).map (·.size) = some 1 := by kernel_rfl

/-- v is a slice of the bytes zs, whole, in memory of its own (or nil). -/
def Row (w : World) (v : Value) (zs : List Int) : Prop :=
  Bytes8 zs ∧ ∃ ao, v = .slice ao zs.length zs.length ∧ ((ao = none ∧ zs = []) ∨ ∃ g, ao = some ⟨g, 0, none⟩ ∧ w.heap[g]? = some (.cells (zs.map (Value.int .u8)).toArray 5 (0, 0)))

theorem make_row (n : Nat) (hn : n ≤ 1048576) : ∃ cur : List Value, cur.length = n ∧ ∀ w, (Instr.makeSlice 22 (.int .i64 (n : Int)) (.int .i64 (n : Int))).run Trym.prog w = .ok (.slice (some ⟨w.heap.size, 0, none⟩) n n) (w.alloc (.cells cur.toArray 5)) := by
  refine ⟨(madeCells #[.int .u8 0] n).toList, by simp [size_madeCells], fun w => ?_⟩
  simpa using run_make_row' (P := Trym.prog) 22 5 (.int .u8 0) 1 Trym.underlying22 info5 rfl .i64 .i64 n (by omega) (by omega) w

theorem splice_all {α : Type} (L cs : List α) (h : L.length = cs.length) : splice L 0 cs = cs := by
  simp [splice, ← h]

theorem clone_nil (w : World) : Calls Trym.prog 11 #[.slice none 0 0] w fun e w' => e = .returned (.slice none 0 0) ∧ w' = w := by
  have hq := fun w => Lib.run_eql_slice_nil (P := Trym.prog) w 22 5 none 0 0 0 0 Trym.underlying22
  go_enter Trym.func11, Trym.ntmps11
  go_wp2
  go_ret
  exact ⟨rfl, rfl⟩

theorem clone_row (x : Addr) (len cap : Nat) (ys : List Int) (w : World) (hl : ys.length = len) (hlen : len ≤ 1048576) (hz : Bytes8 ys)
    (hcell : ∀ j v, (ys.map (Value.int .u8))[j]? = some v → w.cell? (x.add j) = some v) :
    Calls Trym.prog 11 #[.slice (some x) len cap] w fun e w' => ∃ v, e = .returned v ∧ Row w' v ys ∧ Below w.heap.size w w' := by
  have hq := fun w => Lib.run_eql_slice_nil (P := Trym.prog) w 22 5 (some x) len cap 0 0 Trym.underlying22
  obtain ⟨cur, hcl, hmk⟩ := make_row len hlen
  have HC := hide hcell
  have hxl : ∀ j v, (ys.map (Value.int .u8))[j]? = some v → (w.alloc (.cells cur.toArray 5)).cell? (x.add j) = some v := by
    intro j v h
    have := hcell j v h
    exact (((Below.refl _ w).alloc (Nat.le_refl _) _).cell (World.block_lt_of_cell? w _ this)).trans this
  clear hcell
  go_enter Trym.func11, Trym.ntmps11
  go_wp2_with (refine wpList_copy_splice rfl (.tmp 9) (.tmp 10) 22 22 rfl 5 Trym.underlying22 size5 (some ⟨w.heap.size, 0, none⟩) (some x) len len len cap rfl rfl w.heap.size 0 cur 5 ?_ (ys.map (Value.int .u8)) ?_ ?_ ?_ ?_ w.heap.size w ((Below.refl _ _).alloc (Nat.le_refl _) _) (Nat.le_refl _) ?_)
  · exact heap_alloc_new w _
  · simp [hl]
  · intro _ j v h
    exact hxl j _ (by rw [List.getElem?_map, h]; rfl)
  · simp [hl, hcl]
  · intro v hv
    obtain ⟨z, _, rfl⟩ := List.mem_map.1 hv
    rfl
  · intro w2 HG hb
    rw [splice_all _ _ (by simp [hl, hcl])] at HG
    go_wp2
    go_ret
    exact ⟨_, rfl, ⟨hz, some ⟨w.heap.size, 0, none⟩, by rw [hl]; rfl, .inr ⟨w.heap.size, rfl, HG⟩⟩, hb⟩

/-- A slice of bytes that came in: nil, or leading to cells that hold them. -/
def Came (w : World) (a : Option Addr) (len cap : Nat) (ys : List Int) : Prop :=
  Bytes8 ys ∧ ys.length = len ∧ ((a = none ∧ len = 0 ∧ cap = 0) ∨ ∃ x, a = some x ∧ ∀ j v, (ys.map (Value.int .u8))[j]? = some v → w.cell? (x.add j) = some v)

theorem Came.keep {w w' : World} {a : Option Addr} {len cap : Nat} {ys : List Int} (h : Came w a len cap ys) (hb : Below w.heap.size w w') : Came w' a len cap ys := by
  refine ⟨h.1, h.2.1, ?_⟩
  rcases h.2.2 with h | ⟨x, hx, hc⟩
  · exact .inl h
  · refine .inr ⟨x, hx, fun j v hj => ?_⟩
    have := hc j v hj
    rw [hb.cell (World.block_lt_of_cell? w _ this)]
    exact this

theorem clone_any (a : Option Addr) (len cap : Nat) (ys : List Int) (w : World) (h : Came w a len cap ys) (hlen : len ≤ 1048576) :
    Calls Trym.prog 11 #[.slice a len cap] w fun e w' => ∃ v, e = .returned v ∧ Row w' v ys ∧ Below w.heap.size w w' := by
  obtain ⟨hz, hl, h⟩ := h
  rcases h with ⟨rfl, rfl, rfl⟩ | ⟨x, rfl, hc⟩
  · refine (clone_nil w).mono fun e w' ⟨he, hw⟩ => ⟨_, he, ⟨hz, none, by rw [hl], .inl ⟨rfl, List.eq_nil_of_length_eq_zero hl⟩⟩, by rw [hw]; exact Below.refl _ _⟩
  · exact clone_row x len cap ys w hl hlen hz hc

theorem Row.keep {w w' : World} {v : Value} {zs : List Int} (h : Row w v zs) (hb : Below w.heap.size w w') : Row w' v zs := by
  obtain ⟨hz, ao, hv, h⟩ := h
  refine ⟨hz, ao, hv, ?_⟩
  rcases h with h | ⟨g, ha, hg⟩
  · exact .inl h
  · exact .inr ⟨g, ha, by rw [hb.block g (Array.getElem?_eq_some_iff.1 hg).1]; exact hg⟩
end Go.Proofs.Qxb6603110aMods
