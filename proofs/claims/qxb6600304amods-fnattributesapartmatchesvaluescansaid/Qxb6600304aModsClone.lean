import Derived.Test.Qxb6600304aModsLeaf
namespace Go.Proofs.Qxb6600304aMods
open Go.RowKit

theorem info5 : (Trym.prog.info? 5).map (fun i => (i.zero, i.size, i.bytes)) = some (some (.int .u8 0), 1, 1) := by kernel_rfl

theorem make_row (n : Nat) (hn : n ≤ 1048576) : ∃ cur : List Value, cur.length = n ∧ ∀ w, (Instr.makeSlice 23 (.int .i64 (n : Int)) (.int .i64 (n : Int))).run Trym.prog w = .ok (.slice (some ⟨w.heap.size, 0, none⟩) n n) (w.alloc (.cells cur.toArray 5)) := by
  refine ⟨(madeCells #[.int .u8 0] n).toList, by simp [size_madeCells], fun w => ?_⟩
  simpa using run_make_row' (P := Trym.prog) 23 5 (.int .u8 0) 1 Trym.underlying23 info5 rfl .i64 .i64 n (by omega) (by omega) w

/-- The first k cells are laid over. -/
def mix (X cur : List Value) (k : Nat) : List Value := X.take k ++ cur.drop k

theorem mix_step (X cur : List Value) (k : Nat) (x : Value) (hx : X[k]? = some x) (hl : X.length = cur.length) : (mix X cur k).set k x = mix X cur (k + 1) := by
  have hk : k < X.length := (List.getElem?_eq_some_iff.1 hx).1
  unfold mix
  rw [List.set_append_right _ _ (by simp; omega), List.drop_eq_getElem_cons (by omega : k < cur.length)]
  rw [show k - (X.take k).length = 0 by simp; omega, List.set_cons_zero, List.take_add_one, hx]
  simp

theorem mix_all (X cur : List Value) (n : Nat) (h1 : X.length = n) (h2 : cur.length = n) : mix X cur n = X := by
  unfold mix
  rw [List.drop_of_length_le (by omega), List.take_of_length_le (by omega), List.append_nil]

theorem mix_length (X cur : List Value) (k n : Nat) (h1 : X.length = n) (h2 : cur.length = n) (hk : k ≤ n) : (mix X cur k).length = n := by
  unfold mix
  simp; omega

theorem clone_nil (w : World) : Calls Trym.prog 13 #[.slice none 0 0] w fun e w' => e = .returned (.slice none 0 0) ∧ w' = w := by
  have hq := fun w => Lib.run_eql_slice_nil (P := Trym.prog) w 23 5 none 0 0 0 0 Trym.underlying23
  go_enter Trym.func13, Trym.ntmps13
  go_wp2
  go_ret
  exact ⟨rfl, rfl⟩

set_option maxHeartbeats 1000000 in
theorem clone_row (x : Addr) (len cap : Nat) (ys : List Int) (w : World) (hl : ys.length = len) (hlen : len ≤ 1048576)
    (hcell : ∀ j v, (ys.map (Value.int .u8))[j]? = some v → w.cell? (x.add j) = some v) :
    Calls Trym.prog 13 #[.slice (some x) len cap] w fun e w' => e = .returned (.slice (some ⟨w.heap.size, 0, none⟩) len len) ∧ w' = w.alloc (.cells (ys.map (Value.int .u8)).toArray 5) := by
  have hq := fun w => Lib.run_eql_slice_nil (P := Trym.prog) w 23 5 (some x) len cap 0 0 Trym.underlying23
  obtain ⟨cur, hcl, hmk⟩ := make_row len hlen
  obtain ⟨X, hX⟩ : ∃ X, X = ys.map (Value.int .u8) := ⟨_, rfl⟩
  rw [← hX] at hcell ⊢
  have hXl : X.length = len := by rw [hX, List.length_map, hl]
  have HC := hide hcell
  have HX := hide hX
  have HXL := hide hXl
  have Hcl := hide hcl
  clear hcell hX hXl hcl
  go_enter Trym.func13, Trym.ntmps13
  go_wp2
  go_loopw [4] (fun ii wr => ∃ k : Nat, k ≤ len ∧ ii = .int .i64 k ∧ wr = w.alloc (.cells (mix X cur k).toArray 5)) (fun ii _ => len - (intOf ii).toNat)
  case atStart => exact ⟨0, Nat.zero_le _, rfl, by simp [mix]⟩
  case round =>
    obtain ⟨k, hk, rfl, rfl⟩ := hrel
    by_cases hlt : k < len
    · obtain ⟨c, hc⟩ : ∃ c, ys[k]? = some c := ⟨_, List.getElem?_eq_getElem (by omega)⟩
      have hy : X[k]? = some (.int .u8 c) := by rw [unhide HX, List.getElem?_map, hc]; rfl
      have hyc : ∀ o, (w.alloc o).cell? (x.add k) = some (.int .u8 c) := fun o =>
        (((Below.refl _ w).alloc (Nat.le_refl _) o).cell (World.block_lt_of_cell? w _ (unhide HC k _ hy))).trans (unhide HC k _ hy)
      have HS := hide (mix_step X cur k _ hy (by rw [unhide HXL, unhide Hcl]))
      have hml := mix_length X cur k len (unhide HXL) (unhide Hcl) hk
      clear hy hc
      generalize mix X cur k = M at *
      have hMk : M[k]? = some (M[k]'(by omega)) := List.getElem?_eq_getElem (by omega)
      go_wp2
      go_roundw
      case rel => exact ⟨k + 1, by omega, by go_num, by rw [unhide HS]⟩
      case measure => simp [intOf]; omega
    · have hke : k = len := by omega
      subst hke
      have hm := mix_all X cur k (unhide HXL) (unhide Hcl)
      rw [hm]
      clear hm
      go_wp2
      go_ret
      exact ⟨rfl, rfl⟩

/-- A slice of bytes that came in: nil, or leading to cells that hold them. -/
def Came (w : World) (a : Option Addr) (len cap : Nat) (ys : List Int) : Prop :=
  Bytes8 ys ∧ ys.length = len ∧ ((a = none ∧ len = 0 ∧ cap = 0) ∨ ∃ x, a = some x ∧ ∀ j v, (ys.map (Value.int .u8))[j]? = some v → w.cell? (x.add j) = some v)

theorem clone_any (a : Option Addr) (len cap : Nat) (ys : List Int) (w : World) (h : Came w a len cap ys) (hlen : len ≤ 1048576) :
    Calls Trym.prog 13 #[.slice a len cap] w fun e w' => ∃ v, e = .returned v ∧ Holds w' v ys ∧ Below w.heap.size w w' := by
  obtain ⟨hz, hl, h⟩ := h
  rcases h with ⟨rfl, rfl, rfl⟩ | ⟨x, rfl, hc⟩
  · exact (clone_nil w).mono fun e w' ⟨he, hw⟩ => ⟨_, he, ⟨hz, .inl ⟨rfl, List.eq_nil_of_length_eq_zero hl⟩⟩, by rw [hw]; exact Below.refl _ _⟩
  · refine (clone_row x len cap ys w hl hlen hc).mono fun e w' ⟨he, hw⟩ => ⟨_, he, ⟨hz, .inr ⟨w.heap.size, len, by rw [hl], ?_, fun i hi => ?_⟩⟩, ?_⟩
    · rw [hw]; simp
    · rw [hw, World.cell?_alloc_at _ _ _ _ rfl]
      simp [List.getElem?_eq_getElem hi]
    · rw [hw]; exact (Below.refl _ _).alloc (Nat.le_refl _) _
end Go.Proofs.Qxb6600304aMods
