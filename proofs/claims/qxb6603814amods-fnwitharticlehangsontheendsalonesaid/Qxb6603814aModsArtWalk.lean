import Derived.Test.Qxb6603814aModsArt
import Derived.WalkSmall
namespace Go.Proofs.Qxb6603814aMods
open Go.RowKit

theorem app_size (p s : ByteArray) : (p ++ s).size = p.size + s.size := by simp

theorem app_tail (p s : ByteArray) : ((p ++ s).extract p.size (p ++ s).size).toList = s.toList := by
  rw [Lib.extract_toList, Lib.toList_data, app_size]
  simp only [ByteArray.data_append, Array.toList_append]
  rw [Lib.size_eq p, Lib.size_eq s, List.drop_left, List.take_of_length_le (by omega)]

theorem app_head (p s : ByteArray) : ((p ++ s).extract 0 p.size).toList = p.toList := by
  rw [Lib.extract_toList, Lib.toList_data]
  simp only [ByteArray.data_append, Array.toList_append]
  rw [Lib.size_eq p]
  simp

set_option maxRecDepth 100000 in
set_option maxHeartbeats 1000000 in
theorem same_walk (a b : ByteArray) (ha : 0 < a.size) (hb : 0 < b.size) (h4 : a.size ≤ 524288) (h5 : b.size ≤ 524288) (h0 : a[0] = b[0]) (h1 : a[a.size - 1] = b[b.size - 1]) (w : World) :
    Calls Trym.prog 3 #[.string a, .string b] w fun e w' => e = .returned (.bool true) ∧ Below w.heap.size w w' := by
  have ka := fun w => zzart_any a ha w h4
  have kb := fun w => zzart_any b hb w h5
  rw [art_same a b ha hb h0 h1] at ka
  have s1 := app_size (artOf b hb) a
  have s2 := app_size (artOf b hb) b
  have t1 := app_tail (artOf b hb) a
  have t2 := app_tail (artOf b hb) b
  have u1 := app_head (artOf b hb) a
  have u2 := app_head (artOf b hb) b
  rw [s1] at t1
  rw [s2] at t2
  have hp : (artOf b hb).size ≤ 3 := by
    unfold artOf
    split
    · decide
    · split <;> decide
  generalize hwa : artOf b hb ++ a = wa at *
  generalize hwb : artOf b hb ++ b = wb at *
  clear hwa hwb
  generalize artOf b hb = p at *
  generalize hn : p.size = n at *
  have hd : ((a[0].toNat : Int) != (b[0].toNat : Int)) = false := by rw [h0]; simp
  have hl : ((a[a.size - 1].toNat : Int) != (b[b.size - 1].toNat : Int)) = false := by rw [h1]; simp
  have ha0 : ((a.size : Int) == 0) = false := by rw [beq_eq_false_iff_ne]; omega
  have hb0 : ((b.size : Int) == 0) = false := by rw [beq_eq_false_iff_ne]; omega
  have KA := hide ka
  have KB := hide kb
  have U1 := hide u1
  have U2 := hide u2
  clear ka kb u1 u2 hn h0 h1
  have i1 : (0 : Int) < (a.size : Int) := by omega
  have i2 : (0 : Int) < (b.size : Int) := by omega
  have i3 : (1 : Int) ≤ (a.size : Int) := by omega
  have i4 : (1 : Int) ≤ (b.size : Int) := by omega
  have i5 : (a.size : Int) - 1 < (a.size : Int) := by omega
  have i6 : (b.size : Int) - 1 < (b.size : Int) := by omega
  go_enter Trym.func3, Trym.ntmps3
  go_wp2_with (go_at_call 4; go_in)
  go_quiet (fail)
  go_wp2_with fail
  refine (unhide KA _).mono ?_
  rintro e w1 ⟨rfl, rfl⟩
  go_wp2_with fail
  refine (unhide KB _).mono ?_
  rintro e w2 ⟨rfl, rfl⟩
  go_wp2_with fail
  have huu : ((wa.extract 0 n).toList == (wb.extract 0 n).toList) = true := by rw [unhide U1, unhide U2]; simp
  have k1 : (0 : Int) ≤ (n : Int) := by omega
  have k2 : (n : Int) ≤ (n : Int) + (a.size : Int) := by omega
  have k3 : (n : Int) ≤ (n : Int) + (b.size : Int) := by omega
  go_quiet (fail)
  go_wp2
  go_ret
  exact ⟨rfl, below_drewN (below_drewN (Below.refl _ _) _) _⟩

theorem late_walk (a b : ByteArray) (ha : a.size ≤ 9223372036854775807) (hb : b.size ≤ 9223372036854775807) (h : 524288 < a.size ∨ 524288 < b.size) (w : World) :
    Calls Trym.prog 3 #[.string a, .string b] w fun e w' => e = .returned (.bool true) ∧ Below w.heap.size w w' := by
  rcases h with h | h
  · go_enter Trym.func3, Trym.ntmps3
    go_wp2_with (go_at_call 4; go_in)
    all_goals (go_ret; exact ⟨rfl, Below.refl _ _⟩)
  · go_enter Trym.func3, Trym.ntmps3
    go_wp2_with (go_at_call 4; go_in)
    all_goals (go_ret; exact ⟨rfl, Below.refl _ _⟩)

theorem empty_walk (a b : ByteArray) (ha : a.size ≤ 524288) (hb : b.size ≤ 524288) (h : a.size = 0 ∨ b.size = 0) (w : World) :
    Calls Trym.prog 3 #[.string a, .string b] w fun e w' => e = .returned (.bool true) ∧ Below w.heap.size w w' := by
  by_cases h0 : a.size = 0
  · have ha0 : ((a.size : Int) == 0) = true := by rw [beq_iff_eq]; omega
    clear h h0
    go_enter Trym.func3, Trym.ntmps3
    go_wp2_with (go_at_call 4; go_in)
    all_goals (go_ret; exact ⟨rfl, Below.refl _ _⟩)
  · have ha0 : ((a.size : Int) == 0) = false := by rw [beq_eq_false_iff_ne]; omega
    have hb0 : ((b.size : Int) == 0) = true := by rw [beq_iff_eq]; omega
    clear h h0
    go_enter Trym.func3, Trym.ntmps3
    go_wp2_with (go_at_call 4; go_in)
    all_goals (go_ret; exact ⟨rfl, Below.refl _ _⟩)

set_option maxRecDepth 100000 in
set_option maxHeartbeats 1000000 in
theorem first_walk (a b : ByteArray) (ha : 0 < a.size) (hb : 0 < b.size) (h4 : a.size ≤ 524288) (h5 : b.size ≤ 524288) (h0 : ¬ a[0] = b[0]) (w : World) :
    Calls Trym.prog 3 #[.string a, .string b] w fun e w' => e = .returned (.bool true) ∧ Below w.heap.size w w' := by
  have hd : ((a[0].toNat : Int) != (b[0].toNat : Int)) = true := by
    rw [bne_iff_ne]
    intro h
    exact h0 (UInt8.toNat_inj.1 (by omega))
  have ha0 : ((a.size : Int) == 0) = false := by rw [beq_eq_false_iff_ne]; omega
  have hb0 : ((b.size : Int) == 0) = false := by rw [beq_eq_false_iff_ne]; omega
  have i1 : (0 : Int) < (a.size : Int) := by omega
  have i2 : (0 : Int) < (b.size : Int) := by omega
  clear h0
  go_enter Trym.func3, Trym.ntmps3
  go_wp2_with (go_at_call 4; go_in)
  go_quiet (fail)
  go_wp2
  go_ret
  exact ⟨rfl, below_drewN (Below.refl _ _) _⟩

set_option maxRecDepth 100000 in
set_option maxHeartbeats 1000000 in
theorem last_walk (a b : ByteArray) (ha : 0 < a.size) (hb : 0 < b.size) (h4 : a.size ≤ 524288) (h5 : b.size ≤ 524288) (h0 : a[0] = b[0]) (h1 : ¬ a[a.size - 1] = b[b.size - 1]) (w : World) :
    Calls Trym.prog 3 #[.string a, .string b] w fun e w' => e = .returned (.bool true) ∧ Below w.heap.size w w' := by
  have hd : ((a[0].toNat : Int) != (b[0].toNat : Int)) = false := by rw [h0]; simp
  have hl : ((a[a.size - 1].toNat : Int) != (b[b.size - 1].toNat : Int)) = true := by
    rw [bne_iff_ne]
    intro h
    exact h1 (UInt8.toNat_inj.1 (by omega))
  have ha0 : ((a.size : Int) == 0) = false := by rw [beq_eq_false_iff_ne]; omega
  have hb0 : ((b.size : Int) == 0) = false := by rw [beq_eq_false_iff_ne]; omega
  have i1 : (0 : Int) < (a.size : Int) := by omega
  have i2 : (0 : Int) < (b.size : Int) := by omega
  have i3 : (1 : Int) ≤ (a.size : Int) := by omega
  have i4 : (1 : Int) ≤ (b.size : Int) := by omega
  have i5 : (a.size : Int) - 1 < (a.size : Int) := by omega
  have i6 : (b.size : Int) - 1 < (b.size : Int) := by omega
  clear h0 h1
  go_enter Trym.func3, Trym.ntmps3
  go_wp2_with (go_at_call 4; go_in)
  go_quiet (fail)
  go_wp2
  go_ret
  exact ⟨rfl, below_drewN (Below.refl _ _) _⟩
end Go.Proofs.Qxb6603814aMods
