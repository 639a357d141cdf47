import Derived.Test.Qxb6603110aModsPlain
import Derived.Test.Qxb6603110aModsShelf
import Derived.WalkKit
import Derived.WalkSpells
import Derived.Below
import Derived.OwnWalk
import Derived.ProofKit
import Derived.Laws.CopyOwn
import Derived.Deep.OwnRows
namespace Go.Proofs.Qxb6603110aMods
open Go.RowKit

theorem hide {p : Prop} (h : p) : Hid p := h
theorem unhide {p : Prop} (h : Hid p) : p := h

theorem index_spec (l : List UInt8) (c : UInt8) : (Lib.indexByte l c = -1 ∧ ∀ j : Nat, l[j]? ≠ some c) ∨ ∃ i : Nat, Lib.indexByte l c = i ∧ l[i]? = some c ∧ ∀ j, j < i → l[j]? ≠ some c := by
  induction l with
  | nil => left; simp [Lib.indexByte]
  | cons b l ih =>
    by_cases hb : b = c
    · right
      refine ⟨0, by simp [Lib.indexByte, hb], by simp [hb], fun j hj => by omega⟩
    · have hb' : (b == c) = false := by simpa using hb
      rcases ih with ⟨h1, h2⟩ | ⟨i, h1, h2, h3⟩
      · left
        refine ⟨by simp [Lib.indexByte, hb', h1], ?_⟩
        intro j
        cases j with
        | zero => simpa using hb
        | succ j => simpa using h2 j
      · right
        have hne : ((i : Int) == -1) = false := by rw [beq_eq_false_iff_ne]; omega
        refine ⟨i + 1, by simp [Lib.indexByte, hb', h1, hne], by simpa using h2, ?_⟩
        intro j hj
        cases j with
        | zero => simpa using hb
        | succ j => simpa using h3 j (by omega)

def Bytes8 (zs : List Int) : Prop := ∀ z ∈ zs, 0 ≤ z ∧ z ≤ 255

theorem byte_eq {x c : Int} (hx : 0 ≤ x ∧ x ≤ 255) (hc : 0 ≤ c ∧ c ≤ 255) (h : UInt8.ofNat x.toNat = UInt8.ofNat c.toNat) : x = c := by
  have := congrArg UInt8.toNat h
  simp [UInt8.toNat_ofNat'] at this
  omega

theorem bytes_at (zs : List Int) (hz : Bytes8 zs) (c : Int) (hc : 0 ≤ c ∧ c ≤ 255) (j : Nat) : (Lib.bytesOf zs)[j]? = some (UInt8.ofNat c.toNat) ↔ zs[j]? = some c := by
  unfold Lib.bytesOf
  rw [List.getElem?_map]
  constructor
  · intro h
    obtain ⟨x, hx, he⟩ := Option.map_eq_some_iff.1 h
    rw [hx, byte_eq (hz x (List.mem_of_getElem? hx)) hc he]
  · intro h
    rw [h]; rfl

theorem next_of (zs : List Int) (hz : Bytes8 zs) (c : Int) (hc : 0 ≤ c ∧ c ≤ 255) (k : Nat) (hk : k ≤ zs.length) :
    (Lib.indexByte (Lib.bytesOf (zs.drop k)) (UInt8.ofNat c.toNat) < 0 ∧ IsNext zs c k zs.length) ∨
    ∃ i : Nat, Lib.indexByte (Lib.bytesOf (zs.drop k)) (UInt8.ofNat c.toNat) = i ∧ k + i < zs.length ∧ IsNext zs c k (k + i) := by
  have hz' : Bytes8 (zs.drop k) := fun z h => hz z (List.mem_of_mem_drop h)
  rcases index_spec (Lib.bytesOf (zs.drop k)) (UInt8.ofNat c.toNat) with ⟨h1, h2⟩ | ⟨i, h1, h2, h3⟩
  · left
    refine ⟨by omega, hk, Nat.le_refl _, ?_, .inl rfl⟩
    intro j hj _ he
    refine h2 (j - k) ((bytes_at _ hz' c hc _).2 ?_)
    rw [List.getElem?_drop, show k + (j - k) = j by omega, he]
  · right
    have h4 := (bytes_at _ hz' c hc _).1 h2
    rw [List.getElem?_drop] at h4
    have hlt := (List.getElem?_eq_some_iff.1 h4).1
    refine ⟨i, h1, hlt, by omega, by omega, ?_, .inr h4⟩
    intro j hj hlt2 he
    refine h3 (j - k) (by omega) ((bytes_at _ hz' c hc _).2 ?_)
    rw [List.getElem?_drop, show k + (j - k) = j by omega, he]

theorem blank_any (c : Int) (w : World) : Calls Trym.prog 27 #[.int .u8 c] w fun e w' => e = .returned (.bool (blankB c)) ∧ w' = w := by
  unfold blankB
  go_enter Trym.func27, Trym.ntmps27
  go_wp2
  all_goals go_ret
  all_goals refine ⟨?_, rfl⟩
  all_goals first | rfl | (subst_vars; rfl)

theorem isBlank_any (c : Int) (w : World) : Calls Trym.prog 23 #[.int .u8 c] w fun e w' => e = .returned (.bool (blankB c)) ∧ w' = w := by
  unfold blankB
  go_enter Trym.func23, Trym.ntmps23
  go_wp2
  all_goals go_ret
  all_goals refine ⟨?_, rfl⟩
  all_goals first | rfl | (subst_vars; rfl)

theorem index_any (g n k : Nat) (zs : List Int) (c : Int) (w : World) (hn : zs.length = n) (hs : n ≤ 1048576) (hk : k < n) (hc : 0 ≤ c ∧ c ≤ 255) (hz : Bytes8 zs)
    (hcell : ∀ i, i < n → w.cell? ⟨g, i, none⟩ = some (.int .u8 (zs.getD i 0))) :
    Calls Trym.prog 26 #[.slice (some ⟨g, 0, none⟩) n n, .int .i64 k, .int .u8 c] w fun e w' => ∃ q : Nat, e = .returned (.int .i64 q) ∧ IsNext zs c k q ∧ w' = w := by
  have hb := fun w (h : ∀ i, i < n - k → w.cell? ⟨g, k + i, none⟩ = some (.int .u8 ((zs.drop k).getD i 0))) => Trym.bytes_IndexByte g k (n - k) (n - k) (zs.drop k) c w (by rw [List.length_drop, hn]) h
  have hcell' : ∀ i, i < n - k → w.cell? ⟨g, k + i, none⟩ = some (.int .u8 ((zs.drop k).getD i 0)) := by
    intro i hi
    rw [hcell (k + i) (by omega)]
    simp [List.getD_eq_getElem?_getD, List.getElem?_drop]
  have hB := hide (hb w hcell')
  clear hb hcell hcell'
  rcases next_of zs hz c hc k (by omega) with ⟨h1, h2⟩ | ⟨i, h1, h2, h3⟩
  · rw [hn] at h2
    have H2 := hide h2
    generalize Lib.indexByte (Lib.bytesOf (zs.drop k)) c.toNat.toUInt8 = i at *
    go_enter Trym.func26, Trym.ntmps26
    go_wp2_with (go_at_call 28; refine (unhide hB).mono ?_; rintro e w' ⟨rfl, rfl⟩)
    go_ret
    exact ⟨n, rfl, unhide H2, rfl⟩
  · have H3 := hide h3
    clear h3
    have h1' : Lib.indexByte (Lib.bytesOf (zs.drop k)) c.toNat.toUInt8 = i := h1
    rw [h1'] at hB
    clear h1 h1'
    rw [hn] at h2
    go_enter Trym.func26, Trym.ntmps26
    go_wp2_with (go_at_call 28; refine (unhide hB).mono ?_; rintro e w' ⟨rfl, rfl⟩)
    go_ret
    exact ⟨k + i, by go_num, unhide H3, rfl⟩
end Go.Proofs.Qxb6603110aMods
