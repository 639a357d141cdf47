import Derived.Test.Qxb6602767aModsShelf
import Derived.WalkKit
import Derived.WalkSpells
import Derived.Below
import Derived.Lib.Strings
namespace Go.Proofs.Qxb6602767aMods
open Go.RowKit

theorem hide {p : Prop} (h : p) : Hid p := h
theorem unhide {p : Prop} (h : Hid p) : p := h

/-- The number of bytes of the first child: up to and with the first slash, or all. -/
def klen : List UInt8 → Nat
  | [] => 0
  | b :: l => if b = 47 then 1 else klen l + 1

theorem klen_le (l : List UInt8) : klen l ≤ l.length := by
  induction l with
  | nil => simp [klen]
  | cons b l ih => simp only [klen, List.length_cons]; split <;> omega

theorem klen_pos (l : List UInt8) (h : 0 < l.length) : 0 < klen l := by
  cases l with
  | nil => simp at h
  | cons b l => simp only [klen]; split <;> omega

theorem klen_before (l : List UInt8) : ∀ j, j + 1 < klen l → l[j]? ≠ some 47 := by
  induction l with
  | nil => intro j h; simp [klen] at h
  | cons b l ih =>
    intro j h
    simp only [klen] at h
    split at h
    · omega
    · rename_i hb
      cases j with
      | zero => simpa using hb
      | succ j => simpa using ih j (by omega)

theorem klen_end (l : List UInt8) : (klen l = l.length ∧ ∀ j : Nat, l[j]? ≠ some 47) ∨ (0 < klen l ∧ l[klen l - 1]? = some 47) := by
  induction l with
  | nil => left; simp [klen]
  | cons b l ih =>
    simp only [klen]
    by_cases hb : b = 47
    · right; simp [hb]
    · rw [if_neg hb]
      rcases ih with ⟨h1, h2⟩ | ⟨h1, h2⟩
      · left
        refine ⟨by simp [h1], ?_⟩
        intro j
        cases j with
        | zero => simpa using hb
        | succ j => simpa using h2 j
      · right
        refine ⟨by omega, ?_⟩
        rw [show klen l + 1 - 1 = (klen l - 1) + 1 by omega]
        simpa using h2

theorem klen_index (l : List UInt8) : (Lib.indexByte l 47 < 0 ∧ klen l = l.length) ∨ (0 ≤ Lib.indexByte l 47 ∧ ((klen l : Nat) : Int) = Lib.indexByte l 47 + 1) := by
  induction l with
  | nil => left; simp [klen, Lib.indexByte]
  | cons b l ih =>
    have hge := Lib.indexByte_ge l 47
    simp only [klen, Lib.indexByte]
    by_cases hb : b = 47
    · right; simp [hb]
    · have hb' : (b == 47) = false := by simpa using hb
      rw [if_neg hb, hb']
      rcases ih with ⟨h1, h2⟩ | ⟨h1, h2⟩
      · left
        have : Lib.indexByte l 47 = -1 := by omega
        simp [this, h2]
      · right
        have h3 : (Lib.indexByte l 47 == -1) = false := by rw [beq_eq_false_iff_ne]; omega
        simp only [h3]
        constructor
        · simp; omega
        · simp; omega

def kid (s : ByteArray) : Nat := klen s.data.toList

theorem kid_le (s : ByteArray) : kid s ≤ s.size := by
  rw [Lib.size_eq]; exact klen_le _

theorem extract_full (s : ByteArray) : s.extract 0 s.size = s := by
  simp

set_option maxHeartbeats 400000 in
theorem kid_any (s : ByteArray) (w : World) (hs : s.size ≤ 1048576) :
    Calls Trym.prog 27 #[.string s] w fun e w' => e = .returned (.string (s.extract 0 (kid s))) ∧ w' = w := by
  have hc : ∀ w, Calls Trym.prog 30 #[.string s, .int .u8 47] w fun e w' => e = .returned (.int .i64 (Lib.indexByte s.data.toList 47)) ∧ w' = w := fun w => Trym.strings_IndexByte s 47 w
  have hkl := kid_le s
  rcases klen_index s.data.toList with ⟨h1, h2⟩ | ⟨h1, h2⟩
  · have e : s.extract 0 (kid s) = s := by
      unfold kid; rw [h2, ← Lib.size_eq]; exact extract_full s
    rw [e]
    clear e hkl h2
    generalize Lib.indexByte s.data.toList 47 = i at *
    have HC := hide hc
    clear hc
    go_enter Trym.func27, Trym.ntmps27
    go_wp2_with (go_at_call 30; refine (unhide HC _).mono ?_; rintro e w' ⟨rfl, rfl⟩)
    go_ret
    exact ⟨rfl, rfl⟩
  · have h3 : ((kid s : Nat) : Int) = Lib.indexByte s.data.toList 47 + 1 := h2
    clear h2
    generalize Lib.indexByte s.data.toList 47 = i at *
    obtain ⟨n, rfl⟩ := Int.eq_ofNat_of_zero_le h1
    have h4 : kid s = n + 1 := by omega
    have hn : n < s.size := by omega
    rw [h4]
    clear h3 h4 hkl h1
    have HC := hide hc
    clear hc
    go_enter Trym.func27, Trym.ntmps27
    go_wp2_with (go_at_call 30; refine (unhide HC _).mono ?_; rintro e w' ⟨rfl, rfl⟩)
    go_ret
    exact ⟨rfl, rfl⟩

theorem zzkid_any (s : ByteArray) (w : World) (hs : s.size ≤ 1048576) :
    Calls Trym.prog 18 #[.string s] w fun e w' => e = .returned (.string (s.extract 0 (kid s))) ∧ w' = w := by
  go_enter Trym.func18, Trym.ntmps18
  go_wp2_with (go_at_call 27; refine (kid_any s _ hs).mono ?_; rintro e w' ⟨rfl, rfl⟩)
  go_ret
  exact ⟨rfl, rfl⟩

/-- Does a slash stand in it? -/
def slashIn (s : ByteArray) : Bool := s.data.toList.any (fun c => c == 47)

theorem byteAt (s : ByteArray) (k : Nat) (h : k < s.size) : s.data.toList[k]? = some s[k] := by
  rw [List.getElem?_eq_getElem (by simpa using h)]; rfl

theorem byte47 (b : UInt8) : ((b.toNat : Int) == 47) = (b == 47) := by
  rw [Bool.eq_iff_iff]
  simp only [beq_iff_eq]
  constructor
  · intro h
    apply UInt8.toNat_inj.1
    simpa using (by omega : b.toNat = 47)
  · rintro rfl; rfl

theorem slashIn_yes (s : ByteArray) (k : Nat) (h : s.data.toList[k]? = some 47) : slashIn s = true := by
  unfold slashIn
  rw [List.any_eq_true]
  exact ⟨47, List.mem_of_getElem? h, rfl⟩

theorem slashIn_no (s : ByteArray) (h : ∀ j : Nat, s.data.toList[j]? ≠ some 47) : slashIn s = false := by
  unfold slashIn
  rw [List.any_eq_false]
  intro c hc he
  obtain ⟨j, hj⟩ := List.getElem?_of_mem hc
  have : c = 47 := by simpa using he
  exact h j (this ▸ hj)

theorem ret_bool {a b : Bool} (h : a = b) : Ending.returned (.bool a) = .returned (.bool b) := by rw [h]

set_option maxHeartbeats 400000 in
theorem slash_any (s : ByteArray) (w : World) (hs : s.size ≤ 1048576) :
    Calls Trym.prog 13 #[.string s] w fun e w' => e = .returned (.bool (slashIn s)) ∧ w' = w := by
  go_enter Trym.func13, Trym.ntmps13
  go_wp2
  go_loop [3] (fun i => ∃ k : Nat, k ≤ s.size ∧ i = .int .i64 k ∧ Hid (∀ j, j < k → s.data.toList[j]? ≠ some 47)) (fun i => s.size - (intOf i).toNat)
  case atStart => exact ⟨0, Nat.zero_le _, rfl, hide fun j h => by omega⟩
  case round =>
    obtain ⟨k, hk, rfl, HA⟩ := hrel
    by_cases hlt : k < s.size
    · go_wp2
      · go_ret
        have h47 : (s[k] == 47) = true := by rw [← byte47]; assumption
        exact ⟨ret_bool (slashIn_yes s k (by rw [byteAt s k hlt, eq_of_beq h47])).symm, rfl⟩
      · have h47 : (s[k] == 47) = false := by rw [← byte47]; assumption
        go_round
        case rel =>
          refine ⟨k + 1, by omega, by go_num, hide fun j hj => ?_⟩
          by_cases he : j = k
          · subst he; rw [byteAt s j hlt]; intro h; simp at h; simp [h] at h47
          · exact unhide HA j (by omega)
        case measure => simp [intOf]; omega
    · go_wp2
      go_ret
      refine ⟨ret_bool (slashIn_no s fun j => ?_).symm, rfl⟩
      by_cases hj : j < s.size
      · exact unhide HA j (by omega)
      · rw [List.getElem?_eq_none (by rw [← Lib.size_eq]; omega)]; simp
end Go.Proofs.Qxb6602767aMods
