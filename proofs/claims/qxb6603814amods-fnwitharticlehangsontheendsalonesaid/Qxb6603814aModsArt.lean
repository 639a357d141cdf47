import Derived.Test.Qxb6603814aModsShelf
import Derived.WalkKit
import Derived.WalkSpells
import Derived.Below
import Derived.ProofKit
import Derived.Lib.Strings
import Derived.Deep.QuietTactic
import Derived.BigQuiet
namespace Go.Proofs.Qxb6603814aMods
open Go.RowKit

theorem hide {p : Prop} (h : p) : Hid p := h
theorem unhide {p : Prop} (h : Hid p) : p := h

/-- The article that a name takes. -/
def artOf (s : ByteArray) (h : 0 < s.size) : ByteArray :=
  if Lib.hasSuffix s.data.toList [115] then ⟨#[]⟩ else if (0 : Int) ≤ Lib.indexByte [97, 101, 105, 111, 117] (s[0]) then ⟨#[97, 110, 32]⟩ else ⟨#[97, 32]⟩

theorem toU8 (b : UInt8) : ((b.toNat : Int)).toNat.toUInt8 = b := by simp

theorem empty_app (s : ByteArray) : (⟨#[]⟩ : ByteArray) ++ s = s := by
  apply ByteArray.ext
  simp

set_option maxHeartbeats 400000 in
theorem art_any (s : ByteArray) (h : 0 < s.size) (w : World) (hs : s.size ≤ 524288) :
    Calls Trym.prog 6 #[.string s] w fun e w' => e = .returned (.string (artOf s h ++ s)) ∧ w' = w := by
  have h1 : ∀ w, Calls Trym.prog 7 #[.string s, .string ⟨#[115]⟩] w fun e w' => e = .returned (.bool (Lib.hasSuffix s.data.toList [115])) ∧ w' = w := fun w => Trym.strings_HasSuffix s ⟨#[115]⟩ w (by omega)
  have h2 : ∀ w, Calls Trym.prog 8 #[.string ⟨#[97, 101, 105, 111, 117]⟩, .int .u8 (s[0].toNat : Int)] w fun e w' => e = .returned (.int .i64 (Lib.indexByte [97, 101, 105, 111, 117] (s[0]))) ∧ w' = w := fun w => by
    have := Trym.strings_IndexByte ⟨#[97, 101, 105, 111, 117]⟩ (s[0].toNat : Int) w
    rw [toU8] at this
    exact this
  obtain ⟨t, ht⟩ : ∃ t, t = artOf s h ++ s := ⟨_, rfl⟩
  rw [← ht]
  unfold artOf at ht
  generalize Lib.indexByte [97, 101, 105, 111, 117] (s[0]) = i at *
  cases hsuf : Lib.hasSuffix s.data.toList [115] with
  | true =>
    rw [hsuf] at h1
    rw [hsuf, if_pos rfl] at ht
    have HT := hide ht
    have H1 := hide h1
    clear h1 h2 hsuf ht
    go_enter Trym.func6, Trym.ntmps6
    go_wp2_with (go_at_call 7; refine (unhide H1 _).mono ?_; rintro e w' ⟨rfl, rfl⟩)
    go_ret
    exact ⟨by rw [unhide HT, empty_app]; rfl, rfl⟩
  | false =>
    rw [hsuf] at h1
    rw [hsuf, if_neg (by simp)] at ht
    have H1 := hide h1
    have H2 := hide h2
    clear h1 h2 hsuf
    by_cases hi : 0 ≤ i
    · rw [if_pos hi] at ht
      have HT := hide ht
      clear ht
      go_enter Trym.func6, Trym.ntmps6
      go_wp2_with (first | (go_at_call 7; refine (unhide H1 _).mono ?_; rintro e w' ⟨rfl, rfl⟩) | (go_at_call 8; refine (unhide H2 _).mono ?_; rintro e w' ⟨rfl, rfl⟩))
      go_ret
      exact ⟨by rw [unhide HT]; rfl, rfl⟩
    · rw [if_neg hi] at ht
      have HT := hide ht
      clear ht
      go_enter Trym.func6, Trym.ntmps6
      go_wp2_with (first | (go_at_call 7; refine (unhide H1 _).mono ?_; rintro e w' ⟨rfl, rfl⟩) | (go_at_call 8; refine (unhide H2 _).mono ?_; rintro e w' ⟨rfl, rfl⟩))
      go_ret
      exact ⟨by rw [unhide HT]; rfl, rfl⟩

theorem zzart_any (s : ByteArray) (h : 0 < s.size) (w : World) (hs : s.size ≤ 524288) :
    Calls Trym.prog 5 #[.string s] w fun e w' => e = .returned (.string (artOf s h ++ s)) ∧ w' = w := by
  have H := hide (fun w => art_any s h w hs)
  generalize artOf s h ++ s = t at *
  go_enter Trym.func5, Trym.ntmps5
  go_wp2_with (go_at_call 6; refine (unhide H _).mono ?_; rintro e w' ⟨rfl, rfl⟩)
  go_ret
  exact ⟨rfl, rfl⟩

theorem byteAt (s : ByteArray) (k : Nat) (h : k < s.size) : s.data.toList[k]? = some s[k] := by
  rw [List.getElem?_eq_getElem (by simpa using h)]; rfl

theorem suffix_iff (s : ByteArray) (h : 0 < s.size) : Lib.hasSuffix s.data.toList [115] = (s[s.size - 1] == 115) := by
  have hb := byteAt s (s.size - 1) (by omega)
  have hl : s.data.toList.getLast? = some s[s.size - 1] := by rw [List.getLast?_eq_getElem?, ← Lib.size_eq]; exact hb
  obtain ⟨l, hl2⟩ := List.getLast?_eq_some_iff.1 hl
  unfold Lib.hasSuffix
  rw [Bool.eq_iff_iff, List.isSuffixOf_iff_suffix, beq_iff_eq]
  generalize s[s.size - 1] = b at *
  rw [hl2]
  constructor
  · rintro ⟨m, hm⟩
    have := congrArg List.getLast? hm
    simp at this
    exact this.symm
  · rintro rfl
    exact ⟨l, rfl⟩

theorem art_same (a b : ByteArray) (ha : 0 < a.size) (hb : 0 < b.size) (h0 : a[0] = b[0]) (h1 : a[a.size - 1] = b[b.size - 1]) : artOf a ha = artOf b hb := by
  unfold artOf
  rw [suffix_iff a ha, suffix_iff b hb, h0, h1]
end Go.Proofs.Qxb6603814aMods
