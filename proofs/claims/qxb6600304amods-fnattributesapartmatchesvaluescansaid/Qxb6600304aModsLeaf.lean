import Derived.Test.Qxb6600304aModsPlain
import Derived.Test.Qxb6600304aModsShelf
import Derived.WalkKit
import Derived.WalkSpells
import Derived.Below
import Derived.OwnWalk
import Derived.ProofKit
import Derived.Deep.OwnRows
import Derived.Lib.SliceRun
namespace Go.Proofs.Qxb6600304aMods
open Go.RowKit

theorem hide {p : Prop} (h : p) : Hid p := h
theorem unhide {p : Prop} (h : Hid p) : p := h

def Bytes8 (zs : List Int) : Prop := ∀ z ∈ zs, 0 ≤ z ∧ z ≤ 255

/-- v is a slice whose elements are the bytes zs. -/
def Holds (w : World) (v : Value) (zs : List Int) : Prop :=
  Bytes8 zs ∧ ((v = .slice none 0 0 ∧ zs = []) ∨ ∃ g cap, v = .slice (some ⟨g, 0, none⟩) zs.length cap ∧ g < w.heap.size ∧ ∀ i, i < zs.length → w.cell? ⟨g, i, none⟩ = some (.int .u8 (zs.getD i 0)))

theorem Holds.keep {w w' : World} {v : Value} {zs : List Int} (h : Holds w v zs) (hb : Below w.heap.size w w') : Holds w' v zs := by
  refine ⟨h.1, ?_⟩
  rcases h.2 with h | ⟨g, cap, hv, hg, hc⟩
  · exact .inl h
  · exact .inr ⟨g, cap, hv, Nat.lt_of_lt_of_le hg hb.size, fun i hi => by rw [hb.cell (by exact hg)]; exact hc i hi⟩

theorem quote_any (c : Int) (w : World) : Calls Trym.prog 29 #[.int .u8 c] w fun e w' => e = .returned (.bool (quoteB c)) ∧ w' = w := by
  unfold quoteB
  go_enter Trym.func29, Trym.ntmps29
  go_wp2
  all_goals go_ret
  all_goals refine ⟨?_, rfl⟩
  all_goals first | rfl | (subst_vars; rfl)

theorem sep_any (c : Int) (w : World) : Calls Trym.prog 30 #[.int .u8 c] w fun e w' => e = .returned (.bool (sepB c)) ∧ w' = w := by
  unfold sepB
  go_enter Trym.func30, Trym.ntmps30
  go_wp2
  all_goals go_ret
  all_goals refine ⟨?_, rfl⟩
  all_goals first | rfl | (subst_vars; rfl)

theorem sepcall (x : Int) (hx : 0 ≤ x ∧ x ≤ 255) (w : World) :
    Calls Trym.prog 32 #[.string ⟨#[32, 9, 13, 10, 47, 62]⟩, .int .u8 x] w fun e w' => ∃ i : Int, e = .returned (.int .i64 i) ∧ (i < 0 ↔ sepB x = false) ∧ w' = w :=
  (Trym.strings_IndexByte ⟨#[32, 9, 13, 10, 47, 62]⟩ x w).mono fun _ _ ⟨he, hw⟩ => ⟨_, he, sep_index x hx, hw⟩

theorem ret_bool {a b : Bool} (h : a = b) : Ending.returned (.bool a) = .returned (.bool b) := by rw [h]

section
variable {zs : List Int} {r : Bool} {k : Nat} {c q : Int}

theorem a_open (HM : Hid (r = apart 0 (zs.drop k))) (HD : Hid (zs.drop k = c :: zs.drop (k + 1))) (h : quoteB c = true) : Hid (r = apart c (zs.drop (k + 1))) := by
  have e := unhide HM
  rw [unhide HD, apart] at e
  exact hide (by simpa [h] using e)

theorem a_out (HM : Hid (r = apart 0 (zs.drop k))) (HD : Hid (zs.drop k = c :: zs.drop (k + 1))) (h : quoteB c = false) : Hid (r = apart 0 (zs.drop (k + 1))) := by
  have e := unhide HM
  rw [unhide HD, apart] at e
  exact hide (by simpa [h] using e)

theorem a_in (HM : Hid (r = apart q (zs.drop k))) (HD : Hid (zs.drop k = c :: zs.drop (k + 1))) (hq : (q == 0) = false) (h : (c == q) = false) : Hid (r = apart q (zs.drop (k + 1))) := by
  have e := unhide HM
  rw [unhide HD, apart] at e
  simp only [hq, h, Bool.false_and, Bool.and_false, Bool.false_eq_true, if_false] at e
  exact e

theorem a_close (HM : Hid (r = apart q (zs.drop k))) (HD : Hid (zs.drop k = c :: zs.drop (k + 1))) (hq : (q == 0) = false) (h : (c == q) = true) (hn : nextOk (zs.drop (k + 1)) = true) : Hid (r = apart 0 (zs.drop (k + 1))) := by
  have e := unhide HM
  rw [unhide HD, apart] at e
  exact hide (by simpa [hq, h, hn, bne] using e)

theorem a_bad (HM : Hid (r = apart q (zs.drop k))) (HD : Hid (zs.drop k = c :: zs.drop (k + 1))) (hq : (q == 0) = false) (h : (c == q) = true) (hn : nextOk (zs.drop (k + 1)) = false) : r = false := by
  have e := unhide HM
  rw [unhide HD, apart] at e
  simpa [hq, h, hn, bne] using e

theorem a_end (HM : Hid (r = apart q (zs.drop k))) (h : zs.length ≤ k) : r = true := by
  have e := unhide HM
  rw [List.drop_of_length_le h] at e
  simpa [apart] using e
end

set_option maxHeartbeats 2000000 in
theorem apart_row (g n cap : Nat) (zs : List Int) (w : World) (hn : zs.length = n) (hs : n ≤ 4194304) (hz : Bytes8 zs)
    (hcell : ∀ i, i < n → w.cell? ⟨g, i, none⟩ = some (.int .u8 (zs.getD i 0))) :
    Calls Trym.prog 28 #[.slice (some ⟨g, 0, none⟩) n cap] w fun e w' => e = .returned (.bool (apart 0 zs)) ∧ w' = w := by
  have HC := hide hcell
  clear hcell
  generalize hr : apart 0 zs = r
  have HR := hide hr
  clear hr
  go_enter Trym.func28, Trym.ntmps28
  go_wp2
  go_loopw [3, 8] (fun qq ii wr => ∃ (k : Nat) (q : Int), k ≤ n ∧ ii = .int .i64 k ∧ qq = .int .u8 q ∧ Hid (r = apart q (zs.drop k)) ∧ wr = w) (fun _ ii _ => n - (intOf ii).toNat)
  case atStart => exact ⟨0, 0, Nat.zero_le _, rfl, rfl, hide (by rw [List.drop_zero, unhide HR]), rfl⟩
  case round =>
    obtain ⟨k, q, hk, rfl, rfl, HM, rfl⟩ := hrel
    by_cases hlt : k < n
    · obtain ⟨c, hc⟩ : ∃ c, zs[k]? = some c := ⟨_, List.getElem?_eq_getElem (by omega)⟩
      have hck : wr.cell? ⟨g, k, none⟩ = some (.int .u8 c) := by
        rw [unhide HC k hlt, List.getD_eq_getElem?_getD, hc]; rfl
      have HD := hide (drop_hit hc)
      clear hc
      by_cases hq : q = 0
      · subst hq
        go_wp2
        · have h : c = 34 := by assumption
          subst h
          go_roundw
          case rel => exact ⟨k + 1, 34, by omega, by go_num, rfl, a_open HM HD rfl, trivial⟩
          case measure => simp [intOf]; omega
        · have h : (c == 34) = true ∨ (c == 39) = true := by assumption
          go_roundw
          case rel => exact ⟨k + 1, c, by omega, by go_num, rfl, a_open HM HD (by simpa [quoteB] using h), trivial⟩
          case measure => simp [intOf]; omega
        · have h : (c == 34) = false ∧ (c == 39) = false := by assumption
          go_roundw
          case rel => exact ⟨k + 1, 0, by omega, by go_num, rfl, a_out HM HD (by simp [quoteB, h.1, h.2]), trivial⟩
          case measure => simp [intOf]; omega
      · have hq' : (q == 0) = false := by simpa using hq
        by_cases hcq : (c == q) = true
        · by_cases hl1 : k + 1 < n
          · obtain ⟨x, hx⟩ : ∃ x, zs[k + 1]? = some x := ⟨_, List.getElem?_eq_getElem (by omega)⟩
            have hxb := hz x (List.mem_of_getElem? hx)
            have hxk : wr.cell? ⟨g, k + 1, none⟩ = some (.int .u8 x) := by
              rw [unhide HC (k + 1) hl1, List.getD_eq_getElem?_getD, hx]; rfl
            have HN := hide (nextOk_drop hx)
            clear hx
            go_wp2_with (go_at_call 32; refine (sepcall x hxb _).mono ?_; rintro e w' ⟨i, rfl, hi, rfl⟩)
            · have h : (!sepB x) = true := by assumption
              have hr := a_bad HM HD hq' hcq (by rw [unhide HN]; simpa using h)
              go_ret
              exact ⟨ret_bool hr.symm, rfl⟩
            · have h : (!sepB x) = false := by assumption
              go_roundw
              case rel => exact ⟨k + 1, 0, by omega, by go_num, rfl, a_close HM HD hq' hcq (by rw [unhide HN]; simpa using h), trivial⟩
              case measure => simp [intOf]; omega
          · have HN := hide (nextOk_none (zs := zs) (k := k + 1) (by omega))
            go_wp2
            go_roundw
            case rel => exact ⟨k + 1, 0, by omega, by go_num, rfl, a_close HM HD hq' hcq (unhide HN), trivial⟩
            case measure => simp [intOf]; omega
        · have hcq' : (c == q) = false := by simpa using hcq
          clear hcq
          go_wp2
          go_roundw
          case rel => exact ⟨k + 1, q, by omega, by go_num, rfl, a_in HM HD hq' hcq', trivial⟩
          case measure => simp [intOf]; omega
    · go_wp2
      have hr := a_end HM (by omega)
      go_ret
      exact ⟨ret_bool hr.symm, rfl⟩

theorem apart_nil (w : World) : Calls Trym.prog 28 #[.slice none 0 0] w fun e w' => e = .returned (.bool true) ∧ w' = w := by
  go_enter Trym.func28, Trym.ntmps28
  go_wp2
  go_loopw [3, 8] (fun qq ii wr => qq = .int .u8 0 ∧ ii = .int .i64 0 ∧ wr = w) (fun _ _ _ => 0)
  case atStart => exact ⟨rfl, rfl, rfl⟩
  case round =>
    obtain ⟨rfl, rfl, rfl⟩ := hrel
    go_wp2
    go_ret
    exact ⟨rfl, rfl⟩

theorem apart_any (v : Value) (zs : List Int) (w : World) (h : Holds w v zs) (hs : zs.length ≤ 4194304) :
    Calls Trym.prog 28 #[v] w fun e w' => e = .returned (.bool (apart 0 zs)) ∧ w' = w := by
  obtain ⟨hz, h⟩ := h
  rcases h with ⟨rfl, rfl⟩ | ⟨g, cap, rfl, hg, hc⟩
  · exact apart_nil w
  · exact apart_row g zs.length cap zs w rfl hs hz hc

theorem zzapart_any (v : Value) (zs : List Int) (w : World) (h : Holds w v zs) (hs : zs.length ≤ 4194304) :
    Calls Trym.prog 14 #[v] w fun e w' => e = .returned (.bool (apart 0 zs)) ∧ w' = w := by
  have H := hide (fun w' (hw : w' = w) => apart_any v zs w' (hw ▸ h) hs)
  clear h
  generalize apart 0 zs = r at *
  go_enter Trym.func14, Trym.ntmps14
  go_wp2_with (go_at_call 28; refine (unhide H _ rfl).mono ?_; rintro e w' ⟨rfl, rfl⟩)
  go_ret
  exact ⟨rfl, rfl⟩
end Go.Proofs.Qxb6600304aMods
