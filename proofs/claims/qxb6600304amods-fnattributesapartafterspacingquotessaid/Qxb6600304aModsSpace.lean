import Derived.Test.Qxb6600304aModsClone
namespace Go.Proofs.Qxb6600304aMods
open Go.RowKit

theorem spaced_quote {zs : List Int} {k : Nat} {c : Int} (h : zs[k]? = some c) (hq : quoteB c = true) : spaced (zs.take (k + 1)) = spaced (zs.take k) ++ [c] ++ [32] := by
  rw [List.take_add_one, h, spaced_append]
  simp [spaced, hq]

theorem spaced_plain {zs : List Int} {k : Nat} {c : Int} (h : zs[k]? = some c) (hq : quoteB c = false) : spaced (zs.take (k + 1)) = spaced (zs.take k) ++ [c] := by
  rw [List.take_add_one, h, spaced_append]
  simp [spaced, hq]

theorem bytes_spaced {zs : List Int} (h : Bytes8 zs) : Bytes8 (spaced zs) := by
  induction zs with
  | nil => intro z hz; simp [spaced] at hz
  | cons c l ih =>
    have h1 : 0 ≤ c ∧ c ≤ 255 := h c (by simp)
    have h2 := ih (fun z hz => h z (by simp [hz]))
    intro z hz
    simp only [spaced] at hz
    split at hz
    · simp only [List.mem_cons] at hz
      rcases hz with rfl | rfl | hz
      · exact h1
      · omega
      · exact h2 z hz
    · simp only [List.mem_cons] at hz
      rcases hz with rfl | hz
      · exact h1
      · exact h2 z hz

theorem holds_of_owned {w : World} {base : Nat} {v : Value} {ys : List Int} (hb : Bytes8 ys) (h : w.ownsRow base 5 1 v ys.length (ys.map (Value.int .u8))) : Holds w v ys := by
  refine ⟨hb, ?_⟩
  rcases h.2 with ⟨rfl, h0⟩ | ⟨g, cap, cur, rfl, hg, hblk, hcap, hcm, hcs, htake⟩
  · exact .inl ⟨rfl, List.eq_nil_of_length_eq_zero h0⟩
  · refine .inr ⟨g, cap, rfl, (Array.getElem?_eq_some_iff.1 hblk).1, fun i hi => ?_⟩
    have hc := h.cells (g := g) rfl i (.int .u8 (ys.getD i 0)) (by rw [List.getElem?_map, List.getD_eq_getElem?_getD, List.getElem?_eq_getElem hi]; rfl)
    have e : ((⟨g, 0, none⟩ : Addr).add i) = ⟨g, i, none⟩ := by
      by_cases hj0 : i = 0
      · subst hj0; rfl
      · simp [Addr.add, hj0]
    rwa [e] at hc

set_option maxHeartbeats 2000000 in
theorem space_row (g n cap : Nat) (zs : List Int) (w : World) (hn : zs.length = n) (hs : n ≤ 1048576) (hg : g < w.heap.size)
    (hcell : ∀ i, i < n → w.cell? ⟨g, i, none⟩ = some (.int .u8 (zs.getD i 0))) :
    Calls Trym.prog 18 #[.slice (some ⟨g, 0, none⟩) n cap] w fun e w' => ∃ v, e = .returned v ∧ w'.ownsRow w.heap.size 5 1 v (spaced zs).length ((spaced zs).map (Value.int .u8)) ∧ Below w.heap.size w w' := by
  obtain ⟨i0, hi, hz0, hz1, hz2⟩ := info_parts info5
  have HC := hide hcell
  have HN := hide hn
  clear hcell hn
  go_enter Trym.func18, Trym.ntmps18
  go_wp2_with (at_make; refine wpList_make_own _ rfl _ _ 23 rfl w.heap.size 5 i0 (.int .u8 0) 1 Trym.underlying23 hi hz0 hz1 _ _ _ (2 * n) rfl rfl ?_ ?_ ?_ ?_ ?_)
  · omega
  · rw [hz2]; omega
  · unfold maxLen; omega
  · exact Nat.le_refl _
  intro w1 hown1 hgrow1
  have hb1 : Below w.heap.size w w1 := (Below.refl _ _).grown hgrow1 (Nat.le_refl _) (fun _ h => by cases h)
  generalize hv1 : Value.slice (some ⟨w.heap.size, 0, none⟩) 0 (2 * n) = v1 at *
  clear hv1 hgrow1
  go_wp2
  go_loopw [3, 4] (fun vv ii wr => ∃ k : Nat, k ≤ n ∧ ii = .int .i64 k ∧ wr.ownsRow w.heap.size 5 1 vv (spaced (zs.take k)).length ((spaced (zs.take k)).map (Value.int .u8)) ∧ Below w.heap.size w wr) (fun _ ii _ => n - (intOf ii).toNat)
  case atStart => exact ⟨0, Nat.zero_le _, rfl, hown1, hb1⟩
  case round =>
    obtain ⟨k, hk, rfl, hown, hbel⟩ := hrel
    clear hown1 hb1
    by_cases hlt : k < n
    · obtain ⟨c, hc⟩ : ∃ c, zs[k]? = some c := ⟨_, List.getElem?_eq_getElem (by rw [unhide HN]; exact hlt)⟩
      have hck : wr.cell? ⟨g, k, none⟩ = some (.int .u8 c) := by
        rw [hbel.cell (by exact hg), unhide HC k hlt, List.getD_eq_getElem?_getD, hc]; rfl
      have hsl : (spaced (zs.take k)).length ≤ 2 * k := by
        have h1 := spaced_le (zs.take k)
        have h2 := List.length_take_le k zs
        omega
      have hsz := hbel.size
      have HQ := hide (spaced_quote hc)
      have HP := hide (spaced_plain hc)
      clear hc
      generalize hS : spaced (zs.take k) = S at *
      clear hS
      have hgn : g < wr.heap.size := by omega
      go_wp2_with (first | (at_builtin; refine wpList_append_own _ rfl (.tmp 15) (.tmp 20) 23 rfl w.heap.size 5 i0 (.int .u8 0) 1 1 Trym.underlying23 hi hz0 hz1 hz2 rfl (by decide) _ _ _ rfl (hown.alloc _) ⟨wr.heap.size, 0, none⟩ 1 1 [.int .u8 c] rfl rfl ?_ ?_ ?_ ?_ ?_ ?_))
      · intro j u hj
        match j, hj with
        | 0, hj => simp at hj; subst hj; simp [Addr.add]
      · intro u hu; simp at hu; subst hu; rfl
      · unfold maxLen; omega
      · omega
      · simp; omega
      intro v2 w2 hown2 hgrow2 _
      have hb2 : Below w.heap.size w w2 := (hbel.alloc hsz _).grown hgrow2 (by simp; omega) (fun b hb => (hown.lt b hb).1)
      have hck2 : w2.cell? ⟨g, k, none⟩ = some (.int .u8 c) := by
        rw [hb2.cell (by exact hg), ← hbel.cell (by exact hg)]; exact hck
      have hown3 : w2.ownsRow w.heap.size 5 1 v2 (S ++ [c]).length ((S ++ [c]).map (Value.int .u8)) := by simpa using hown2
      have hsz2 := hb2.size
      have hTl : (S ++ [c]).length ≤ 2 * k + 1 := by simp; omega
      clear hown hbel hown2 hgrow2 hck hgn hsz hsl
      by_cases hq : quoteB c = true
      · have HQ' := hide (unhide HQ hq)
        clear HQ HP
        generalize S ++ [c] = T at *
        go_wp2_with (first | (go_at_call 29; refine (quote_any c _).mono ?_; rintro e w' ⟨rfl, rfl⟩) | (at_builtin; refine wpList_append_own _ rfl (.tmp 27) (.tmp 28) 23 rfl w.heap.size 5 i0 (.int .u8 0) 1 1 Trym.underlying23 hi hz0 hz1 hz2 rfl (by decide) _ _ _ rfl (hown3.alloc _) ⟨_, 0, none⟩ 1 1 [.int .u8 32] rfl rfl ?_ ?_ ?_ ?_ ?_ ?_))
        · intro j u hj
          match j, hj with
          | 0, hj => simp at hj; subst hj; simp [Addr.add]
        · intro u hu; simp at hu; subst hu; rfl
        · unfold maxLen; omega
        · omega
        · simp; omega
        intro v3 w3 hown4 hgrow4 _
        have hb3 : Below w.heap.size w w3 := (hb2.alloc hsz2 _).grown hgrow4 (by simp; omega) (fun b hb => (hown3.lt b hb).1)
        have hown5 : w3.ownsRow w.heap.size 5 1 v3 (T ++ [32]).length ((T ++ [32]).map (Value.int .u8)) := by simpa using hown4
        clear hown3 hown4 hgrow4 hb2
        go_wp2
        go_roundw
        case rel => exact ⟨k + 1, by omega, by go_num, by rw [unhide HQ']; exact hown5, hb3⟩
        case measure => simp [intOf]; omega
      · have hq' : quoteB c = false := by simpa using hq
        have HP' := hide (unhide HP hq')
        clear HQ HP hq
        generalize S ++ [c] = T at *
        go_wp2_with (go_at_call 29; refine (quote_any c _).mono ?_; rintro e w' ⟨rfl, rfl⟩)
        go_roundw
        case rel => exact ⟨k + 1, by omega, by go_num, by rw [unhide HP']; exact hown3, hb2⟩
        case measure => simp [intOf]; omega
    · have hke : k = n := by omega
      subst hke
      rw [List.take_of_length_le (by rw [unhide HN]; exact Nat.le_refl _)] at hown
      go_wp2
      go_ret
      exact ⟨_, rfl, hown, hbel⟩

theorem space_nil (w : World) :
    Calls Trym.prog 18 #[.slice none 0 0] w fun e w' => ∃ v, e = .returned v ∧ w'.ownsRow w.heap.size 5 1 v 0 [] ∧ Below w.heap.size w w' := by
  obtain ⟨i0, hi, hz0, hz1, hz2⟩ := info_parts info5
  go_enter Trym.func18, Trym.ntmps18
  go_wp2_with (at_make; refine wpList_make_own _ rfl _ _ 23 rfl w.heap.size 5 i0 (.int .u8 0) 1 Trym.underlying23 hi hz0 hz1 _ _ _ 0 rfl rfl ?_ ?_ ?_ ?_ ?_)
  · rfl
  · omega
  · unfold maxLen; omega
  · exact Nat.le_refl _
  intro w1 hown1 hgrow1
  have hb1 : Below w.heap.size w w1 := (Below.refl _ _).grown hgrow1 (Nat.le_refl _) (fun _ h => by cases h)
  generalize hv1 : Value.slice (some ⟨w.heap.size, 0, none⟩) 0 0 = v1 at *
  clear hv1 hgrow1
  go_wp2
  go_loopw [3, 4] (fun vv ii wr => vv = v1 ∧ ii = .int .i64 0 ∧ wr = w1) (fun _ _ _ => 0)
  case atStart => exact ⟨rfl, rfl, rfl⟩
  case round =>
    obtain ⟨rfl, rfl, rfl⟩ := hrel
    go_wp2
    go_ret
    exact ⟨_, rfl, hown1, hb1⟩

theorem space_any (v : Value) (zs : List Int) (w : World) (h : Holds w v zs) (hs : zs.length ≤ 1048576) :
    Calls Trym.prog 18 #[v] w fun e w' => ∃ v', e = .returned v' ∧ Holds w' v' (spaced zs) ∧ Below w.heap.size w w' := by
  obtain ⟨hz, h⟩ := h
  rcases h with ⟨rfl, rfl⟩ | ⟨g, cap, rfl, hg, hc⟩
  · exact (space_nil w).mono fun e w' ⟨v', he, ho, hb⟩ => ⟨v', he, holds_of_owned (bytes_spaced hz) ho, hb⟩
  · exact (space_row g zs.length cap zs w rfl hs hg hc).mono fun e w' ⟨v', he, ho, hb⟩ => ⟨v', he, holds_of_owned (bytes_spaced hz) ho, hb⟩

set_option maxHeartbeats 1000000 in
theorem spacing_walk (a : Option Addr) (len cap : Nat) (ys : List Int) (w : World) (h : Came w a len cap ys) (hlen : len ≤ 1048576) :
    Calls Trym.prog 6 #[.slice a len cap] w fun e w' => e = .returned (.bool true) ∧ Below w.heap.size w w' := by
  have hl := h.2.1
  have H := hide h
  have hsp := spaced_le ys
  clear h
  go_enter Trym.func6, Trym.ntmps6
  go_wp2_with (go_at_call 17; go_in)
  refine (clone_any a len cap ys _ (unhide H) hlen).mono ?_
  rintro e w1 ⟨v1, rfl, h1, hb1⟩
  have k1 := hide (space_any v1 ys w1 h1 (by omega))
  clear h1 H
  go_wp2_with fail
  refine (unhide k1).mono ?_
  rintro e w2 ⟨v2, rfl, h2, hb2⟩
  have k2 := hide (zzapart_any v2 (spaced ys) w2 h2 (by omega))
  rw [apart_spaced ys 0 (.inl rfl)] at k2
  clear h2 k1
  go_wp2_with fail
  refine (unhide k2).mono ?_
  rintro e w3 ⟨rfl, rfl⟩
  go_wp2_with fail
  go_ret
  exact ⟨rfl, hb1.trans (hb2.mono hb1.size)⟩
end Go.Proofs.Qxb6600304aMods
