import Derived.Test.Qxb6600304aModsClone
import Derived.Deep.QuietTactic
import Derived.BigQuiet
import Derived.WalkSmall
namespace Go.Proofs.Qxb6600304aMods
open Go.RowKit

theorem quote_not0 {c : Int} (h : quoteB c = true) : (c == 0) = false := by
  have h1 : c = 34 ∨ c = 39 := by simpa [quoteB] using h
  rcases h1 with rfl | rfl <;> rfl

set_option maxRecDepth 100000 in
set_option maxHeartbeats 4000000 in
theorem value_row (g n cap : Nat) (zs : List Int) (w : World) (hn : zs.length = n) (hs : n ≤ 1048576) (hg : g < w.heap.size)
    (hcell : ∀ i, i < n → w.cell? ⟨g, i, none⟩ = some (.int .u8 (zs.getD i 0))) :
    Calls Trym.prog 15 #[.slice (some ⟨g, 0, none⟩) n cap] w fun e w' => e = .returned (.bool (apart 0 zs)) ∧ Below w.heap.size w w' := by
  have cellAt : ∀ wr, Below w.heap.size w wr → ∀ i c, zs[i]? = some c → wr.cell? ⟨g, i, none⟩ = some (.int .u8 c) := by
    intro wr hb i c hc
    have hi : i < n := by rw [← hn]; exact (List.getElem?_eq_some_iff.1 hc).1
    rw [hb.cell (by exact hg), hcell i hi, List.getD_eq_getElem?_getD, hc]; rfl
  have HC := hide cellAt
  have HL := hide hn
  clear hcell hn cellAt
  generalize hr : apart 0 zs = r
  have HR := hide hr
  clear hr
  go_enter Trym.func15, Trym.ntmps15
  go_wp2
  go_loopw [3] (fun pp wr => ∃ (p : Nat), p ≤ n ∧ pp = .int .i64 p ∧ Hid (r = apart 0 (zs.drop p)) ∧ Below w.heap.size w wr) (fun pp _ => n - (intOf pp).toNat)
  case atStart => exact ⟨0, Nat.zero_le _, rfl, hide (by rw [List.drop_zero, unhide HR]), Below.refl _ _⟩
  case round =>
    obtain ⟨p, hp, rfl, HM, hb1⟩ := hrel
    by_cases hlt : p < n
    · go_wp2
      go_loopw [4] (fun oo wr => ∃ (o : Nat), p ≤ o ∧ o ≤ n ∧ oo = .int .i64 o ∧ Hid (r = apart 0 (zs.drop o)) ∧ Below w.heap.size w wr) (fun oo _ => n - (intOf oo).toNat)
      case atStart => exact ⟨p, Nat.le_refl _, by omega, rfl, HM, hb1⟩
      case round =>
        obtain ⟨o, hpo, ho, rfl, HO, hb2⟩ := hrel
        clear hb1
        by_cases hol : o < n
        · obtain ⟨c, hc⟩ : ∃ c, zs[o]? = some c := ⟨_, List.getElem?_eq_getElem (by rw [unhide HL]; exact hol)⟩
          have hck := unhide HC _ hb2 o c hc
          have HD := hide (drop_hit hc)
          by_cases hq : quoteB c = true
          · have hdec : decide (n ≤ o) = false := by simp; omega
            have HCC := hide hc
            have HA := a_open HO HD hq
            have Hc0 := hide (quote_not0 hq)
            clear hc
            go_wp2_with (go_at_call 29; refine (quote_any c _).mono ?_; rintro e w' ⟨rfl, rfl⟩)
            clear hck
            go_loopw [5] (fun ee wr => ∃ (e : Nat), o + 1 ≤ e ∧ e ≤ n ∧ ee = .int .i64 e ∧ Hid (r = apart c (zs.drop e)) ∧ Below w.heap.size w wr) (fun ee _ => n - (intOf ee).toNat)
            case atStart => exact ⟨o + 1, Nat.le_refl _, by omega, by go_num, HA, hb2⟩
            case round =>
              obtain ⟨e, hoe, he, rfl, HE, hb3⟩ := hrel
              clear hb2
              by_cases hel : e < n
              · obtain ⟨x, hx⟩ : ∃ x, zs[e]? = some x := ⟨_, List.getElem?_eq_getElem (by rw [unhide HL]; exact hel)⟩
                have hxk := unhide HC _ hb3 e x hx
                have hck := unhide HC _ hb3 o c (unhide HCC)
                have HD2 := hide (drop_hit hx)
                clear hx
                have j1 : (e : Int) < (n : Int) := by omega
                have j2 : (o : Int) < (n : Int) := by omega
                by_cases hxc : (x == c) = true
                · have hxc' : (x != c) = false := by simpa using hxc
                  have Hxc := hide hxc
                  clear hxc
                  have hge : decide ((n : Int) ≤ (e : Int)) = false := by simp; omega
                  by_cases hl1 : e + 1 < n
                  · obtain ⟨y, hy⟩ : ∃ y, zs[e + 1]? = some y := ⟨_, List.getElem?_eq_getElem (by rw [unhide HL]; exact hl1)⟩
                    have hyk := unhide HC _ hb3 (e + 1) y hy
                    have HN := hide (nextOk_drop hy)
                    clear hy
                    by_cases hsep : sepB y = true
                    · go_wp2_with fail
                      go_quiet (fail)
                      go_wp2_with (go_at_call 30; refine (sep_any y _).mono ?_; rintro e w' ⟨rfl, rfl⟩)
                      go_roundw
                      case rel => exact ⟨e + 1, by omega, by go_num, a_close HE HD2 (unhide Hc0) (unhide Hxc) (by rw [unhide HN]; exact hsep), below_drewN hb3 _⟩
                      case measure => simp [intOf]; omega
                    · have hsep' : sepB y = false := by simpa using hsep
                      clear hsep
                      go_wp2_with fail
                      go_quiet (fail)
                      go_wp2_with (go_at_call 30; refine (sep_any y _).mono ?_; rintro e w' ⟨rfl, rfl⟩)
                      have hr := a_bad HE HD2 (unhide Hc0) (unhide Hxc) (by rw [unhide HN]; exact hsep')
                      go_ret
                      exact ⟨ret_bool hr.symm, below_drewN hb3 _⟩
                  · have HN := hide (nextOk_none (zs := zs) (k := e + 1) (by rw [unhide HL]; omega))
                    go_wp2_with fail
                    go_quiet (fail)
                    go_wp2_with fail
                    go_roundw
                    case rel => exact ⟨e + 1, by omega, by go_num, a_close HE HD2 (unhide Hc0) (unhide Hxc) (unhide HN), below_drewN hb3 _⟩
                    case measure => simp [intOf]; omega
                · have hxc' : (x != c) = true := by simpa using hxc
                  have Hxc : Hid ((x == c) = false) := hide (by simpa using hxc)
                  clear hxc
                  go_wp2_with fail
                  go_quiet (fail)
                  go_wp2_with fail
                  go_roundw
                  case rel => exact ⟨e + 1, by omega, by omega, by go_num, a_in HE HD2 (unhide Hc0) (unhide Hxc), below_drewN hb3 _⟩
                  case measure => simp [intOf]; omega
              · have j1 : decide ((e : Int) < (n : Int)) = false := by simp; omega
                go_wp2_with fail
                go_quiet (fail)
                go_wp2_with fail
                have hr := a_end HE (by rw [unhide HL]; omega)
                go_ret
                exact ⟨ret_bool hr.symm, below_drewN hb3 _⟩
          · have hq' : quoteB c = false := by simpa using hq
            clear hq hc
            go_wp2_with (go_at_call 29; refine (quote_any c _).mono ?_; rintro e w' ⟨rfl, rfl⟩)
            go_roundw
            case rel => exact ⟨o + 1, by omega, by omega, by go_num, a_out HO HD hq', hb2⟩
            case measure => simp [intOf]; omega
        · go_wp2
          have hr := a_end HO (by rw [unhide HL]; omega)
          go_ret
          exact ⟨ret_bool hr.symm, hb2⟩
    · go_wp2
      have hr := a_end HM (by rw [unhide HL]; omega)
      go_ret
      exact ⟨ret_bool hr.symm, hb1⟩
end Go.Proofs.Qxb6600304aMods
