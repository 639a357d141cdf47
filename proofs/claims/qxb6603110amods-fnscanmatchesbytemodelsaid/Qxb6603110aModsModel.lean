import Derived.Test.Qxb6603110aModsRun
import Derived.RegionTactic
namespace Go.Proofs.Qxb6603110aMods
open Go.RowKit

section
variable {zs : List Int} {r : Nat × Bool × St} {k : Nat} {c : Int} {sc : Bool} {d : Int}

theorem m_in_back (HM : Hid (r = sh k (mscan ⟨sc, d, true, false⟩ (zs.drop k)))) (HD : Hid (zs.drop k = c :: zs.drop (k + 1))) (h : (c == 92) = true) : Hid (r = sh (k + 1) (mscan ⟨sc, d, true, true⟩ (zs.drop (k + 1)))) :=
  m_step HM HD (fun l => by simp only [mscan, h]; simp)

theorem m_in_stop (HM : Hid (r = sh k (mscan ⟨sc, d, true, false⟩ (zs.drop k)))) (HD : Hid (zs.drop k = c :: zs.drop (k + 1))) (h : (c == 92) = false) (h2 : (c == 34) = true) (h3 : (d == 0) = true) : r = (k + 1, true, ⟨sc, d, false, false⟩) :=
  m_stop HM HD (fun l => by simp only [mscan, h, h2, h3]; simp)

theorem m_in_on (HM : Hid (r = sh k (mscan ⟨sc, d, true, false⟩ (zs.drop k)))) (HD : Hid (zs.drop k = c :: zs.drop (k + 1))) (h : (c == 92) = false) (h2 : (c == 34) = true) (h3 : (d == 0) = false) : Hid (r = sh (k + 1) (mscan ⟨sc, d, false, false⟩ (zs.drop (k + 1)))) :=
  m_step HM HD (fun l => by simp only [mscan, h, h2, h3]; simp)

theorem m_in_pass (HM : Hid (r = sh k (mscan ⟨sc, d, true, false⟩ (zs.drop k)))) (HD : Hid (zs.drop k = c :: zs.drop (k + 1))) (h : (c == 92) = false) (h2 : (c == 34) = false) : Hid (r = sh (k + 1) (mscan ⟨sc, d, true, false⟩ (zs.drop (k + 1)))) :=
  m_step HM HD (fun l => by simp only [mscan, h, h2]; simp)

theorem up_123 (h : c = 123) : (c == 123 || c == 91) = true := by simp [h]
theorem down_125 (h : c = 125) : (c == 125 || c == 93) = true := by simp [h]
theorem or_of {a b : Bool} (h : a = true ∨ b = true) : (a || b) = true := by simpa using h
theorem or_not {a b : Bool} (h : a = false ∧ b = false) : (a || b) = false := by simpa using h
end

set_option maxRecDepth 100000 in
set_option maxHeartbeats 4000000 in
theorem model_row (g n : Nat) (zs : List Int) (s0 : St) (w : World) (hn : zs.length = n) (hs : n ≤ 1048576) (hg : g < w.heap.size)
    (hcell : ∀ i, i < n → w.cell? ⟨g, i, none⟩ = some (.int .u8 (zs.getD i 0))) :
    Calls Trym.prog 13 #[.agg #[.bool s0.sc, .int .i64 s0.d, .bool s0.ins, .bool s0.esc], .slice (some ⟨g, 0, none⟩) n n] w
      fun e w' => e = .returned (.tuple #[.int .i64 (mscan s0 zs).1, .bool (mscan s0 zs).2.1, .agg #[.bool (mscan s0 zs).2.2.sc, .int .i64 (mscan s0 zs).2.2.d, .bool (mscan s0 zs).2.2.ins, .bool (mscan s0 zs).2.2.esc]]) ∧ Below w.heap.size w w' := by
  have HC := hide hcell
  clear hcell
  generalize hr : mscan s0 zs = r
  have HR := hide hr
  clear hr
  go_enter Trym.func13, Trym.ntmps13
  go_wp2
  go_loopw [7] (fun ii wr => ∃ (k : Nat) (s : St), k ≤ n ∧ ii = .int .i64 k ∧ Hid (r = sh k (mscan s (zs.drop k))) ∧ wr = (w.alloc (.cells #[.bool s.sc, .int .i64 s.d, .bool s.ins, .bool s.esc] 28)).alloc (.cells #[.bool false, .int .i64 0, .bool false, .bool false] 28)) (fun ii _ => n - (intOf ii).toNat)
  case atStart => exact ⟨0, s0, Nat.zero_le _, rfl, hide (by rw [sh_zero, List.drop_zero, unhide HR]), rfl⟩
  case round =>
    obtain ⟨k, ⟨sc, d, ins, esc⟩, hk, rfl, HM, rfl⟩ := hrel
    by_cases hlt : k < n
    · obtain ⟨c, hc⟩ : ∃ c, zs[k]? = some c := ⟨_, List.getElem?_eq_getElem (by omega)⟩
      have hck : w.cell? ⟨g, k, none⟩ = some (.int .u8 c) := by
        rw [unhide HC k hlt, List.getD_eq_getElem?_getD, hc]; rfl
      have hg1 : g < w.heap.size + 1 := by omega
      have HD := hide (drop_hit hc)
      clear hc
      cases esc with
      | true =>
        go_wp2
        go_roundw
        case rel => exact ⟨k + 1, ⟨sc, d, ins, false⟩, by omega, by go_num, m_step HM HD (fun l => by simp [mscan]), rfl⟩
        case measure => simp [intOf]; omega
      | false =>
        cases ins with
        | true =>
          go_wp2
          · go_roundw
            case rel => exact ⟨k + 1, ⟨sc, d, true, true⟩, by omega, by go_num, m_in_back HM HD (by assumption), rfl⟩
            case measure => simp [intOf]; omega
          · have hr := m_in_stop HM HD (by assumption) (by assumption) (by assumption)
            go_region
            go_wp2
            subst hr
            exact bodyPost_ret (v := .tuple #[.int .i64 ((k : Int) + 1), .bool true, .agg #[.bool sc, .int .i64 d, .bool false, .bool false]]) (by simp [results, Trym.results13, go_sem]) rfl ⟨rfl, (((Below.refl _ _).alloc (Nat.le_refl _) _).alloc (by simp) _).drew⟩
          · go_roundw
            case rel => exact ⟨k + 1, ⟨sc, d, false, false⟩, by omega, by go_num, m_in_on HM HD (by assumption) (by assumption) (by assumption), rfl⟩
            case measure => simp [intOf]; omega
          · go_roundw
            case rel => exact ⟨k + 1, ⟨sc, d, true, false⟩, by omega, by go_num, m_in_pass HM HD (by assumption) (by assumption), rfl⟩
            case measure => simp [intOf]; omega
        | false =>
          cases sc with
          | true =>
            by_cases hbl : blankB c = true
            · go_wp2_with (go_at_call 23; refine (isBlank_any c _).mono ?_; rintro e w' ⟨rfl, rfl⟩)
              · have hr := m_sc_stop HM HD (by simp [endsB, hbl])
                go_region
                go_wp2
                subst hr
                exact bodyPost_ret (v := .tuple #[.int .i64 k, .bool true, .agg #[.bool true, .int .i64 d, .bool false, .bool false]]) (by simp [results, Trym.results13, go_sem]) rfl ⟨rfl, (((Below.refl _ _).alloc (Nat.le_refl _) _).alloc (by simp) _).drew⟩
            · have hbl' : blankB c = false := by simpa using hbl
              clear hbl
              go_wp2_with (go_at_call 23; refine (isBlank_any c _).mono ?_; rintro e w' ⟨rfl, rfl⟩)
              · have hr := m_sc_stop HM HD (ends_44 (by assumption))
                go_region
                go_wp2
                subst hr
                exact bodyPost_ret (v := .tuple #[.int .i64 k, .bool true, .agg #[.bool true, .int .i64 d, .bool false, .bool false]]) (by simp [results, Trym.results13, go_sem]) rfl ⟨rfl, (((Below.refl _ _).alloc (Nat.le_refl _) _).alloc (by simp) _).drew⟩
              · have hr := m_sc_stop HM HD (ends_93 (by assumption))
                go_region
                go_wp2
                subst hr
                exact bodyPost_ret (v := .tuple #[.int .i64 k, .bool true, .agg #[.bool true, .int .i64 d, .bool false, .bool false]]) (by simp [results, Trym.results13, go_sem]) rfl ⟨rfl, (((Below.refl _ _).alloc (Nat.le_refl _) _).alloc (by simp) _).drew⟩
              · have hr := m_sc_stop HM HD (ends_any (by assumption))
                go_region
                go_wp2
                subst hr
                exact bodyPost_ret (v := .tuple #[.int .i64 k, .bool true, .agg #[.bool true, .int .i64 d, .bool false, .bool false]]) (by simp [results, Trym.results13, go_sem]) rfl ⟨rfl, (((Below.refl _ _).alloc (Nat.le_refl _) _).alloc (by simp) _).drew⟩
              · have h : ((c == 44) = false ∧ (c == 93) = false) ∧ (c == 125) = false := by assumption
                go_roundw
                case rel => exact ⟨k + 1, ⟨true, d, false, false⟩, by omega, by go_num, m_sc_on HM HD (by simp [endsB, hbl', h.1.1, h.1.2, h.2]), rfl⟩
                case measure => simp [intOf]; omega
          | false =>
            go_wp2
            · go_roundw
              case rel => exact ⟨k + 1, ⟨false, d, true, false⟩, by omega, by go_num, m_open HM HD (by assumption), rfl⟩
              case measure => simp [intOf]; omega
            · go_roundw
              case rel => exact ⟨k + 1, ⟨false, wrap64 (d + 1), false, false⟩, by omega, by go_num, m_up HM HD (by assumption) (up_123 (by assumption)), rfl⟩
              case measure => simp [intOf]; omega
            · go_roundw
              case rel => exact ⟨k + 1, ⟨false, wrap64 (d + 1), false, false⟩, by omega, by go_num, m_up HM HD (by assumption) (or_of (by assumption)), rfl⟩
              case measure => simp [intOf]; omega
            · have hr := m_down_stop HM HD (by assumption) (or_not (by assumption)) (down_125 (by assumption)) (by assumption)
              go_region
              go_wp2
              subst hr
              exact bodyPost_ret (v := .tuple #[.int .i64 ((k : Int) + 1), .bool true, .agg #[.bool false, .int .i64 (wrap64 (d - 1)), .bool false, .bool false]]) (by simp [results, Trym.results13, go_sem]) rfl ⟨rfl, (((Below.refl _ _).alloc (Nat.le_refl _) _).alloc (by simp) _).drew⟩
            · go_roundw
              case rel => exact ⟨k + 1, ⟨false, wrap64 (d - 1), false, false⟩, by omega, by go_num, m_down_on HM HD (by assumption) (or_not (by assumption)) (down_125 (by assumption)) (by assumption), rfl⟩
              case measure => simp [intOf]; omega
            · have hr := m_down_stop HM HD (by assumption) (or_not (by assumption)) (or_of (by assumption)) (by assumption)
              go_region
              go_wp2
              subst hr
              exact bodyPost_ret (v := .tuple #[.int .i64 ((k : Int) + 1), .bool true, .agg #[.bool false, .int .i64 (wrap64 (d - 1)), .bool false, .bool false]]) (by simp [results, Trym.results13, go_sem]) rfl ⟨rfl, (((Below.refl _ _).alloc (Nat.le_refl _) _).alloc (by simp) _).drew⟩
            · go_roundw
              case rel => exact ⟨k + 1, ⟨false, wrap64 (d - 1), false, false⟩, by omega, by go_num, m_down_on HM HD (by assumption) (or_not (by assumption)) (or_of (by assumption)) (by assumption), rfl⟩
              case measure => simp [intOf]; omega
            · go_roundw
              case rel => exact ⟨k + 1, ⟨false, d, false, false⟩, by omega, by go_num, m_pass HM HD (by assumption) (or_not (by assumption)) (or_not (by assumption)), rfl⟩
              case measure => simp [intOf]; omega
    · have hr := m_end HM (by omega)
      have hkn : k = n := by omega
      subst hkn
      go_wp2
      go_region
      go_wp2
      subst hr
      exact bodyPost_ret (v := .tuple #[.int .i64 k, .bool false, .agg #[.bool sc, .int .i64 d, .bool ins, .bool esc]]) (by simp [results, Trym.results13, go_sem]) rfl ⟨rfl, (((Below.refl _ _).alloc (Nat.le_refl _) _).alloc (by simp) _).drew⟩
end Go.Proofs.Qxb6603110aMods
