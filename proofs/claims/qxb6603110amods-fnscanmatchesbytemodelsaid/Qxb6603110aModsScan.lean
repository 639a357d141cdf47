import Derived.Test.Qxb6603110aModsLeaf
namespace Go.Proofs.Qxb6603110aMods
open Go.RowKit

def stc (s : St) (t : TypeId) : Obj := .cells #[.bool s.sc, .int .i64 s.d, .bool s.ins, .bool s.esc] t

/-- A remembered place: passed already, or the next one. -/
def Mark (zs : List Int) (c : Int) (k : Nat) (q : Int) : Prop := q < k ∨ ∃ m : Nat, q = m ∧ IsNext zs c k m

theorem Mark.step {zs : List Int} {c : Int} {k k' : Nat} {q : Int} (h : Mark zs c k q) (hk : k ≤ k') : Mark zs c k' q := by
  rcases h with h | ⟨m, rfl, h⟩
  · exact .inl (by omega)
  · by_cases hm : m < k'
    · exact .inl (by omega)
    · exact .inr ⟨m, rfl, h.later hk (by omega)⟩

section
variable {zs : List Int} {r : Nat × Bool × St} {s s' : St} {k j : Nat} {c : Int}

theorem m_step (HM : Hid (r = sh k (mscan s (zs.drop k)))) (HD : Hid (zs.drop k = c :: zs.drop (k + 1))) (h : ∀ l, mscan s (c :: l) = sh 1 (mscan s' l)) :
    Hid (r = sh (k + 1) (mscan s' (zs.drop (k + 1)))) := by
  have e := unhide HM
  rw [unhide HD, h, sh_sh] at e
  exact hide e

theorem m_stop (HM : Hid (r = sh k (mscan s (zs.drop k)))) (HD : Hid (zs.drop k = c :: zs.drop (k + 1))) (h : ∀ l, mscan s (c :: l) = (j, true, s')) : r = (k + j, true, s') := by
  have e := unhide HM
  rw [unhide HD, h] at e
  exact e

theorem m_end (HM : Hid (r = sh k (mscan s (zs.drop k)))) (h : zs.length ≤ k) : r = (k, false, s) := by
  have e := unhide HM
  rw [List.drop_of_length_le h] at e
  simpa [mscan, sh] using e

variable {sc : Bool} {d : Int} {q b : Nat}

theorem m_back (HM : Hid (r = sh k (mscan ⟨sc, d, true, false⟩ (zs.drop k)))) (hq : IsNext zs 34 k q) (hb : IsNext zs 92 k b) (hlt : (b : Int) < (q : Int)) :
    Hid (r = sh (b + 1) (mscan ⟨sc, d, true, true⟩ (zs.drop (b + 1)))) := by
  have e := unhide HM
  have h1 := hb.ge
  rw [str_back _ rfl rfl zs k q b hq hb (by omega), sh_sh, show k + (b + 1 - k) = b + 1 by omega] at e
  exact hide e

theorem m_none (HM : Hid (r = sh k (mscan ⟨sc, d, true, false⟩ (zs.drop k)))) (hq : IsNext zs 34 k q) (hb : IsNext zs 92 k b) (hge : (q : Int) ≤ (b : Int)) (hlen : q = zs.length) :
    r = (zs.length, false, ⟨sc, d, true, false⟩) := by
  have e := unhide HM
  have h1 := hq.ge
  rw [str_none _ rfl rfl zs k q b hq hb (by omega) hlen] at e
  rw [e]
  simp only [sh]
  rw [show k + (zs.length - k) = zs.length by omega]

theorem m_quote_stop (HM : Hid (r = sh k (mscan ⟨sc, d, true, false⟩ (zs.drop k)))) (hq : IsNext zs 34 k q) (hb : IsNext zs 92 k b) (hge : (q : Int) ≤ (b : Int)) (hlen : q ≠ zs.length) (hd : (d == 0) = true) :
    r = (q + 1, true, ⟨sc, d, false, false⟩) := by
  have e := unhide HM
  have h1 := hq.ge
  rw [str_quote _ rfl rfl zs k q b hq hb (by omega) hlen] at e
  rw [e]
  simp only [sh, hd, if_true]
  rw [show k + (q - k + 1) = q + 1 by omega]

theorem m_quote_on (HM : Hid (r = sh k (mscan ⟨sc, d, true, false⟩ (zs.drop k)))) (hq : IsNext zs 34 k q) (hb : IsNext zs 92 k b) (hge : (q : Int) ≤ (b : Int)) (hlen : q ≠ zs.length) (hd : (d == 0) = false) :
    Hid (r = sh (q + 1) (mscan ⟨sc, d, false, false⟩ (zs.drop (q + 1)))) := by
  have e := unhide HM
  have h1 := hq.ge
  rw [str_quote _ rfl rfl zs k q b hq hb (by omega) hlen] at e
  refine hide ?_
  rw [e]
  simp only [hd, if_false, Bool.false_eq_true]
  rw [sh_sh, sh_sh, show k + (q - k) + 1 = q + 1 by omega]
theorem m_sc_stop (HM : Hid (r = sh k (mscan ⟨true, d, false, false⟩ (zs.drop k)))) (HD : Hid (zs.drop k = c :: zs.drop (k + 1))) (h : endsB c = true) : r = (k, true, ⟨true, d, false, false⟩) :=
  m_stop (j := 0) HM HD (fun l => by simp [mscan, h])

theorem m_sc_on (HM : Hid (r = sh k (mscan ⟨true, d, false, false⟩ (zs.drop k)))) (HD : Hid (zs.drop k = c :: zs.drop (k + 1))) (h : endsB c = false) : Hid (r = sh (k + 1) (mscan ⟨true, d, false, false⟩ (zs.drop (k + 1)))) :=
  m_step HM HD (fun l => by simp [mscan, h])

theorem m_open (HM : Hid (r = sh k (mscan ⟨false, d, false, false⟩ (zs.drop k)))) (HD : Hid (zs.drop k = c :: zs.drop (k + 1))) (h : (c == 34) = true) : Hid (r = sh (k + 1) (mscan ⟨false, d, true, false⟩ (zs.drop (k + 1)))) :=
  m_step HM HD (fun l => by simp only [mscan, h]; simp)

theorem m_up (HM : Hid (r = sh k (mscan ⟨false, d, false, false⟩ (zs.drop k)))) (HD : Hid (zs.drop k = c :: zs.drop (k + 1))) (h : (c == 34) = false) (h2 : (c == 123 || c == 91) = true) : Hid (r = sh (k + 1) (mscan ⟨false, wrap64 (d + 1), false, false⟩ (zs.drop (k + 1)))) :=
  m_step HM HD (fun l => by simp only [mscan, h, h2]; simp)

theorem m_down_stop (HM : Hid (r = sh k (mscan ⟨false, d, false, false⟩ (zs.drop k)))) (HD : Hid (zs.drop k = c :: zs.drop (k + 1))) (h : (c == 34) = false) (h2 : (c == 123 || c == 91) = false) (h3 : (c == 125 || c == 93) = true) (h4 : (wrap64 (d - 1) == 0) = true) : r = (k + 1, true, ⟨false, wrap64 (d - 1), false, false⟩) :=
  m_stop HM HD (fun l => by simp only [mscan, h, h2, h3, h4]; simp)

theorem m_down_on (HM : Hid (r = sh k (mscan ⟨false, d, false, false⟩ (zs.drop k)))) (HD : Hid (zs.drop k = c :: zs.drop (k + 1))) (h : (c == 34) = false) (h2 : (c == 123 || c == 91) = false) (h3 : (c == 125 || c == 93) = true) (h4 : (wrap64 (d - 1) == 0) = false) : Hid (r = sh (k + 1) (mscan ⟨false, wrap64 (d - 1), false, false⟩ (zs.drop (k + 1)))) :=
  m_step HM HD (fun l => by simp only [mscan, h, h2, h3, h4]; simp)

theorem m_pass (HM : Hid (r = sh k (mscan ⟨false, d, false, false⟩ (zs.drop k)))) (HD : Hid (zs.drop k = c :: zs.drop (k + 1))) (h : (c == 34) = false) (h2 : (c == 123 || c == 91) = false) (h3 : (c == 125 || c == 93) = false) : Hid (r = sh (k + 1) (mscan ⟨false, d, false, false⟩ (zs.drop (k + 1)))) :=
  m_step HM HD (fun l => by simp only [mscan, h, h2, h3]; simp)

theorem ends_44 (h : c = 44) : endsB c = true := by simp [endsB, h]
theorem ends_93 (h : c = 93) : endsB c = true := by simp [endsB, h]
theorem ends_any (h : ((c == 44) = true ∨ (c == 93) = true) ∨ (c == 125) = true) : endsB c = true := by
  rcases h with (h | h) | h <;> simp [endsB, h]

theorem or_l {a b : Bool} (h : a = true) : (a || b) = true := by simp [h]
theorem or_r {a b : Bool} (h : b = true) : (a || b) = true := by simp [h]
theorem or_no {a b : Bool} (h : a = false) (h2 : b = false) : (a || b) = false := by simp [h, h2]
end

set_option maxRecDepth 100000 in
set_option maxHeartbeats 4000000 in
theorem scan_row (g n : Nat) (zs : List Int) (s0 : St) (w : World) (hn : zs.length = n) (hs : n ≤ 1048576) (hz : Bytes8 zs) (hg : g < w.heap.size)
    (hcell : ∀ i, i < n → w.cell? ⟨g, i, none⟩ = some (.int .u8 (zs.getD i 0))) :
    Calls Trym.prog 25 #[.pointer (some ⟨w.heap.size, 0, none⟩), .slice (some ⟨g, 0, none⟩) n n] (w.alloc (.cells #[.bool s0.sc, .int .i64 s0.d, .bool s0.ins, .bool s0.esc] 53))
      fun e w' => e = .returned (.tuple #[.int .i64 (mscan s0 zs).1, .bool (mscan s0 zs).2.1]) ∧ w' = w.alloc (stc (mscan s0 zs).2.2 53) := by
  have hnx : ∀ (s : St) (k : Nat), k < n → ∀ c, 0 ≤ c ∧ c ≤ 255 → Calls Trym.prog 26 #[.slice (some ⟨g, 0, none⟩) n n, .int .i64 k, .int .u8 c] (w.alloc (.cells #[.bool s.sc, .int .i64 s.d, .bool s.ins, .bool s.esc] 53)) fun e w' => ∃ q : Nat, e = .returned (.int .i64 q) ∧ IsNext zs c k q ∧ w' = w.alloc (.cells #[.bool s.sc, .int .i64 s.d, .bool s.ins, .bool s.esc] 53) :=
    fun s k hk c hc => index_any g n k zs c _ hn hs hk hc hz (fun i hi => by rw [World.cell?_alloc_past _ _ _ hg]; exact hcell i hi)
  have HX := hide hnx
  have HC := hide hcell
  clear hnx hcell
  generalize hr : mscan s0 zs = r
  have HR := hide hr
  clear hr
  go_enter Trym.func25, Trym.ntmps25
  go_wp2
  go_loopw [6, 7, 8] (fun qq bb ii wr => ∃ (q b : Int) (k : Nat) (s : St), k ≤ n ∧ qq = .int .i64 q ∧ bb = .int .i64 b ∧ ii = .int .i64 k ∧ Hid (Mark zs 34 k q) ∧ Hid (Mark zs 92 k b) ∧ Hid (r = sh k (mscan s (zs.drop k))) ∧ wr = w.alloc (.cells #[.bool s.sc, .int .i64 s.d, .bool s.ins, .bool s.esc] 53)) (fun _ _ ii _ => n - (intOf ii).toNat)
  case atStart => exact ⟨-1, -1, 0, s0, Nat.zero_le _, rfl, rfl, rfl, hide (.inl (by omega)), hide (.inl (by omega)), hide (by rw [sh_zero, List.drop_zero, unhide HR]), rfl⟩
  case round =>
    obtain ⟨q, b, k, ⟨sc, d, ins, esc⟩, hk, rfl, rfl, rfl, HQ, HB, HM, rfl⟩ := hrel
    by_cases hlt : k < n
    · obtain ⟨c, hc⟩ : ∃ c, zs[k]? = some c := ⟨_, List.getElem?_eq_getElem (by omega)⟩
      have hck : w.cell? ⟨g, k, none⟩ = some (.int .u8 c) := by
        rw [unhide HC k hlt, List.getD_eq_getElem?_getD, hc]; rfl
      have HD := hide (drop_hit hc)
      clear hc
      cases esc with
      | true =>
        go_wp2
        go_roundw
        case rel => exact ⟨q, b, k + 1, ⟨sc, d, ins, false⟩, by omega, rfl, rfl, by go_num, hide ((unhide HQ).step (by omega)), hide ((unhide HB).step (by omega)), m_step HM HD (fun l => by simp [mscan]), rfl⟩
        case measure => simp [intOf]; omega
      | false =>
        cases ins with
        | true =>
          have HQ' := unhide HQ
          have HB' := unhide HB
          clear HQ HB
          rcases HQ' with hq | ⟨mq, rfl, hmq⟩
          · rcases HB' with hb | ⟨mb, rfl, hmb⟩
            · go_wp2_with fail
              refine (unhide HX ⟨sc, d, true, false⟩ k hlt 34 (by omega)).mono ?_
              rintro e w' ⟨mq, rfl, hmq, rfl⟩
              have h1 := hmq.ge
              have h3 := hmq.le
              rw [hn] at h3
              go_wp2_with fail
              refine (unhide HX ⟨sc, d, true, false⟩ k hlt 92 (by omega)).mono ?_
              rintro e w' ⟨mb, rfl, hmb, rfl⟩
              have h2 := hmb.ge
              have h4 := hmb.le
              rw [hn] at h4
              go_wp2
              · go_roundw
                case rel => exact ⟨mq, mb, mb + 1, ⟨sc, d, true, true⟩, by omega, rfl, rfl, by go_num, hide (Mark.step (.inr ⟨mq, rfl, hmq⟩) (by omega)), hide (Mark.step (.inr ⟨mb, rfl, hmb⟩) (by omega)), m_back HM hmq hmb (by omega), rfl⟩
                case measure => simp [intOf]; omega
              · have hmn : ((mq : Int) == (n : Int)) = true := by assumption
                have hr := m_none HM hmq hmb (by omega) (by rw [hn]; have := eq_of_beq hmn; omega)
                go_ret2
                subst hr
                rw [hn]
                exact ⟨rfl, rfl⟩
              · have hmn : ((mq : Int) == (n : Int)) = false := by assumption
                have hr := m_quote_stop HM hmq hmb (by omega) (by rw [hn]; rw [beq_eq_false_iff_ne] at hmn; omega) (by assumption)
                go_ret2
                subst hr
                exact ⟨rfl, rfl⟩
              · have hmn : ((mq : Int) == (n : Int)) = false := by assumption
                have hmn' : mq ≠ n := by rw [beq_eq_false_iff_ne] at hmn; omega
                go_roundw
                case rel => exact ⟨mq, mb, mq + 1, ⟨sc, d, false, false⟩, by omega, rfl, rfl, by go_num, hide (Mark.step (.inr ⟨mq, rfl, hmq⟩) (by omega)), hide (Mark.step (.inr ⟨mb, rfl, hmb⟩) (by omega)), m_quote_on HM hmq hmb (by omega) (by rw [hn]; exact hmn') (by assumption), rfl⟩
                case measure => simp [intOf]; omega
            · have h2 := hmb.ge
              have h4 := hmb.le
              rw [hn] at h4
              go_wp2_with fail
              refine (unhide HX ⟨sc, d, true, false⟩ k hlt 34 (by omega)).mono ?_
              rintro e w' ⟨mq, rfl, hmq, rfl⟩
              have h1 := hmq.ge
              have h3 := hmq.le
              rw [hn] at h3
              go_wp2
              · go_roundw
                case rel => exact ⟨mq, mb, mb + 1, ⟨sc, d, true, true⟩, by omega, rfl, rfl, by go_num, hide (Mark.step (.inr ⟨mq, rfl, hmq⟩) (by omega)), hide (Mark.step (.inr ⟨mb, rfl, hmb⟩) (by omega)), m_back HM hmq hmb (by omega), rfl⟩
                case measure => simp [intOf]; omega
              · have hmn : ((mq : Int) == (n : Int)) = true := by assumption
                have hr := m_none HM hmq hmb (by omega) (by rw [hn]; have := eq_of_beq hmn; omega)
                go_ret2
                subst hr
                rw [hn]
                exact ⟨rfl, rfl⟩
              · have hmn : ((mq : Int) == (n : Int)) = false := by assumption
                have hr := m_quote_stop HM hmq hmb (by omega) (by rw [hn]; rw [beq_eq_false_iff_ne] at hmn; omega) (by assumption)
                go_ret2
                subst hr
                exact ⟨rfl, rfl⟩
              · have hmn : ((mq : Int) == (n : Int)) = false := by assumption
                have hmn' : mq ≠ n := by rw [beq_eq_false_iff_ne] at hmn; omega
                go_roundw
                case rel => exact ⟨mq, mb, mq + 1, ⟨sc, d, false, false⟩, by omega, rfl, rfl, by go_num, hide (Mark.step (.inr ⟨mq, rfl, hmq⟩) (by omega)), hide (Mark.step (.inr ⟨mb, rfl, hmb⟩) (by omega)), m_quote_on HM hmq hmb (by omega) (by rw [hn]; exact hmn') (by assumption), rfl⟩
                case measure => simp [intOf]; omega
          · rcases HB' with hb | ⟨mb, rfl, hmb⟩
            · have h1 := hmq.ge
              have h3 := hmq.le
              rw [hn] at h3
              go_wp2_with fail
              refine (unhide HX ⟨sc, d, true, false⟩ k hlt 92 (by omega)).mono ?_
              rintro e w' ⟨mb, rfl, hmb, rfl⟩
              have h2 := hmb.ge
              have h4 := hmb.le
              rw [hn] at h4
              go_wp2
              · go_roundw
                case rel => exact ⟨mq, mb, mb + 1, ⟨sc, d, true, true⟩, by omega, rfl, rfl, by go_num, hide (Mark.step (.inr ⟨mq, rfl, hmq⟩) (by omega)), hide (Mark.step (.inr ⟨mb, rfl, hmb⟩) (by omega)), m_back HM hmq hmb (by omega), rfl⟩
                case measure => simp [intOf]; omega
              · have hmn : ((mq : Int) == (n : Int)) = true := by assumption
                have hr := m_none HM hmq hmb (by omega) (by rw [hn]; have := eq_of_beq hmn; omega)
                go_ret2
                subst hr
                rw [hn]
                exact ⟨rfl, rfl⟩
              · have hmn : ((mq : Int) == (n : Int)) = false := by assumption
                have hr := m_quote_stop HM hmq hmb (by omega) (by rw [hn]; rw [beq_eq_false_iff_ne] at hmn; omega) (by assumption)
                go_ret2
                subst hr
                exact ⟨rfl, rfl⟩
              · have hmn : ((mq : Int) == (n : Int)) = false := by assumption
                have hmn' : mq ≠ n := by rw [beq_eq_false_iff_ne] at hmn; omega
                go_roundw
                case rel => exact ⟨mq, mb, mq + 1, ⟨sc, d, false, false⟩, by omega, rfl, rfl, by go_num, hide (Mark.step (.inr ⟨mq, rfl, hmq⟩) (by omega)), hide (Mark.step (.inr ⟨mb, rfl, hmb⟩) (by omega)), m_quote_on HM hmq hmb (by omega) (by rw [hn]; exact hmn') (by assumption), rfl⟩
                case measure => simp [intOf]; omega
            · have h1 := hmq.ge
              have h3 := hmq.le
              rw [hn] at h3
              have h2 := hmb.ge
              have h4 := hmb.le
              rw [hn] at h4
              go_wp2
              · go_roundw
                case rel => exact ⟨mq, mb, mb + 1, ⟨sc, d, true, true⟩, by omega, rfl, rfl, by go_num, hide (Mark.step (.inr ⟨mq, rfl, hmq⟩) (by omega)), hide (Mark.step (.inr ⟨mb, rfl, hmb⟩) (by omega)), m_back HM hmq hmb (by omega), rfl⟩
                case measure => simp [intOf]; omega
              · have hmn : ((mq : Int) == (n : Int)) = true := by assumption
                have hr := m_none HM hmq hmb (by omega) (by rw [hn]; have := eq_of_beq hmn; omega)
                go_ret2
                subst hr
                rw [hn]
                exact ⟨rfl, rfl⟩
              · have hmn : ((mq : Int) == (n : Int)) = false := by assumption
                have hr := m_quote_stop HM hmq hmb (by omega) (by rw [hn]; rw [beq_eq_false_iff_ne] at hmn; omega) (by assumption)
                go_ret2
                subst hr
                exact ⟨rfl, rfl⟩
              · have hmn : ((mq : Int) == (n : Int)) = false := by assumption
                have hmn' : mq ≠ n := by rw [beq_eq_false_iff_ne] at hmn; omega
                go_roundw
                case rel => exact ⟨mq, mb, mq + 1, ⟨sc, d, false, false⟩, by omega, rfl, rfl, by go_num, hide (Mark.step (.inr ⟨mq, rfl, hmq⟩) (by omega)), hide (Mark.step (.inr ⟨mb, rfl, hmb⟩) (by omega)), m_quote_on HM hmq hmb (by omega) (by rw [hn]; exact hmn') (by assumption), rfl⟩
                case measure => simp [intOf]; omega
        | false =>
          cases sc with
          | true =>
            by_cases hbl : blankB c = true
            · go_wp2_with (go_at_call 27; refine (blank_any c _).mono ?_; rintro e w' ⟨rfl, rfl⟩)
              · have hr := m_sc_stop HM HD (by simp [endsB, hbl])
                go_ret2
                subst hr
                exact ⟨rfl, rfl⟩
            · have hbl' : blankB c = false := by simpa using hbl
              clear hbl
              go_wp2_with (go_at_call 27; refine (blank_any c _).mono ?_; rintro e w' ⟨rfl, rfl⟩)
              · have hr := m_sc_stop HM HD (ends_44 (by assumption))
                go_ret2
                subst hr
                exact ⟨rfl, rfl⟩
              · have hr := m_sc_stop HM HD (ends_93 (by assumption))
                go_ret2
                subst hr
                exact ⟨rfl, rfl⟩
              · have hr := m_sc_stop HM HD (ends_any (by assumption))
                go_ret2
                subst hr
                exact ⟨rfl, rfl⟩
              · have h : ((c == 44) = false ∧ (c == 93) = false) ∧ (c == 125) = false := by assumption
                go_roundw
                case rel => exact ⟨q, b, k + 1, ⟨true, d, false, false⟩, by omega, rfl, rfl, by go_num, hide ((unhide HQ).step (by omega)), hide ((unhide HB).step (by omega)), m_sc_on HM HD (by simp [endsB, hbl', h.1.1, h.1.2, h.2]), rfl⟩
                case measure => simp [intOf]; omega
          | false =>
            go_wp2
            · go_roundw
              case rel => exact ⟨q, b, k + 1, ⟨false, d, true, false⟩, by omega, rfl, rfl, by go_num, hide ((unhide HQ).step (by omega)), hide ((unhide HB).step (by omega)), m_open HM HD (by assumption), rfl⟩
              case measure => simp [intOf]; omega
            · go_roundw
              case rel => exact ⟨q, b, k + 1, ⟨false, wrap64 (d + 1), false, false⟩, by omega, rfl, rfl, by go_num, hide ((unhide HQ).step (by omega)), hide ((unhide HB).step (by omega)), m_up HM HD (by assumption) (or_l (by assumption)), rfl⟩
              case measure => simp [intOf]; omega
            · go_roundw
              case rel => exact ⟨q, b, k + 1, ⟨false, wrap64 (d + 1), false, false⟩, by omega, rfl, rfl, by go_num, hide ((unhide HQ).step (by omega)), hide ((unhide HB).step (by omega)), m_up HM HD (by assumption) (or_r (by assumption)), rfl⟩
              case measure => simp [intOf]; omega
            · have hr := m_down_stop HM HD (by assumption) (or_no (by assumption) (by assumption)) (or_l (by assumption)) (by assumption)
              go_ret2
              subst hr
              exact ⟨rfl, rfl⟩
            · go_roundw
              case rel => exact ⟨q, b, k + 1, ⟨false, wrap64 (d - 1), false, false⟩, by omega, rfl, rfl, by go_num, hide ((unhide HQ).step (by omega)), hide ((unhide HB).step (by omega)), m_down_on HM HD (by assumption) (or_no (by assumption) (by assumption)) (or_l (by assumption)) (by assumption), rfl⟩
              case measure => simp [intOf]; omega
            · have hr := m_down_stop HM HD (by assumption) (or_no (by assumption) (by assumption)) (or_r (by assumption)) (by assumption)
              go_ret2
              subst hr
              exact ⟨rfl, rfl⟩
            · go_roundw
              case rel => exact ⟨q, b, k + 1, ⟨false, wrap64 (d - 1), false, false⟩, by omega, rfl, rfl, by go_num, hide ((unhide HQ).step (by omega)), hide ((unhide HB).step (by omega)), m_down_on HM HD (by assumption) (or_no (by assumption) (by assumption)) (or_r (by assumption)) (by assumption), rfl⟩
              case measure => simp [intOf]; omega
            · go_roundw
              case rel => exact ⟨q, b, k + 1, ⟨false, d, false, false⟩, by omega, rfl, rfl, by go_num, hide ((unhide HQ).step (by omega)), hide ((unhide HB).step (by omega)), m_pass HM HD (by assumption) (or_no (by assumption) (by assumption)) (or_no (by assumption) (by assumption)), rfl⟩
              case measure => simp [intOf]; omega
    · go_wp2
      go_ret2
      have hr := m_end HM (by omega)
      have hkn : k = n := by omega
      subst hkn
      subst hr
      exact ⟨rfl, rfl⟩
end Go.Proofs.Qxb6603110aMods
