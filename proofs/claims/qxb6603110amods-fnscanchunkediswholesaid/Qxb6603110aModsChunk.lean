import Derived.Test.Qxb6603110aModsRun
import Derived.Laws.StructEq
namespace Go.Proofs.Qxb6603110aMods
open Go.RowKit

theorem eq28 (sc : Bool) (d : Int) (ins esc : Bool) (w : World) : (Op.equalIn 10000 28 (.agg #[.bool sc, .int .i64 d, .bool ins, .bool esc]) (.agg #[.bool sc, .int .i64 d, .bool ins, .bool esc])).run Trym.prog w = .ok true w := by
  have u3 := Trym.underlying3
  have a3 := Trym.isAgg3
  have z3 := Trym.sizeOf3
  have u4 := Trym.underlying4
  have a4 := Trym.isAgg4
  have z4 := Trym.sizeOf4
  have hS : Trym.prog.underlying 28 = some (.struct (Trym.prog.fieldsOf 28)) := by kernel_rfl
  rw [show (10000 : Nat) = 9999 + 1 from rfl, run_equalIn_agg w 9999 28 _ _ hS (by kernel_rfl)]
  simp only [Program.fieldsOf, Trym.underlying28]
  go_simp

theorem src_of (ao : Option Addr) (zs : List Int) (w : World) (h : ao = none ∧ zs = [] ∨ ∃ g, ao = some ⟨g, 0, none⟩ ∧ w.heap[g]? = some (.cells (zs.map (Value.int .u8)).toArray 5 (0, 0))) :
    0 < (zs.map (Value.int .u8)).length → ∃ ad, ao = some ad ∧ ∀ W, Below w.heap.size w W → ∀ j v, (zs.map (Value.int .u8))[j]? = some v → W.cell? (ad.add j) = some v := by
  intro h0
  rcases h with ⟨_, rfl⟩ | ⟨g, rfl, hg⟩
  · simp at h0
  · refine ⟨_, rfl, fun W hb j v hj => ?_⟩
    have hlt : g < w.heap.size := (Array.getElem?_eq_some_iff.1 hg).1
    have e : ((⟨g, 0, none⟩ : Addr).add j) = ⟨g, j, none⟩ := by
      by_cases hj0 : j = 0
      · subst hj0; rfl
      · simp [Addr.add, hj0]
    rw [e, hb.cell (by exact hlt)]
    simp only [World.cell?, hg]
    simpa using hj

theorem splice_two {α : Type} (L A B : List α) (a b : Nat) (hL : L.length = a + b) (hA : A.length = a) (hB : B.length = b) : splice (splice L 0 A) a B = A ++ B := by
  subst hA
  subst hB
  simp only [splice, List.take_zero, List.nil_append, Nat.zero_add]
  rw [List.take_left, List.drop_of_length_le (by simp; omega), List.append_nil]

theorem row_both (w : World) (g : Nat) (cur X1 X2 : List Value) (za zb : List Int) (n m : Nat) (hza : Bytes8 za) (hzb : Bytes8 zb) (hla : za.length = n) (hlb : zb.length = m) (h1 : X1 = za.map (Value.int .u8)) (h2 : X2 = zb.map (Value.int .u8)) (hc : cur.length = n + m)
    (hg : w.heap[g]? = some (.cells (splice (splice cur 0 X1) n X2).toArray 5 (0, 0))) : Row w (.slice (some ⟨g, 0, none⟩) (n + m) (n + m)) (za ++ zb) := by
  refine ⟨?_, some ⟨g, 0, none⟩, by rw [List.length_append, hla, hlb], .inr ⟨g, rfl, ?_⟩⟩
  · intro z hz
    rcases List.mem_append.1 hz with h | h
    · exact hza z h
    · exact hzb z h
  · rw [hg, splice_two cur X1 X2 n m hc (by rw [h1, List.length_map, hla]) (by rw [h2, List.length_map, hlb]), List.map_append, h1, h2]

def Runs (s : St) (v : Value) (w4 : World) (n : Int) (dn sc : Bool) (d : Int) (ins esc : Bool) : Prop :=
  ∀ W, Below w4.heap.size w4 W → Calls Trym.prog 12 #[.agg #[.bool s.sc, .int .i64 s.d, .bool s.ins, .bool s.esc], v] W
    fun e w' => e = .returned (.tuple #[.int .i64 n, .bool dn, .agg #[.bool sc, .int .i64 d, .bool ins, .bool esc]]) ∧ Below W.heap.size W w'

theorem runs_of (s : St) (v : Value) (zs : List Int) (w4 : World) (h : Row w4 v zs) (hs : zs.length ≤ 1048576) : Runs s v w4 (mscan s zs).1 (mscan s zs).2.1 (mscan s zs).2.2.sc (mscan s zs).2.2.d (mscan s zs).2.2.ins (mscan s zs).2.2.esc :=
  fun W hb => run_any s v zs W (h.keep hb) hs

/-- Either the first piece ends the value and the whole tells the same; or it does not, and the whole tells what the second tells behind it. -/
theorem two_runs (s : St) (za zb : List Int) (n m : Nat) (hla : za.length = n) (hlb : zb.length = m) (vab va vb : Value) (w4 : World) (hab : Row w4 vab (za ++ zb)) (ha : Row w4 va za) (hb : Row w4 vb zb) (hs : n + m ≤ 1048576) :
    (∃ (n1 : Nat) (sc1 : Bool) (d1 : Int) (ins1 esc1 : Bool), Runs s vab w4 n1 true sc1 d1 ins1 esc1 ∧ Runs s va w4 n1 true sc1 d1 ins1 esc1) ∨
    (∃ (sc1 : Bool) (d1 : Int) (ins1 esc1 : Bool) (n2 : Nat) (dn2 sc2 : Bool) (d2 : Int) (ins2 esc2 : Bool), n2 ≤ m ∧ Runs s vab w4 ((n : Int) + (n2 : Int)) dn2 sc2 d2 ins2 esc2 ∧ Runs s va w4 n false sc1 d1 ins1 esc1 ∧ Runs ⟨sc1, d1, ins1, esc1⟩ vb w4 n2 dn2 sc2 d2 ins2 esc2) := by
  have kab := runs_of s vab (za ++ zb) w4 hab (by rw [List.length_append, hla, hlb]; exact hs)
  have ka := runs_of s va za w4 ha (by omega)
  have happ := mscan_append za s zb
  cases hd : (mscan s za).2.1 with
  | true =>
    left
    rw [happ.1 hd, hd] at kab
    rw [hd] at ka
    exact ⟨_, _, _, _, _, kab, ka⟩
  | false =>
    right
    obtain ⟨e1, e2⟩ := happ.2 hd
    have kb := runs_of (mscan s za).2.2 vb zb w4 hb (by omega)
    rw [e1, hd, hla] at ka
    rw [e2, hla] at kab
    refine ⟨_, _, _, _, _, _, _, _, _, _, by rw [← hlb]; exact mscan_le zb _, ?_, ka, kb⟩
    simpa [sh] using kab

set_option maxRecDepth 100000 in
set_option maxHeartbeats 2000000 in
theorem chunk_walk (s : St) (a4 : Option Addr) (len4 cap4 : Nat) (za : List Int) (a5 : Option Addr) (len5 cap5 : Nat) (zb : List Int) (w : World) (ha : Came w a4 len4 cap4 za) (hb : Came w a5 len5 cap5 zb) (h4 : len4 ≤ 524288) (h5 : len5 ≤ 524288) :
    Calls Trym.prog 5 #[.bool s.sc, .int .i64 s.d, .bool s.ins, .bool s.esc, .slice a4 len4 cap4, .slice a5 len5 cap5] w fun e w' => e = .returned (.bool true) ∧ Below w.heap.size w w' := by
  have hla := ha.2.1
  have hlb := hb.2.1
  have HA := hide ha
  have HB := hide hb
  clear ha hb
  go_enter Trym.func5, Trym.ntmps5
  go_wp2_with (go_at_call 14; go_in)
  refine (clone_any a4 len4 cap4 za _ (unhide HA) (by omega)).mono ?_
  rintro e w1 ⟨va, rfl, hra, hb1⟩
  go_wp2_with fail
  refine (clone_any a5 len5 cap5 zb _ ((unhide HB).keep hb1) (by omega)).mono ?_
  rintro e w2 ⟨vb, rfl, hrb, hb2⟩
  have hra2 := hra.keep hb2
  clear hra
  obtain ⟨hza, aoa, rfl, hra⟩ := hra2
  obtain ⟨hzb, aob, rfl, hrb⟩ := hrb
  rw [hla, hlb]
  obtain ⟨cur, hcl, hmk⟩ := make_row (len4 + len5) (by omega)
  have ec : ((len4 + len5 : Nat) : Int) = (len4 : Int) + (len5 : Int) := by omega
  rw [ec] at hmk
  clear ec
  obtain ⟨X1, hX1⟩ : ∃ X1, X1 = za.map (Value.int .u8) := ⟨_, rfl⟩
  obtain ⟨X2, hX2⟩ : ∃ X2, X2 = zb.map (Value.int .u8) := ⟨_, rfl⟩
  have hl1 : X1.length = len4 := by rw [hX1, List.length_map, hla]
  have hl2 : X2.length = len5 := by rw [hX2, List.length_map, hlb]
  have hp1 := hide (src_of aoa za w2 hra)
  have hp2 := hide (src_of aob zb w2 hrb)
  rw [← hX1] at hp1
  rw [← hX2] at hp2
  have HRA := hide hra
  have HRB := hide hrb
  have HZA := hide hza
  have HZB := hide hzb
  have HX1 := hide hX1
  have HX2 := hide hX2
  have ho1 : ∀ v ∈ X1, v.oneCell' = true := by rw [hX1]; intro v hv; obtain ⟨z, _, rfl⟩ := List.mem_map.1 hv; rfl
  have ho2 : ∀ v ∈ X2, v.oneCell' = true := by rw [hX2]; intro v hv; obtain ⟨z, _, rfl⟩ := List.mem_map.1 hv; rfl
  have HO1 := hide ho1
  have HO2 := hide ho2
  have Hcl := hide hcl
  have Hl1 := hide hl1
  have Hl2 := hide hl2
  clear hra hrb hX1 hX2 ho1 ho2 hcl hl1 hl2 hza hzb
  go_wp2_with (refine wpList_copy_splice rfl (.tmp 48) (.tmp 49) 22 22 rfl 5 Trym.underlying22 size5 _ _ _ _ _ _ rfl rfl w2.heap.size 0 cur 5 ?_ X1 ?_ ?_ ?_ ?_ w2.heap.size w2 ?_ (Nat.le_refl _) ?_)
  · exact heap_alloc_new w2 _
  · rw [unhide Hl1]; exact (Nat.min_eq_left (by omega)).symm
  · intro h0
    obtain ⟨ad, e1, e2⟩ := unhide hp1 h0
    exact ⟨ad, e1, e2 _ ((Below.refl _ _).alloc (Nat.le_refl _) _)⟩
  · rw [unhide Hl1, unhide Hcl]; omega
  · exact unhide HO1
  · exact (Below.refl _ _).alloc (Nat.le_refl _) _
  intro w3 HG3 hb3
  have Hcl2 : Hid ((splice cur 0 X1).length = len4 + len5) := hide (by rw [length_splice _ _ _ (by rw [unhide Hl1, unhide Hcl]; omega)]; exact unhide Hcl)
  go_wp2_with (refine wpList_copy_splice rfl (.tmp 54) (.tmp 55) 22 22 rfl 5 Trym.underlying22 size5 _ _ _ _ _ _ rfl rfl w2.heap.size len4 (splice cur 0 X1) 5 ?_ X2 ?_ ?_ ?_ ?_ w2.heap.size w2 ?_ (Nat.le_refl _) ?_)
  case refine_1 => exact unhide HG3
  case refine_2 => rw [unhide Hl2]; exact (Nat.min_self _).symm
  case refine_3.inl => intro h0; rw [unhide Hl2] at h0; omega
  case refine_3.inr =>
    intro h0
    obtain ⟨ad, e1, e2⟩ := unhide hp2 h0
    exact ⟨ad, e1, e2 _ hb3⟩
  case refine_4 => rw [unhide Hcl2, unhide Hl2]; omega
  case refine_5 => exact unhide HO2
  case refine_6 => exact hb3
  case refine_7.inl | refine_7.inr =>
    intro w4 HG4 hb4
    have hrab : Row w4 (.slice (some ⟨w2.heap.size, 0, none⟩) (len4 + len5) (len4 + len5)) (za ++ zb) :=
      row_both w4 w2.heap.size cur X1 X2 za zb len4 len5 (unhide HZA) (unhide HZB) hla hlb (unhide HX1) (unhide HX2) (unhide Hcl) (unhide HG4)
    have hra : Row w4 (.slice aoa len4 len4) za := Row.keep ⟨unhide HZA, aoa, by rw [hla], unhide HRA⟩ hb4
    have hrb : Row w4 (.slice aob len5 len5) zb := Row.keep ⟨unhide HZB, aob, by rw [hlb], unhide HRB⟩ hb4
    have hbw : Below w.heap.size w w4 := (hb1.trans (hb2.mono hb1.size)).trans (hb4.mono (Nat.le_trans hb1.size hb2.size))
    clear HA HB hb1 hb2 hb3 hb4 HG3 HG4 hp1 hp2 HRA HRB HX1 HX2 HO1 HO2 Hcl Hcl2 Hl1 Hl2 hmk HZA HZB
    first | (have h0 : len5 = 0 := by assumption
             subst h0
             simp only [Nat.add_zero] at hrab) | skip
    rcases two_runs s za zb len4 _ hla hlb _ _ _ w4 hrab hra hrb (by omega) with ⟨n1, sc1, d1, ins1, esc1, K1, K2⟩ | ⟨sc1, d1, ins1, esc1, n2, dn2, sc2, d2, ins2, esc2, hn2, K1, K2, K3⟩
    · have H1 := hide K1
      have H2 := hide K2
      clear K1 K2 hrab hra hrb
      have he := eq28 sc1 d1 ins1 esc1
      go_wp2_with fail
      refine (unhide H1 _ ((Below.refl _ _).alloc (Nat.le_refl _) _)).mono ?_
      rintro e w5 ⟨rfl, hb5⟩
      obtain ⟨hc5, hf5⟩ := bcell hb5
      have hB5 : Below w4.heap.size w4 w5 := ((Below.refl _ _).alloc (Nat.le_refl _) _).trans (hb5.mono (by simp))
      have hz5 : w4.heap.size < w5.heap.size := by (have := hb5.size; simp at this; omega)
      go_wp2_with fail
      refine (unhide H2 _ (hB5.alloc (by omega) _)).mono ?_
      rintro e w6 ⟨rfl, hb6⟩
      obtain ⟨hc6, hf6⟩ := bcell hb6
      have hz6 : w5.heap.size < w6.heap.size := by (have := hb6.size; simp at this; omega)
      have hB6 : Below w4.heap.size w4 w6 := (hB5.alloc (by omega) _).trans (hb6.mono (by simp; omega))
      go_wp2_with fail
      go_ret
      exact ⟨rfl, hbw.trans ((hB6.alloc (by omega) _).mono hbw.size)⟩
    · have H1 := hide K1
      have H2 := hide K2
      have H3 := hide K3
      clear K1 K2 K3 hrab hra hrb
      have he := eq28 sc2 d2 ins2 esc2
      go_wp2_with fail
      refine (unhide H1 _ ((Below.refl _ _).alloc (Nat.le_refl _) _)).mono ?_
      rintro e w5 ⟨rfl, hb5⟩
      obtain ⟨hc5, hf5⟩ := bcell hb5
      have hB5 : Below w4.heap.size w4 w5 := ((Below.refl _ _).alloc (Nat.le_refl _) _).trans (hb5.mono (by simp))
      have hz5 : w4.heap.size < w5.heap.size := by (have := hb5.size; simp at this; omega)
      go_wp2_with fail
      refine (unhide H2 _ (hB5.alloc (by omega) _)).mono ?_
      rintro e w6 ⟨rfl, hb6⟩
      obtain ⟨hc6, hf6⟩ := bcell hb6
      have hz6 : w5.heap.size < w6.heap.size := by (have := hb6.size; simp at this; omega)
      have hB6 : Below w4.heap.size w4 w6 := (hB5.alloc (by omega) _).trans (hb6.mono (by simp; omega))
      go_wp2_with fail
      refine (unhide H3 _ (hB6.alloc (by omega) _)).mono ?_
      rintro e w7 ⟨rfl, hb7⟩
      obtain ⟨hc7, hf7⟩ := bcell hb7
      have hz7 : w6.heap.size < w7.heap.size := by (have := hb7.size; simp at this; omega)
      have hB7 : Below w4.heap.size w4 w7 := (hB6.alloc (by omega) _).trans (hb7.mono (by simp; omega))
      have hz57 : w5.heap.size < w7.heap.size := by omega
      have hs7 : ∀ o, w7.cell? ⟨w5.heap.size, o, none⟩ = (#[Value.bool sc2, .int .i64 d2, .bool ins2, .bool esc2])[o]? := by
        intro o
        rw [hc7 _ _ (by simp; omega), World.cell?_alloc_past _ _ _ hz6, hc6 _ _ (by simp), World.cell?_alloc_at _ _ _ _ rfl]
      clear hla hlb
      clear hc5 hf5 hc6 hf6 hc7 hf7 H1 H2 H3 hb5 hb6 hb7 hB5 hB6
      go_wp2_with fail
      go_ret
      exact ⟨rfl, hbw.trans ((hB7.alloc (by omega) _).mono hbw.size)⟩
end Go.Proofs.Qxb6603110aMods
