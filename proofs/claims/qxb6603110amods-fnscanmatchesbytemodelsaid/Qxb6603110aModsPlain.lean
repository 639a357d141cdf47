import Derived.Lib.BytesEntry
import Derived.RowKit
namespace Go.Proofs.Qxb6603110aMods
open Go.RowKit

/-- The scanner's state. -/
structure St where
  sc : Bool
  d : Int
  ins : Bool
  esc : Bool

/-- k bytes more ahead of what r counts. -/
def sh (k : Nat) (r : Nat × Bool × St) : Nat × Bool × St := (k + r.1, r.2.1, r.2.2)

theorem sh_zero (r : Nat × Bool × St) : sh 0 r = r := by simp [sh]
theorem sh_sh (a b : Nat) (r : Nat × Bool × St) : sh a (sh b r) = sh (a + b) r := by simp [sh, Nat.add_assoc]

def blankB (c : Int) : Bool := c == 32 || c == 9 || c == 13 || c == 10
def endsB (c : Int) : Bool := blankB c || c == 44 || c == 93 || c == 125

/-- The byte-by-byte automaton. -/
def mscan : St → List Int → Nat × Bool × St
  | s, [] => (0, false, s)
  | s, c :: l =>
    if s.esc then sh 1 (mscan { s with esc := false } l)
    else if s.ins then
      if c == 92 then sh 1 (mscan { s with esc := true } l)
      else if c == 34 then
        if s.d == 0 then (1, true, { s with ins := false }) else sh 1 (mscan { s with ins := false } l)
      else sh 1 (mscan s l)
    else if s.sc then
      if endsB c then (0, true, s) else sh 1 (mscan s l)
    else if c == 34 then sh 1 (mscan { s with ins := true } l)
    else if c == 123 || c == 91 then sh 1 (mscan { s with d := wrap64 (s.d + 1) } l)
    else if c == 125 || c == 93 then
      if wrap64 (s.d - 1) == 0 then (1, true, { s with d := wrap64 (s.d - 1) }) else sh 1 (mscan { s with d := wrap64 (s.d - 1) } l)
    else sh 1 (mscan s l)

/-- Where c stands next at or behind k; the length where it stands nowhere. -/
def nxt (zs : List Int) (c : Int) (k : Nat) : Nat := k + ((zs.drop k).takeWhile (fun x => x != c)).length

structure IsNext (zs : List Int) (c : Int) (k q : Nat) : Prop where
  ge : k ≤ q
  le : q ≤ zs.length
  no : ∀ j, k ≤ j → j < q → zs[j]? ≠ some c
  hit : q = zs.length ∨ zs[q]? = some c

theorem IsNext.later {zs : List Int} {c : Int} {k k' q : Nat} (h : IsNext zs c k q) (h1 : k ≤ k') (h2 : k' ≤ q) : IsNext zs c k' q :=
  ⟨h2, h.le, fun j hj hq => h.no j (by omega) hq, h.hit⟩

/-- In a string, no quote and no backslash among the next n bytes: they are passed. -/
theorem mscan_skip (s : St) (he : s.esc = false) (hi : s.ins = true) (zs : List Int) : ∀ (n k : Nat), k + n ≤ zs.length → (∀ j, k ≤ j → j < k + n → zs[j]? ≠ some 92 ∧ zs[j]? ≠ some 34) →
    mscan s (zs.drop k) = sh n (mscan s (zs.drop (k + n))) := by
  intro n
  induction n with
  | zero => intro k _ _; rw [Nat.add_zero, sh_zero]
  | succ n ih =>
    intro k hk h
    have hlt : k < zs.length := by omega
    rw [List.drop_eq_getElem_cons hlt, mscan]
    have h1 := h k (Nat.le_refl _) (by omega)
    rw [List.getElem?_eq_getElem hlt] at h1
    have e1 : (zs[k] == 92) = false := by rw [beq_eq_false_iff_ne]; intro e; exact h1.1 (by rw [e])
    have e2 : (zs[k] == 34) = false := by rw [beq_eq_false_iff_ne]; intro e; exact h1.2 (by rw [e])
    simp only [he, hi, e1, e2, Bool.false_eq_true, if_false, if_true]
    rw [ih (k + 1) (by omega) (fun j hj hj2 => h j (by omega) (by omega)), sh_sh, show k + 1 + n = k + (n + 1) by omega, Nat.add_comm 1 n]

theorem drop_hit {zs : List Int} {q : Nat} {c : Int} (h : zs[q]? = some c) : zs.drop q = c :: zs.drop (q + 1) := by
  obtain ⟨hlt, he⟩ := List.getElem?_eq_some_iff.1 h
  rw [List.drop_eq_getElem_cons hlt, he]

/-- In a string: the backslash comes first. -/
theorem str_back (s : St) (he : s.esc = false) (hi : s.ins = true) (zs : List Int) (k q b : Nat) (hq : IsNext zs 34 k q) (hb : IsNext zs 92 k b) (hlt : b < q) :
    mscan s (zs.drop k) = sh (b + 1 - k) (mscan { s with esc := true } (zs.drop (b + 1))) := by
  have h1 := hb.ge; have h2 := hq.le
  have hk := mscan_skip s he hi zs (b - k) k (by omega) (fun j hj hj2 => ⟨hb.no j hj (by omega), hq.no j hj (by omega)⟩)
  rw [hk, show k + (b - k) = b by omega]
  have h92 : zs[b]? = some 92 := by
    rcases hb.hit with h | h
    · omega
    · exact h
  rw [drop_hit h92, mscan]
  simp only [he, hi, Bool.false_eq_true, if_false, if_true, beq_self_eq_true]
  rw [sh_sh, show b - k + 1 = b + 1 - k by omega]

/-- In a string: neither comes. -/
theorem str_none (s : St) (he : s.esc = false) (hi : s.ins = true) (zs : List Int) (k q b : Nat) (hq : IsNext zs 34 k q) (hb : IsNext zs 92 k b) (hge : ¬ b < q) (hlen : q = zs.length) :
    mscan s (zs.drop k) = (zs.length - k, false, s) := by
  have h1 := hq.ge
  have hk := mscan_skip s he hi zs (q - k) k (by omega) (fun j hj hj2 => ⟨hb.no j hj (by omega), hq.no j hj (by omega)⟩)
  rw [hk, show k + (q - k) = q by omega, hlen, List.drop_length, mscan]
  simp [sh]

/-- In a string: the quote comes first. -/
theorem str_quote (s : St) (he : s.esc = false) (hi : s.ins = true) (zs : List Int) (k q b : Nat) (hq : IsNext zs 34 k q) (hb : IsNext zs 92 k b) (hge : ¬ b < q) (hlen : q ≠ zs.length) :
    mscan s (zs.drop k) = sh (q - k) (if s.d == 0 then (1, true, { s with ins := false }) else sh 1 (mscan { s with ins := false } (zs.drop (q + 1)))) := by
  have h1 := hq.ge; have h2 := hq.le
  have hk := mscan_skip s he hi zs (q - k) k (by omega) (fun j hj hj2 => ⟨hb.no j hj (by omega), hq.no j hj (by omega)⟩)
  have h34 : zs[q]? = some 34 := by
    rcases hq.hit with h | h
    · omega
    · exact h
  rw [hk, show k + (q - k) = q by omega, drop_hit h34, mscan]
  simp [he, hi]

theorem mscan_le (l : List Int) : ∀ s : St, (mscan s l).1 ≤ l.length := by
  induction l with
  | nil => intro s; simp [mscan]
  | cons c l ih =>
    intro s
    have key : ∀ s' : St, (sh 1 (mscan s' l)).1 ≤ l.length + 1 := fun s' => by
      have := ih s'
      simp only [sh]; omega
    rw [mscan, List.length_cons]
    split
    · exact key _
    · split
      · split
        · exact key _
        · split
          · split
            · simp
            · exact key _
          · exact key _
      · split
        · split
          · simp
          · exact key _
        · split
          · exact key _
          · split
            · exact key _
            · split
              · split
                · simp
                · exact key _
              · exact key _

/-- Two pieces, one behind the other. -/
theorem mscan_append (l : List Int) : ∀ (s : St) (r : List Int), ((mscan s l).2.1 = true → mscan s (l ++ r) = mscan s l) ∧
    ((mscan s l).2.1 = false → (mscan s l).1 = l.length ∧ mscan s (l ++ r) = sh l.length (mscan (mscan s l).2.2 r)) := by
  induction l with
  | nil => intro s r; simp [mscan, sh]
  | cons c l ih =>
    have key : ∀ (s' : St) (r : List Int), ((sh 1 (mscan s' l)).2.1 = true → sh 1 (mscan s' (l ++ r)) = sh 1 (mscan s' l)) ∧
        ((sh 1 (mscan s' l)).2.1 = false → (sh 1 (mscan s' l)).1 = l.length + 1 ∧ sh 1 (mscan s' (l ++ r)) = sh (l.length + 1) (mscan (sh 1 (mscan s' l)).2.2 r)) := by
      intro s' r
      have h := ih s' r
      constructor
      · intro e; rw [h.1 e]
      · intro e
        obtain ⟨h1, h2⟩ := h.2 e
        refine ⟨by simp [sh, h1]; omega, ?_⟩
        rw [h2, sh_sh, Nat.add_comm 1 l.length]
        rfl
    intro s r
    rw [List.cons_append, mscan, mscan, List.length_cons]
    by_cases h1 : s.esc = true
    · simp only [h1, if_true]; exact key _ r
    · by_cases h2 : s.ins = true
      · simp only [h1, h2, if_true, if_false, Bool.false_eq_true]
        by_cases h3 : (c == 92) = true
        · simp only [h3, if_true]; exact key _ r
        · by_cases h4 : (c == 34) = true
          · simp only [h3, h4, if_true, if_false, Bool.false_eq_true]
            by_cases h5 : (s.d == 0) = true
            · simp [h5]
            · simp only [h5, if_false, Bool.false_eq_true]; exact key _ r
          · simp only [h3, h4, if_false, Bool.false_eq_true]; exact key _ r
      · by_cases h3 : s.sc = true
        · simp only [h1, h2, h3, if_true, if_false, Bool.false_eq_true]
          by_cases h4 : endsB c = true
          · simp [h4]
          · simp only [h4, if_false, Bool.false_eq_true]; exact key _ r
        · simp only [h1, h2, h3, if_false, Bool.false_eq_true]
          by_cases h4 : (c == 34) = true
          · simp only [h4, if_true]; exact key _ r
          · by_cases h5 : (c == 123 || c == 91) = true
            · simp only [h4, h5, if_true, if_false, Bool.false_eq_true]; exact key _ r
            · by_cases h6 : (c == 125 || c == 93) = true
              · simp only [h4, h5, h6, if_true, if_false, Bool.false_eq_true]
                by_cases h7 : (wrap64 (s.d - 1) == 0) = true
                · simp [h7]
                · simp only [h7, if_false, Bool.false_eq_true]; exact key _ r
              · simp only [h4, h5, h6, if_false, Bool.false_eq_true]; exact key _ r
end Go.Proofs.Qxb6603110aMods
