import Derived.Lib.BytesEntry
import Derived.RowKit
namespace Go.Proofs.Qxb6600304aMods
open Go.RowKit

def quoteB (c : Int) : Bool := c == 34 || c == 39
def sepB (c : Int) : Bool := c == 32 || c == 9 || c == 13 || c == 10 || c == 47 || c == 62

/-- May the next byte, if there is one, follow a value? -/
def nextOk : List Int → Bool
  | [] => true
  | x :: _ => sepB x

/-- Is each value set apart? q: the quote that opened the value being read, 0 outside one. -/
def apart : Int → List Int → Bool
  | _, [] => true
  | q, c :: l =>
    if q == 0 && quoteB c then apart c l
    else if q != 0 && c == q then (if nextOk l then apart 0 l else false)
    else apart q l

/-- A space put in after every quote. -/
def spaced : List Int → List Int
  | [] => []
  | c :: l => if quoteB c then c :: 32 :: spaced l else c :: spaced l

theorem spaced_le (l : List Int) : (spaced l).length ≤ 2 * l.length := by
  induction l with
  | nil => simp [spaced]
  | cons c l ih =>
    simp only [spaced]
    split <;> simp <;> omega

theorem spaced_append (l r : List Int) : spaced (l ++ r) = spaced l ++ spaced r := by
  induction l with
  | nil => rfl
  | cons c l ih =>
    simp only [List.cons_append, spaced, ih]
    split <;> simp

theorem apart_spaced (l : List Int) : ∀ q : Int, q = 0 ∨ q = 34 ∨ q = 39 → apart q (spaced l) = true := by
  induction l with
  | nil => intro q _; simp [spaced, apart]
  | cons c l ih =>
    intro q hq
    have h0 := ih 0 (.inl rfl)
    have h34 := ih 34 (.inr (.inl rfl))
    have h39 := ih 39 (.inr (.inr rfl))
    by_cases hc : quoteB c = true
    · have hc' : c = 34 ∨ c = 39 := by simpa [quoteB] using hc
      simp only [spaced, hc, if_true]
      rcases hc' with rfl | rfl <;> rcases hq with rfl | rfl | rfl <;> simp [apart, quoteB, nextOk, sepB, h0, h34, h39]
    · have hc1 : quoteB c = false := by simpa using hc
      have h1 : c ≠ 34 ∧ c ≠ 39 := by simpa [quoteB] using hc1
      simp only [spaced, hc1]
      rcases hq with rfl | rfl | rfl <;> simp [apart, hc1, h1.1, h1.2, h0, h34, h39]

theorem drop_hit {zs : List Int} {q : Nat} {c : Int} (h : zs[q]? = some c) : zs.drop q = c :: zs.drop (q + 1) := by
  obtain ⟨hlt, he⟩ := List.getElem?_eq_some_iff.1 h
  rw [List.drop_eq_getElem_cons hlt, he]

theorem nextOk_drop {zs : List Int} {k : Nat} {x : Int} (h : zs[k]? = some x) : nextOk (zs.drop k) = sepB x := by
  rw [drop_hit h]; rfl

theorem nextOk_none {zs : List Int} {k : Nat} (h : zs.length ≤ k) : nextOk (zs.drop k) = true := by
  rw [List.drop_of_length_le h]; rfl

theorem index_neg (l : List UInt8) (c : UInt8) : Lib.indexByte l c < 0 ↔ c ∉ l := by
  induction l with
  | nil => simp [Lib.indexByte]
  | cons b l ih =>
    have hge := Lib.indexByte_ge l c
    unfold Lib.indexByte
    by_cases hb : b = c
    · subst hb; simp
    · have hb' : (b == c) = false := by simpa using hb
      rw [hb', List.mem_cons, not_or]
      simp only [Bool.false_eq_true, if_false]
      constructor
      · intro h
        refine ⟨fun e => hb e.symm, ih.1 ?_⟩
        split at h
        · have : Lib.indexByte l c = -1 := eq_of_beq ‹_›
          omega
        · omega
      · rintro ⟨_, h⟩
        have h1 := ih.2 h
        have h2 : Lib.indexByte l c = -1 := by omega
        simp [h2]

theorem byte_eq {x c : Int} (hx : 0 ≤ x ∧ x ≤ 255) (hc : 0 ≤ c ∧ c ≤ 255) : UInt8.ofNat x.toNat = UInt8.ofNat c.toNat ↔ x = c := by
  constructor
  · intro h
    have := congrArg UInt8.toNat h
    simp [UInt8.toNat_ofNat'] at this
    omega
  · rintro rfl; rfl

theorem sep_index (x : Int) (hx : 0 ≤ x ∧ x ≤ 255) : Lib.indexByte [32, 9, 13, 10, 47, 62] (UInt8.ofNat x.toNat) < 0 ↔ sepB x = false := by
  rw [index_neg]
  have e (c : Int) (hc : 0 ≤ c ∧ c ≤ 255) := byte_eq hx hc
  have e1 := e 32 (by omega)
  have e2 := e 9 (by omega)
  have e3 := e 13 (by omega)
  have e4 := e 10 (by omega)
  have e5 := e 47 (by omega)
  have e6 := e 62 (by omega)
  have f1 : UInt8.ofNat (32 : Int).toNat = 32 := rfl
  have f2 : UInt8.ofNat (9 : Int).toNat = 9 := rfl
  have f3 : UInt8.ofNat (13 : Int).toNat = 13 := rfl
  have f4 : UInt8.ofNat (10 : Int).toNat = 10 := rfl
  have f5 : UInt8.ofNat (47 : Int).toNat = 47 := rfl
  have f6 : UInt8.ofNat (62 : Int).toNat = 62 := rfl
  rw [f1] at e1; rw [f2] at e2; rw [f3] at e3; rw [f4] at e4; rw [f5] at e5; rw [f6] at e6
  simp only [List.mem_cons, List.not_mem_nil, or_false, e1, e2, e3, e4, e5, e6, sepB, Bool.or_eq_false_iff, beq_eq_false_iff_ne, not_or, ne_eq]
  constructor
  · rintro ⟨a, b, c, d, e, f⟩; exact ⟨⟨⟨⟨⟨a, b⟩, c⟩, d⟩, e⟩, f⟩
  · rintro ⟨⟨⟨⟨⟨a, b⟩, c⟩, d⟩, e⟩, f⟩; exact ⟨a, b, c, d, e, f⟩
end Go.Proofs.Qxb6600304aMods
