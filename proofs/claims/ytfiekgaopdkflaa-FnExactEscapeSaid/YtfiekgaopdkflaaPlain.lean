/-
  What escaping a list of bytes gives, in plain words of lists: each of the five signs (their bytes: 38, 39, 60, 62, 34) becomes its reference, every other byte stays; no condition.
-/
import Derived.WalkKit
import Derived.Lib.UnsafeStr
namespace Go.Proofs.Ytfiekgaopdkflaa

def amp : List UInt8 := [38, 97, 109, 112, 59]
def apos : List UInt8 := [38, 35, 51, 57, 59]
def less : List UInt8 := [38, 108, 116, 59]
def more : List UInt8 := [38, 103, 116, 59]
def quot : List UInt8 := [38, 35, 51, 52, 59]

/-- What one byte is written as. -/
def escB (c : UInt8) : List UInt8 :=
  if c = 38 then amp else if c = 39 then apos else if c = 60 then less else if c = 62 then more else if c = 34 then quot else [c]
/-- What a text is written as. -/
def esc : List UInt8 → List UInt8
  | [] => []
  | c :: r => escB c ++ esc r

theorem esc_append (a b : List UInt8) : esc (a ++ b) = esc a ++ esc b := by
  induction a with
  | nil => rfl
  | cons c r ih => simp [esc, ih]

theorem escB_le (c : UInt8) : (escB c).length ≤ 5 := by
  unfold escB
  repeat' split
  all_goals simp [amp, apos, less, more, quot]

theorem esc_le (l : List UInt8) : (esc l).length ≤ 5 * l.length := by
  induction l with
  | nil => simp [esc]
  | cons c r ih => have := escB_le c; simp [esc]; omega

theorem take_snoc (s : ByteArray) (k : Nat) (h : k < s.size) : s.data.toList.take (k + 1) = s.data.toList.take k ++ [s[k]] := by
  rw [List.take_succ_eq_append_getElem (by simpa using h)]; rfl

theorem esc_take (s : ByteArray) (k : Nat) (h : k < s.size) : esc (s.data.toList.take (k + 1)) = esc (s.data.toList.take k) ++ escB s[k] := by
  rw [take_snoc s k h, esc_append]; simp [esc]

theorem esc_take_le (s : ByteArray) (k : Nat) : (esc (s.data.toList.take k)).length ≤ 5 * k := by
  have h1 := esc_le (s.data.toList.take k)
  have h2 : (s.data.toList.take k).length ≤ k := List.length_take_le _ _
  omega

theorem esc_whole (s : ByteArray) (k : Nat) (h : s.size ≤ k) : esc (s.data.toList.take k) = esc s.data.toList := by
  rw [List.take_of_length_le (by simpa using h)]

/-- The five tests on a byte, in the order of the text, and what they give. -/
theorem kinds (c : UInt8) :
    (((c.toNat : Int) == 38) = true ∧ escB c = amp) ∨
    (((c.toNat : Int) == 38) = false ∧ ((c.toNat : Int) == 39) = true ∧ escB c = apos) ∨
    (((c.toNat : Int) == 38) = false ∧ ((c.toNat : Int) == 39) = false ∧ ((c.toNat : Int) == 60) = true ∧ escB c = less) ∨
    (((c.toNat : Int) == 38) = false ∧ ((c.toNat : Int) == 39) = false ∧ ((c.toNat : Int) == 60) = false ∧ ((c.toNat : Int) == 62) = true ∧ escB c = more) ∨
    (((c.toNat : Int) == 38) = false ∧ ((c.toNat : Int) == 39) = false ∧ ((c.toNat : Int) == 60) = false ∧ ((c.toNat : Int) == 62) = false ∧ ((c.toNat : Int) == 34) = true ∧ escB c = quot) ∨
    (((c.toNat : Int) == 38) = false ∧ ((c.toNat : Int) == 39) = false ∧ ((c.toNat : Int) == 60) = false ∧ ((c.toNat : Int) == 62) = false ∧ ((c.toNat : Int) == 34) = false ∧ escB c = [c]) := by
  have key : ∀ n : Nat, n < 256 → ∀ d : UInt8, d.toNat = n → (((c.toNat : Int) == (n : Int)) = true ↔ c = d) := by
    intro n _ d hd
    rw [beq_iff_eq]
    constructor
    · intro h
      apply UInt8.toNat_inj.1
      omega
    · intro h
      subst h
      omega
  have k38 := key 38 (by decide) 38 rfl
  have k39 := key 39 (by decide) 39 rfl
  have k60 := key 60 (by decide) 60 rfl
  have k62 := key 62 (by decide) 62 rfl
  have k34 := key 34 (by decide) 34 rfl
  have no : ∀ {b : Bool} {p : Prop}, (b = true ↔ p) → ¬ p → b = false := by
    intro b p h hp
    cases b
    · rfl
    · exact absurd (h.1 rfl) hp
  unfold escB
  by_cases h38 : c = 38
  · exact .inl ⟨k38.2 h38, by rw [if_pos h38]⟩
  by_cases h39 : c = 39
  · exact .inr (.inl ⟨no k38 h38, k39.2 h39, by rw [if_neg h38, if_pos h39]⟩)
  by_cases h60 : c = 60
  · exact .inr (.inr (.inl ⟨no k38 h38, no k39 h39, k60.2 h60, by rw [if_neg h38, if_neg h39, if_pos h60]⟩))
  by_cases h62 : c = 62
  · exact .inr (.inr (.inr (.inl ⟨no k38 h38, no k39 h39, no k60 h60, k62.2 h62, by rw [if_neg h38, if_neg h39, if_neg h60, if_pos h62]⟩)))
  by_cases h34 : c = 34
  · exact .inr (.inr (.inr (.inr (.inl ⟨no k38 h38, no k39 h39, no k60 h60, no k62 h62, k34.2 h34, by rw [if_neg h38, if_neg h39, if_neg h60, if_neg h62, if_pos h34]⟩))))
  · exact .inr (.inr (.inr (.inr (.inr ⟨no k38 h38, no k39 h39, no k60 h60, no k62 h62, no k34 h34, by rw [if_neg h38, if_neg h39, if_neg h60, if_neg h62, if_neg h34]⟩))))

end Go.Proofs.Ytfiekgaopdkflaa
