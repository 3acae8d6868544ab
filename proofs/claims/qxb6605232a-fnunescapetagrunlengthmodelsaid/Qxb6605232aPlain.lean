/-
  DERIVED (a prover's text, seat b6605232a). THE PLAIN LAWS of the tag codec: what is written for a byte, a value, a tag, a list of tags; what is read back. No Go in sight but for the shelf's 'Lib.indexByte'.
-/
import Derived.Lib.Bytealg
import Derived.Lib.Strings
namespace Go.Proofs.Qxb6605232a.Tag

/-- The bytes that are written for one byte of a value. -/
def enc (c : UInt8) : List UInt8 :=
  if c = 59 then [92, 58] else if c = 32 then [92, 115] else if c = 92 then [92, 92] else if c = 13 then [92, 114] else if c = 10 then [92, 110] else [c]

/-- The byte that stands for a letter behind a backslash. -/
def dec (d : UInt8) : UInt8 := if d = 58 then 59 else if d = 115 then 32 else if d = 92 then 92 else if d = 114 then 13 else if d = 110 then 10 else d

def esc : List UInt8 → List UInt8
  | [] => []
  | c :: l => enc c ++ esc l

def unesc : List UInt8 → List UInt8
  | [] => []
  | [c] => if c = 92 then [] else [c]
  | c :: d :: l => if c = 92 then dec d :: unesc l else c :: unesc (d :: l)

def isRaw (c : UInt8) : Bool := c == 59 || c == 32 || c == 92 || c == 13 || c == 10

theorem esc_append : ∀ a b : List UInt8, esc (a ++ b) = esc a ++ esc b
  | [], b => rfl
  | c :: a, b => by simp only [List.cons_append, esc, esc_append a b, List.append_assoc]

theorem esc_one (c : UInt8) : esc [c] = enc c := by simp [esc]

theorem enc_length (c : UInt8) : (enc c).length = 1 + if isRaw c then 1 else 0 := by
  unfold enc isRaw
  repeat' split
  all_goals simp_all

theorem enc_length_le (c : UInt8) : (enc c).length ≤ 2 := by
  rw [enc_length]; split <;> omega

def countRaw : List UInt8 → Nat
  | [] => 0
  | c :: l => (if isRaw c then 1 else 0) + countRaw l

theorem countRaw_append : ∀ a b : List UInt8, countRaw (a ++ b) = countRaw a + countRaw b
  | [], b => by simp [countRaw]
  | c :: a, b => by simp only [List.cons_append, countRaw, countRaw_append a b]; omega

theorem esc_length : ∀ l : List UInt8, (esc l).length = l.length + countRaw l
  | [] => rfl
  | c :: l => by
    simp only [esc, List.length_append, enc_length, esc_length l, countRaw, List.length_cons]; omega

theorem countRaw_le : ∀ l : List UInt8, countRaw l ≤ l.length
  | [] => Nat.le_refl _
  | c :: l => by
    have := countRaw_le l
    simp only [countRaw, List.length_cons]
    split <;> omega

theorem unesc_plain (c : UInt8) (l : List UInt8) (h : c ≠ 92) : unesc (c :: l) = c :: unesc l := by
  cases l with
  | nil => simp [unesc, h]
  | cons d l => simp [unesc, h]

theorem unesc_slash (d : UInt8) (l : List UInt8) : unesc (92 :: d :: l) = dec d :: unesc l := by simp [unesc]

theorem unesc_enc (c : UInt8) (l : List UInt8) : unesc (enc c ++ l) = c :: unesc l := by
  unfold enc
  repeat' split
  all_goals first
    | (subst c; rw [List.cons_append, List.cons_append, List.nil_append, unesc_slash]; rfl)
    | (rw [List.cons_append, List.nil_append, unesc_plain]; assumption)

theorem unesc_esc : ∀ l : List UInt8, unesc (esc l) = l
  | [] => rfl
  | c :: l => by rw [esc, unesc_enc, unesc_esc l]

theorem enc_clean (c x : UInt8) (h : x ∈ enc c) : x ≠ 59 ∧ x ≠ 32 ∧ x ≠ 13 ∧ x ≠ 10 := by
  unfold enc at h
  repeat' split at h
  all_goals simp at h
  all_goals first
    | (rcases h with rfl | rfl <;> decide)
    | (subst h; decide)
    | (subst h; refine ⟨?_, ?_, ?_, ?_⟩ <;> assumption)

theorem esc_clean : ∀ (l : List UInt8) (x : UInt8), x ∈ esc l → x ≠ 59 ∧ x ≠ 32 ∧ x ≠ 13 ∧ x ≠ 10
  | [], x, h => by cases h
  | c :: l, x, h => by
    rcases List.mem_append.1 h with h | h
    · exact enc_clean c x h
    · exact esc_clean l x h

theorem unesc_length_le : ∀ l : List UInt8, (unesc l).length ≤ l.length
  | [] => Nat.le_refl _
  | [c] => by unfold unesc; split <;> simp
  | c :: d :: l => by
    have h1 := unesc_length_le l
    have h2 := unesc_length_le (d :: l)
    unfold unesc
    split
    · simp; omega
    · simp at h2 ⊢; omega

theorem unesc_none : ∀ l : List UInt8, (92 : UInt8) ∉ l → unesc l = l
  | [], _ => rfl
  | c :: l, h => by
    rw [unesc_plain c l (fun e => h (by simp [e])), unesc_none l (fun e => h (by simp [e]))]

/-- A run of backslashes, two by two. -/
theorem unesc_run : ∀ (q : Nat) (l : List UInt8), unesc (List.replicate (2 * q) 92 ++ l) = List.replicate q 92 ++ unesc l
  | 0, l => by simp
  | q + 1, l => by
    have e : 2 * (q + 1) = 2 * q + 1 + 1 := by omega
    rw [e, List.replicate_succ, List.replicate_succ, List.cons_append, List.cons_append, unesc_slash, unesc_run q l, List.replicate_succ, List.cons_append]
    rfl

/-! ### strings.IndexByte in the two tables -/

theorem ix_raw (c : UInt8) : (Lib.indexByte [59, 32, 92, 13, 10] c = -1 ∧ isRaw c = false ∧ enc c = [c]) ∨
    ∃ k : Nat, Lib.indexByte [59, 32, 92, 13, 10] c = k ∧ k < 5 ∧ isRaw c = true ∧ enc c = [92, ([58, 115, 92, 114, 110] : List UInt8).getD k 0] := by
  by_cases h1 : c = 59
  · subst h1; exact Or.inr ⟨0, by decide, by decide, by decide, by decide⟩
  by_cases h2 : c = 32
  · subst h2; exact Or.inr ⟨1, by decide, by decide, by decide, by decide⟩
  by_cases h3 : c = 92
  · subst h3; exact Or.inr ⟨2, by decide, by decide, by decide, by decide⟩
  by_cases h4 : c = 13
  · subst h4; exact Or.inr ⟨3, by decide, by decide, by decide, by decide⟩
  by_cases h5 : c = 10
  · subst h5; exact Or.inr ⟨4, by decide, by decide, by decide, by decide⟩
  refine Or.inl ⟨?_, by simp [isRaw, h1, h2, h3, h4, h5], by simp [enc, h1, h2, h3, h4, h5]⟩
  simp [Lib.indexByte, Ne.symm h1, Ne.symm h2, Ne.symm h3, Ne.symm h4, Ne.symm h5]

theorem ix_esc (d : UInt8) : (Lib.indexByte [58, 115, 92, 114, 110] d = -1 ∧ dec d = d) ∨
    ∃ k : Nat, Lib.indexByte [58, 115, 92, 114, 110] d = k ∧ k < 5 ∧ dec d = ([59, 32, 92, 13, 10] : List UInt8).getD k 0 := by
  by_cases h1 : d = 58
  · subst h1; exact Or.inr ⟨0, by decide, by decide, by decide⟩
  by_cases h2 : d = 115
  · subst h2; exact Or.inr ⟨1, by decide, by decide, by decide⟩
  by_cases h3 : d = 92
  · subst h3; exact Or.inr ⟨2, by decide, by decide, by decide⟩
  by_cases h4 : d = 114
  · subst h4; exact Or.inr ⟨3, by decide, by decide, by decide⟩
  by_cases h5 : d = 110
  · subst h5; exact Or.inr ⟨4, by decide, by decide, by decide⟩
  refine Or.inl ⟨?_, by simp [dec, h1, h2, h3, h4, h5]⟩
  simp [Lib.indexByte, Ne.symm h1, Ne.symm h2, Ne.symm h3, Ne.symm h4, Ne.symm h5]

/-! ### A list of tags -/

/-- What is written for one tag: its key and value; 'first': '@' ahead, else ';'. -/
def tagB (first : Bool) (key val : List UInt8) : List UInt8 := (if first then 64 else 59) :: (key ++ if val = [] then [] else 61 :: esc val)

/-- .. for the first k tags, told by index. -/
def tagsTo (key val : Nat → List UInt8) : Nat → List UInt8
  | 0 => []
  | k + 1 => tagsTo key val k ++ tagB (k == 0) (key k) (val k)

/-- The length that the law reckons for one tag, without the '@' or ';'. -/
def tagLen (key val : List UInt8) : Nat := key.length + if val = [] then 0 else 1 + val.length + countRaw val

def lensTo (key val : Nat → List UInt8) : Nat → Nat
  | 0 => 0
  | k + 1 => lensTo key val k + tagLen (key k) (val k)

theorem tagB_length (f : Bool) (key val : List UInt8) : (tagB f key val).length = 1 + tagLen key val := by
  unfold tagB tagLen
  simp only [List.length_cons, List.length_append]
  split
  · simp; omega
  · simp [esc_length]; omega

theorem tagsTo_length (key val : Nat → List UInt8) : ∀ k, (tagsTo key val k).length = k + lensTo key val k
  | 0 => rfl
  | k + 1 => by
    simp only [tagsTo, lensTo, List.length_append, tagB_length, tagsTo_length key val k]; omega

theorem tagsTo_mono (key val : Nat → List UInt8) : ∀ {k n : Nat}, k ≤ n → (tagsTo key val k).length ≤ (tagsTo key val n).length := by
  intro k n h
  induction n with
  | zero => have : k = 0 := by omega
            subst this; exact Nat.le_refl _
  | succ n ih =>
    by_cases e : k = n + 1
    · subst e; exact Nat.le_refl _
    · have := ih (by omega)
      simp only [tagsTo, List.length_append]; omega

theorem tagsTo_head (key val : Nat → List UInt8) : ∀ {k : Nat}, 0 < k → (tagsTo key val k).getD 0 0 = 64 ∧ 0 < (tagsTo key val k).length := by
  intro k h
  induction k with
  | zero => omega
  | succ k ih =>
    by_cases e : k = 0
    · subst e
      simp [tagsTo, tagB]
    · obtain ⟨h1, h2⟩ := ih (by omega)
      refine ⟨?_, by simp only [tagsTo, List.length_append]; omega⟩
      rw [tagsTo, List.getD_eq_getElem?_getD, List.getElem?_append_left h2, ← List.getD_eq_getElem?_getD]; exact h1

end Go.Proofs.Qxb6605232a.Tag
