/-
  DERIVED (a prover's text, seat b6604248a). THE PLAIN LAWS: what 'dropLineEndCRs' keeps of a list of bytes, told by recursion; the cut at the first CR LF; the split at a line feed. No Go in sight but for the shelf's 'Lib.index', 'Lib.hasSuffix'.
-/
import Derived.Lib.IndexMore
import Derived.Lib.Bytes
import Derived.Lib.Strings
namespace Go.Proofs.Qxb6604248a.Crs

/-- The bytes that are kept: all but each 13 that stands right before a 10 or last. -/
def keep : List Int → List Int
  | [] => []
  | c :: l => if c = 13 ∧ l.headD 10 = 10 then keep l else c :: keep l

/-- A last 13 is left out. -/
def trim13 : List Int → List Int
  | [] => []
  | c :: l => if l = [] ∧ c = 13 then [] else c :: trim13 l

def idx (ys : List Int) : Int := Lib.index (Lib.bytesOf ys) [13, 10]

theorem byteEq {z : Int} (h0 : 0 ≤ z) (h1 : z < 256) (q : Nat) (hq : q < 256) : (UInt8.ofNat q == UInt8.ofNat z.toNat) = decide (z = q) := by
  rw [Bool.eq_iff_iff]
  simp
  constructor
  · intro h
    have := congrArg UInt8.toNat h
    simp at this
    omega
  · rintro rfl; rfl

theorem pre_cons (c : Int) (l : List Int) (hc : 0 ≤ c ∧ c < 256) (hl : ∀ z ∈ l, 0 ≤ z ∧ z < 256) :
    ([13, 10] : List UInt8).isPrefixOf (Lib.bytesOf (c :: l)) = decide (c = 13 ∧ l.head? = some 10) := by
  have e13 := byteEq hc.1 hc.2 13 (by omega)
  cases l with
  | nil => simp [Lib.bytesOf, List.isPrefixOf]
  | cons d l =>
    have hd := hl d (by simp)
    have e10 := byteEq hd.1 hd.2 10 (by omega)
    simp only [Lib.bytesOf, List.map_cons, List.isPrefixOf, Bool.and_true]
    rw [show (13 : UInt8) = UInt8.ofNat 13 from rfl, show (10 : UInt8) = UInt8.ofNat 10 from rfl, e13, e10]
    simp

theorem idx_cons (c : Int) (l : List Int) (hc : 0 ≤ c ∧ c < 256) (hl : ∀ z ∈ l, 0 ≤ z ∧ z < 256) :
    idx (c :: l) = if c = 13 ∧ l.head? = some 10 then 0 else if idx l = -1 then -1 else idx l + 1 := by
  have h := pre_cons c l hc hl
  unfold idx
  have e : Lib.bytesOf (c :: l) = UInt8.ofNat c.toNat :: Lib.bytesOf l := rfl
  rw [e] at h ⊢
  rw [Lib.index, h]
  simp only [decide_eq_true_eq, beq_iff_eq]

theorem idx_spec : ∀ ys : List Int, (∀ z ∈ ys, 0 ≤ z ∧ z < 256) →
    (idx ys = -1 ∧ keep ys = trim13 ys) ∨ ∃ i : Nat, idx ys = i ∧ i + 2 ≤ ys.length ∧ keep ys = ys.take i ++ 10 :: keep (ys.drop (i + 2))
  | [], _ => Or.inl ⟨rfl, rfl⟩
  | c :: l, h => by
    have hc := h c (by simp)
    have hl : ∀ z ∈ l, 0 ≤ z ∧ z < 256 := fun z hz => h z (by simp [hz])
    have ih := idx_spec l hl
    rw [idx_cons c l hc hl]
    by_cases e : c = 13 ∧ l.head? = some 10
    · obtain ⟨rfl, e⟩ := e
      match l, e with
      | d :: l, e =>
        simp at e
        subst e
        refine Or.inr ⟨0, by simp, by simp, ?_⟩
        simp [keep]
    · rw [if_neg e]
      have hk : l ≠ [] → keep (c :: l) = c :: keep l := by
        intro hne
        rw [keep, if_neg]
        rintro ⟨rfl, h2⟩
        apply e
        refine ⟨rfl, ?_⟩
        cases l with
        | nil => exact absurd rfl hne
        | cons d l => simpa using h2
      rcases ih with ⟨a, b⟩ | ⟨i, a, b, d⟩
      · refine Or.inl ⟨by rw [if_pos a], ?_⟩
        by_cases hne : l = []
        · subst hne
          simp [keep, trim13]
        · rw [hk hne, b, trim13, if_neg (by simp [hne])]
      · refine Or.inr ⟨i + 1, by rw [if_neg (by omega), a]; simp, by simp; omega, ?_⟩
        rw [hk (by rintro rfl; simp at b), d]
        simp

theorem trim13_append : ∀ (a l : List Int), a.getLast? ≠ some 13 → trim13 (a ++ l) = a ++ trim13 l
  | [], l, _ => by simp
  | [c], l, h => by
    simp at h
    simp [trim13, h]
  | c :: d :: a, l, h => by
    have ih := trim13_append (d :: a) l (by simpa using h)
    simp only [List.cons_append] at ih ⊢
    rw [trim13, if_neg (by simp), ih]

theorem suffix13 : ∀ ys : List Int, (∀ z ∈ ys, 0 ≤ z ∧ z < 256) →
    Lib.hasSuffix (Lib.bytesOf ys) [13] = decide (ys.getLast? = some 13)
  | ys, h => by
    unfold Lib.hasSuffix
    rw [Bool.eq_iff_iff, List.isSuffixOf_iff_suffix, decide_eq_true_eq]
    rcases List.eq_nil_or_concat ys with rfl | ⟨l, c, rfl⟩
    · simp [Lib.bytesOf]
    · have hc := h c (by simp)
      have e := byteEq hc.1 hc.2 13 (by omega)
      have hl : Lib.bytesOf (l ++ [c]) = Lib.bytesOf l ++ [UInt8.ofNat c.toNat] := by simp [Lib.bytesOf]
      rw [List.concat_eq_append, hl, List.getLast?_append]
      simp only [List.getLast?_singleton, Option.some_or, Option.some.injEq]
      constructor
      · rintro ⟨t, ht⟩
        have := List.append_inj_right' ht rfl
        simp at this
        rw [show (13 : UInt8) = UInt8.ofNat 13 from rfl] at this
        rw [this] at e
        simpa using e.symm
      · rintro rfl
        exact ⟨Lib.bytesOf l, rfl⟩

theorem trim13_eq : ∀ ys : List Int, trim13 ys = if ys.getLast? = some 13 then ys.take (ys.length - 1) else ys
  | [] => rfl
  | [c] => by simp [trim13]
  | c :: d :: l => by
    rw [trim13, if_neg (by simp), trim13_eq (d :: l)]
    simp only [List.getLast?_cons_cons, List.length_cons, Nat.add_sub_cancel]
    split <;> simp

/-- ON x, A LINE FEED, y. -/
theorem keep_split : ∀ (xs ys : List Int), keep (xs ++ 10 :: ys) = keep xs ++ 10 :: keep ys
  | [], ys => by simp [keep]
  | c :: xs, ys => by
    have ih := keep_split xs ys
    have hh : (xs ++ 10 :: ys).headD 10 = xs.headD 10 := by cases xs <;> rfl
    simp only [List.cons_append, keep, hh, ih]
    split <;> simp

theorem keep_length_le : ∀ xs : List Int, (keep xs).length ≤ xs.length
  | [] => Nat.le_refl _
  | c :: l => by
    have ih := keep_length_le l
    rw [keep]
    split <;> simp <;> omega

theorem keep_mem : ∀ (xs : List Int) (z : Int), z ∈ keep xs → z ∈ xs
  | [], z, h => h
  | c :: l, z, h => by
    rw [keep] at h
    split at h
    · exact List.mem_cons_of_mem _ (keep_mem l z h)
    · rcases List.mem_cons.1 h with rfl | h
      · simp
      · exact List.mem_cons_of_mem _ (keep_mem l z h)

/-- One step of the model's own loop. -/
theorem keep_drop (xs : List Int) (i : Nat) (h : i < xs.length) :
    keep (xs.drop i) = if xs.getD i 0 = 13 ∧ (i + 1 = xs.length ∨ xs.getD (i + 1) 0 = 10) then keep (xs.drop (i + 1)) else xs.getD i 0 :: keep (xs.drop (i + 1)) := by
  have e : xs.drop i = xs.getD i 0 :: xs.drop (i + 1) := by
    rw [List.drop_eq_getElem_cons h, List.getD_eq_getElem?_getD, List.getElem?_eq_getElem h]; rfl
  have hh : ((xs.drop (i + 1)).headD 10 = 10) ↔ (i + 1 = xs.length ∨ xs.getD (i + 1) 0 = 10) := by
    by_cases hl : i + 1 < xs.length
    · rw [List.drop_eq_getElem_cons hl, List.getD_eq_getElem?_getD, List.getElem?_eq_getElem hl]
      constructor
      · intro h; exact Or.inr h
      · rintro (h | h)
        · omega
        · exact h
    · rw [List.drop_eq_nil_of_le (by omega)]
      exact ⟨fun _ => Or.inl (by omega), fun _ => rfl⟩
  rw [e, keep]
  simp only [hh]

end Go.Proofs.Qxb6604248a.Crs
