/-
  DERIVED (a prover's text, seat b6605232a). appendTags: onto nil or onto a row of the call's own.
-/
import Derived.Test.Qxb6605232aRows
import Derived.WalkKit
import Derived.ProofKit
import Derived.OpenShut
import Derived.BigQuiet
import Derived.Deep.QuietTactic
import Derived.WalkSmall
import Derived.Lib.AppendStr
import Derived.Test.Qxb6605232aShelf
import Derived.Test.Qxb6605232aPlain
namespace Go.Proofs.Qxb6605232a.Tag
open Go.ChangeShapes Go.WideShapes Go.ChangeAt Go.RowKit
set_option linter.unusedVariables false

theorem info5 : (Try.prog.info? 5).map (fun i => (i.zero, i.size, i.bytes)) = some (some (.int .u8 0), 1, 1) := by kernel_rfl

/-- A slice of bytes of the call's own (from block 'base' on), or nil: it holds l. -/
def Own (w : World) (base : Nat) (v : Value) (l : List UInt8) : Prop := w.ownsRow base 5 1 v l.length (Lib.byteCells l)

theorem byteCells_append (a b : List UInt8) : Lib.byteCells (a ++ b) = Lib.byteCells a ++ Lib.byteCells b := by simp [Lib.byteCells]

theorem Own.grow {w w' : World} {base : Nat} {v v' : Value} {a b : List UInt8} {n m : Nat} {news : List Value} (h : w'.ownsRow base 5 1 v' (n + m) (Lib.byteCells a ++ news)) (hn : n = a.length) (hm : m = b.length) (hb : news = Lib.byteCells b) : Own w' base v' (a ++ b) := by
  unfold Own
  rw [byteCells_append, List.length_append, ← hn, ← hm, ← hb]; exact h

/-- The tags that lie behind a slice: element i's key and value. -/
def TagsAt (w : World) (tb to n : Nat) (K V : Nat → ByteArray) : Prop :=
  ∀ i, i < n → w.cell? ⟨tb, to + i * 2, none⟩ = some (.string (K i)) ∧ w.cell? ⟨tb, to + i * 2 + 1, none⟩ = some (.string (V i))

def kOf (K : Nat → ByteArray) (i : Nat) : List UInt8 := (K i).data.toList

/-- The loop's own variable: a tag in a block of its own. -/
def TV (w : World) (tv : Nat) (kk vv : ByteArray) : Prop := w.heap[tv]? = some (.cells #[.string kk, .string vv] 29 (0, 0))

theorem TV.cell0 {w : World} {tv : Nat} {kk vv : ByteArray} (h : TV w tv kk vv) : w.cell? ⟨tv, 0, none⟩ = some (.string kk) := by
  rw [cell_of_row w tv 0 _ 29 (0, 0) h]; rfl
theorem TV.cell1 {w : World} {tv : Nat} {kk vv : ByteArray} (h : TV w tv kk vv) : w.cell? ⟨tv, 1, none⟩ = some (.string vv) := by
  rw [cell_of_row w tv 1 _ 29 (0, 0) h]; rfl
theorem TV.lt {w : World} {tv : Nat} {kk vv : ByteArray} (h : TV w tv kk vv) : tv < w.heap.size := (Array.getElem?_eq_some_iff.1 h).1

theorem TV.grown {w w' : World} {base tv : Nat} {kk vv : ByteArray} {v : Value} {l : List UInt8} (h : TV w tv kk vv) (ho : Own w base v l) (hg : w.grownBy w' v.ownBlock) : TV w' tv kk vv := by
  have hne : some tv ≠ v.ownBlock := by
    rcases ho.2 with ⟨rfl, _⟩ | ⟨g, cap, cur, rfl, _, hgg, _⟩
    · simp [Value.ownBlock]
    · simp only [Value.ownBlock]
      intro e
      cases e
      unfold TV at h
      rw [h] at hgg
      simp at hgg
  unfold TV
  rw [hg.block tv h.lt hne]; exact h

theorem TV.alloc {w : World} {tv : Nat} {kk vv : ByteArray} (h : TV w tv kk vv) (o : Obj) : TV (w.alloc o) tv kk vv := by
  unfold TV
  rw [Below.heap_alloc w o tv h.lt]; exact h

theorem TV.new (w : World) (kk vv : ByteArray) : TV (w.alloc (.cells #[.string kk, .string vv] 29)) w.heap.size kk vv := heap_alloc_new w _

/-- 'append(dst, x, ..)' of bytes written out: dst nil or the call's own; the loop's own variable stays. -/
theorem wpList_app_lit {w : World} {ops : Array Oper} {rest : List Oper} {o : Oper} {a : Act} {Q : Exit → Act → World → Prop} (hgd : o.guard = none) (s x : Operand)
    (hop : o.op = .call { callee := .builtin .append, args := #[s, x], argTypes := #[24, 24] }) (base tv : Nat) (kk vv : ByteArray) (v : Value) (l b : List UInt8) (hs : a.eval s = v) (ho : Own w base v l) (htv : TV w tv kk vv)
    (cs : Array Value) (g n : Nat) (hg : g = w.heap.size) (hx : a.eval x = .slice (some ⟨g, 0, none⟩) n n) (hcs : cs.toList = Lib.byteCells b) (hn : n = b.length) (hlen : l.length + b.length ≤ 20000000) (hbs : base ≤ w.heap.size) (w0 : World) (hb : Below base w0 w)
    (h : ∀ v' w', Hid (Own w' base v' (l ++ b)) → Hid (TV w' tv kk vv) → w'.cell? ⟨tv, 0, none⟩ = some (.string kk) → w'.cell? ⟨tv, 1, none⟩ = some (.string vv) → Below base w0 w' → base ≤ w'.heap.size → wpList Try.prog ops Q rest (a.put o.dst v') w') :
    wpList Try.prog ops Q (o :: rest) a (w.alloc (.cells cs 5)) := by
  subst hg
  obtain ⟨i0, hi, hz0, hz1, hz2⟩ := info_parts info5
  have hown : (w.alloc (.cells cs 5)).ownsRow base 5 1 v l.length (Lib.byteCells l) := World.ownsRow.alloc ho _
  refine wpList_append_own _ hgd s x 24 hop base 5 i0 (.int .u8 0) 1 1 Try.underlying24 hi hz0 hz1 hz2 rfl (by decide) v l.length (Lib.byteCells l) hs hown ⟨w.heap.size, 0, none⟩ n n (Lib.byteCells b) hx (by rw [Lib.byteCells_length, hn]; omega) ?_ ?_ (by unfold maxLen; omega) (by omega) (by simp; omega) ?_
  · intro j u hj
    rw [add_plain, cell_of_row (w.alloc (.cells cs 5)) w.heap.size (0 + j) cs 5 (0, 0) (heap_alloc_new w _), Nat.zero_add, ← Array.getElem?_toList, hcs]; exact hj
  · intro u hu
    simp only [Lib.byteCells, List.mem_map] at hu
    obtain ⟨q, _, rfl⟩ := hu; rfl
  · intro v' w' h1 h2 _
    have hT : TV w' tv kk vv := (htv.alloc _).grown hown h2
    have hB : Below base w0 w' := (hb.alloc hbs _).grown h2 (by simp; omega) (fun k hk => (World.ownsRow.lt hown k hk).1)
    refine h v' w' (Own.grow (w := w) (v := v) h1 rfl hn rfl) hT hT.cell0 hT.cell1 hB ?_
    have := h2.size
    simp at this; omega

theorem wpList_app_last {w : World} {ops : Array Oper} {rest : List Oper} {o : Oper} {a : Act} {Q : Exit → Act → World → Prop} (hgd : o.guard = none) (s x : Operand)
    (hop : o.op = .call { callee := .builtin .append, args := #[s, x], argTypes := #[24, 24] }) (base : Nat) (v : Value) (l b : List UInt8) (hs : a.eval s = v) (ho : Own w base v l)
    (cs : Array Value) (g n : Nat) (hg : g = w.heap.size) (hx : a.eval x = .slice (some ⟨g, 0, none⟩) n n) (hcs : cs.toList = Lib.byteCells b) (hn : n = b.length) (hlen : l.length + b.length ≤ 20000000) (hbs : base ≤ w.heap.size) (w0 : World) (hb : Below base w0 w)
    (h : ∀ v' w', Hid (Own w' base v' (l ++ b)) → Below base w0 w' → base ≤ w'.heap.size → wpList Try.prog ops Q rest (a.put o.dst v') w') :
    wpList Try.prog ops Q (o :: rest) a (w.alloc (.cells cs 5)) := by
  subst hg
  obtain ⟨i0, hi, hz0, hz1, hz2⟩ := info_parts info5
  have hown : (w.alloc (.cells cs 5)).ownsRow base 5 1 v l.length (Lib.byteCells l) := World.ownsRow.alloc ho _
  refine wpList_append_own _ hgd s x 24 hop base 5 i0 (.int .u8 0) 1 1 Try.underlying24 hi hz0 hz1 hz2 rfl (by decide) v l.length (Lib.byteCells l) hs hown ⟨w.heap.size, 0, none⟩ n n (Lib.byteCells b) hx (by rw [Lib.byteCells_length, hn]; omega) ?_ ?_ (by unfold maxLen; omega) (by omega) (by simp; omega) ?_
  · intro j u hj
    rw [add_plain, cell_of_row (w.alloc (.cells cs 5)) w.heap.size (0 + j) cs 5 (0, 0) (heap_alloc_new w _), Nat.zero_add, ← Array.getElem?_toList, hcs]; exact hj
  · intro u hu
    simp only [Lib.byteCells, List.mem_map] at hu
    obtain ⟨q, _, rfl⟩ := hu; rfl
  · intro v' w' h1 h2 _
    have hB : Below base w0 w' := (hb.alloc hbs _).grown h2 (by simp; omega) (fun k hk => (World.ownsRow.lt hown k hk).1)
    refine h v' w' (Own.grow (w := w) (v := v) h1 rfl hn rfl) hB ?_
    have := h2.size
    simp at this; omega

/-- 'append(dst, s...)' of a string's bytes. -/
theorem wpList_app_str {w : World} {ops : Array Oper} {rest : List Oper} {o : Oper} {a : Act} {Q : Exit → Act → World → Prop} (hgd : o.guard = none) (sl x : Operand)
    (hop : o.op = .call { callee := .builtin .append, args := #[sl, x], argTypes := #[24, 9] }) (base tv : Nat) (kk vv : ByteArray) (v : Value) (l : List UInt8) (s : ByteArray) (hs : a.eval sl = v) (ho : Own w base v l) (htv : TV w tv kk vv)
    (hx : a.eval x = .string s) (hlen : l.length + s.size ≤ 20000000) (hbs : base ≤ w.heap.size) (w0 : World) (hb : Below base w0 w)
    (h : ∀ v' w', Hid (Own w' base v' (l ++ s.data.toList)) → Hid (TV w' tv kk vv) → w'.cell? ⟨tv, 0, none⟩ = some (.string kk) → w'.cell? ⟨tv, 1, none⟩ = some (.string vv) → Below base w0 w' → base ≤ w'.heap.size → wpList Try.prog ops Q rest (a.put o.dst v') w') :
    wpList Try.prog ops Q (o :: rest) a w := by
  obtain ⟨i0, hi, hz0, hz1, hz2⟩ := info_parts info5
  refine Lib.wpList_append_own_string _ hgd sl x 24 9 hop base 5 i0 Try.underlying24 Try.underlying9 hi hz0 hz1 hz2 v l.length (Lib.byteCells l) hs ho s hx (by unfold maxLen; omega) (by omega) hbs ?_
  intro v' w' h1 h2 _
  have hT : TV w' tv kk vv := htv.grown ho h2
  have hB : Below base w0 w' := hb.grown h2 hbs (fun k hk => (World.ownsRow.lt ho k hk).1)
  refine h v' w' (Own.grow (w := w) (v := v) h1 rfl (by rw [Array.length_toList]; rfl) rfl) hT hT.cell0 hT.cell1 hB ?_
  have := h2.size
  omega

theorem size_toList (s : ByteArray) : s.data.toList.length = s.size := by rw [Array.length_toList]; rfl

theorem esc_take_le (l : List UInt8) (j : Nat) : (esc (l.take j)).length ≤ (esc l).length := by
  have : esc l = esc (l.take j) ++ esc (l.drop j) := by rw [← esc_append, List.take_append_drop]
  rw [this, List.length_append]; omega

theorem take_snoc (s : ByteArray) (k : Nat) (h : k < s.size) : s.data.toList.take (k + 1) = s.data.toList.take k ++ [s[k]] := by
  rw [List.take_succ_eq_append_getElem (by rw [size_toList]; exact h)]; rfl

/-- ONE ROUND's bytes within the bound. -/
theorem round_bound (dl : List UInt8) (K V : Nat → ByteArray) (k n : Nat) (hlt : k < n) (hL : dl.length + (tagsTo (kOf K) (kOf V) n).length ≤ 10000000) :
    (dl ++ tagsTo (kOf K) (kOf V) k).length + 1 + (K k).size ≤ 10000000 ∧ ((V k).data.toList ≠ [] → (dl ++ tagsTo (kOf K) (kOf V) k).length + 1 + (K k).size + 1 + (esc (V k).data.toList).length ≤ 10000000) := by
  have h := tagsTo_mono (kOf K) (kOf V) (show k + 1 ≤ n from hlt)
  have e : (tagsTo (kOf K) (kOf V) (k + 1)).length = (tagsTo (kOf K) (kOf V) k).length + (tagB (k == 0) (kOf K k) (kOf V k)).length := by rw [tagsTo, List.length_append]
  have e2 : (tagB (k == 0) (kOf K k) (kOf V k)).length = 1 + ((K k).size + (if (V k).data.toList = [] then [] else 61 :: esc (V k).data.toList).length) := by
    show (_ :: (kOf K k ++ _)).length = _
    rw [List.length_cons, List.length_append, kOf, size_toList, kOf]; omega
  rw [List.length_append]
  refine ⟨by omega, fun hne => ?_⟩
  rw [if_neg hne, List.length_cons] at e2
  omega

theorem toByte (z : UInt8) : ((z.toNat : Int)).toNat.toUInt8 = z := by
  simp

theorem raw_no (z : UInt8) (w : World) (h : Lib.indexByte [59, 32, 92, 13, 10] z = -1) :
    Calls Try.prog 22 #[.string ⟨#[59, 32, 92, 13, 10]⟩, .int .u8 (z.toNat : Int)] w fun e w' => e = .returned (.int .i64 (-1)) ∧ w' = w := by
  refine (Try.strings_IndexByte ⟨#[59, 32, 92, 13, 10]⟩ (z.toNat : Int) w).mono ?_
  rintro e w' ⟨rfl, rfl⟩
  rw [toByte]
  exact ⟨by rw [← h], rfl⟩

theorem raw_yes (z : UInt8) (k : Nat) (w : World) (h : Lib.indexByte [59, 32, 92, 13, 10] z = k) :
    Calls Try.prog 22 #[.string ⟨#[59, 32, 92, 13, 10]⟩, .int .u8 (z.toNat : Int)] w fun e w' => e = .returned (.int .i64 k) ∧ w' = w := by
  refine (Try.strings_IndexByte ⟨#[59, 32, 92, 13, 10]⟩ (z.toNat : Int) w).mono ?_
  rintro e w' ⟨rfl, rfl⟩
  rw [toByte]
  exact ⟨by rw [← h], rfl⟩

set_option maxHeartbeats 4000000 in
theorem append_any (base tb to n c : Nat) (v0 : Value) (dl : List UInt8) (K V : Nat → ByteArray) (w : World) (ht : TagsAt w tb to n K V) (hown : Own w base v0 dl) (htb : tb < base) (hb : base ≤ w.heap.size)
    (hlen : dl.length + (tagsTo (kOf K) (kOf V) n).length ≤ 10000000) (hn : n ≤ 1000000) :
    Calls Try.prog 19 #[v0, .slice (some ⟨tb, to, none⟩) n c] w fun e w' => ∃ v', e = .returned v' ∧ Own w' base v' (dl ++ tagsTo (kOf K) (kOf V) n ++ [32]) ∧ Below base w w' := by
  have HT : Hid (TagsAt w tb to n K V) := ht
  have HO : Hid (Own w base v0 dl) := hown
  have HL : Hid (dl.length + (tagsTo (kOf K) (kOf V) n).length ≤ 10000000) := hlen
  clear ht hown hlen
  go_enter Try.func19, Try.ntmps19
  go_wp2
  go_loopw [0, 11] (fun v i wr => ∃ (k : Nat), k ≤ n ∧ i = .int .i64 k ∧ Hid (Own wr base v (dl ++ tagsTo (kOf K) (kOf V) k)) ∧ Below base w wr) (fun _ i _ => n - (intOf i).toNat)
  case atStart => exact ⟨0, Nat.zero_le _, rfl, by simpa [tagsTo] using HO, Below.refl _ _⟩
  case round =>
    obtain ⟨k, hk, rfl, HOr, hbr⟩ := hrel
    have hbs : base ≤ wr.heap.size := by have := hbr.size; omega
    by_cases hlt : k < n
    · obtain ⟨hc0, hc1⟩ := HT.out k hlt
      obtain ⟨hb1, hb2⟩ := round_bound dl K V k n hlt HL.out
      obtain ⟨kk, hkk⟩ : ∃ kk, kk = K k := ⟨_, rfl⟩
      obtain ⟨vv, hvv⟩ : ∃ vv, vv = V k := ⟨_, rfl⟩
      have HKK : Hid (kOf K k = kk.data.toList) := show _ = _ by rw [hkk]; rfl
      have HVV : Hid (kOf V k = vv.data.toList) := show _ = _ by rw [hvv]; rfl
      have hd0 : wr.cell? ⟨tb, to + k * 2, none⟩ = some (.string kk) := by rw [hbr.cell (p := ⟨tb, to + k * 2, none⟩) htb, hkk]; exact hc0
      have hd1 : wr.cell? ⟨tb, to + k * 2 + 1, none⟩ = some (.string vv) := by rw [hbr.cell (p := ⟨tb, to + k * 2 + 1, none⟩) htb, hvv]; exact hc1
      rw [← hkk, ← hvv] at hb2
      rw [← hkk] at hb1
      obtain ⟨acc, hacc⟩ : ∃ acc, acc = dl ++ tagsTo (kOf K) (kOf V) k := ⟨_, rfl⟩
      rw [← hacc] at hb1 hb2 HOr
      have HACC : Hid (acc = dl ++ tagsTo (kOf K) (kOf V) k) := hacc
      have HBN : Hid (vv.data.toList ≠ [] → acc.length + 1 + kk.size + 1 + (esc vv.data.toList).length ≤ 10000000) := hb2
      have hal : acc.length + 1 + kk.size ≤ 10000000 := hb1
      clear hc0 hc1 hkk hvv hb1 hb2 hacc
      obtain ⟨f, HF⟩ : ∃ f : UInt8, Hid (f = if k == 0 then 64 else 59) := ⟨_, rfl⟩
      have hbr0 : Below base w (wr.alloc (.cells #[.string kk, .string vv] 29)) := hbr.alloc hbs _
      have HO0 : Hid (Own (wr.alloc (.cells #[.string kk, .string vv] 29)) base _ acc) := World.ownsRow.alloc HOr.out _
      have HT0 : Hid (TV (wr.alloc (.cells #[.string kk, .string vv] 29)) wr.heap.size kk vv) := TV.new wr kk vv
      have hts : tagsTo (kOf K) (kOf V) (k + 1) = tagsTo (kOf K) (kOf V) k ++ (f :: (kk.data.toList ++ if vv.data.toList = [] then [] else 61 :: esc vv.data.toList)) := by
        rw [tagsTo, tagB, HKK.out, HVV.out, HF.out]
      have HTS : Hid (tagsTo (kOf K) (kOf V) (k + 1) = tagsTo (kOf K) (kOf V) k ++ (f :: (kk.data.toList ++ if vv.data.toList = [] then [] else 61 :: esc vv.data.toList))) := hts
      clear hts
      by_cases hE : vv.toList.isEmpty = true
      · have HE : Hid (vv.data.toList = []) := show _ = _ by rw [← Lib.toList_data]; simpa using hE
        go_wp2_with (first
          | (at_builtin; refine wpList_app_lit (w := wr.alloc (.cells #[.string kk, .string vv] 29)) rfl (.tmp 18) (.tmp 19) rfl base wr.heap.size kk vv u0 acc [f] rfl HO0.out HT0.out _ _ 1 (by simp) rfl (by rw [HF.out, if_pos (by simpa using ‹((k : Int) == 0) = true›)]; rfl) rfl (by simp; omega) (by simp; omega) w hbr0 ?_; intro v1 w1 HO1 HT1 hq0 hq1 hbr1 hbs1)
          | (at_builtin; refine wpList_app_lit (w := wr.alloc (.cells #[.string kk, .string vv] 29)) rfl (.tmp 21) (.tmp 22) rfl base wr.heap.size kk vv u0 acc [f] rfl HO0.out HT0.out _ _ 1 (by simp) rfl (by rw [HF.out, if_neg (by simpa using ‹((k : Int) == 0) = false›)]; rfl) rfl (by simp; omega) (by simp; omega) w hbr0 ?_; intro v1 w1 HO1 HT1 hq0 hq1 hbr1 hbs1)
          | (at_builtin; refine wpList_app_str rfl (.tmp 24) (.tmp 26) rfl base wr.heap.size kk vv v1 (acc ++ [f]) kk rfl HO1.out HT1.out rfl (by simp; omega) hbs1 w hbr1 ?_; intro v2 w2 HO2 HT2 hr0 hr1 hbr2 hbs2))
        all_goals
          go_roundw
          case rel => exact ⟨k + 1, by omega, by go_num, by rw [HTS.out, if_pos HE.out, List.append_nil, ← List.append_assoc, ← HACC.out, ← List.singleton_append, ← List.append_assoc]; exact HO2, hbr2⟩
          case measure => simp [intOf]; omega
      · have hE' : vv.toList.isEmpty = false := by simpa using hE
        have HE : Hid (vv.data.toList ≠ []) := show _ ≠ _ by rw [← Lib.toList_data]; simpa using hE
        clear hE
        have hbn := HBN.out HE.out
        go_wp2_with (first
          | (at_builtin; refine wpList_app_lit (w := wr.alloc (.cells #[.string kk, .string vv] 29)) rfl (.tmp 18) (.tmp 19) rfl base wr.heap.size kk vv u0 acc [f] rfl HO0.out HT0.out _ _ 1 (by simp) rfl (by rw [HF.out, if_pos (by simpa using ‹((k : Int) == 0) = true›)]; rfl) rfl (by simp; omega) (by simp; omega) w hbr0 ?_; intro v1 w1 HO1 HT1 hq0 hq1 hbr1 hbs1)
          | (at_builtin; refine wpList_app_lit (w := wr.alloc (.cells #[.string kk, .string vv] 29)) rfl (.tmp 21) (.tmp 22) rfl base wr.heap.size kk vv u0 acc [f] rfl HO0.out HT0.out _ _ 1 (by simp) rfl (by rw [HF.out, if_neg (by simpa using ‹((k : Int) == 0) = false›)]; rfl) rfl (by simp; omega) (by simp; omega) w hbr0 ?_; intro v1 w1 HO1 HT1 hq0 hq1 hbr1 hbs1)
          | (at_builtin; refine wpList_app_str rfl (.tmp 24) (.tmp 26) rfl base wr.heap.size kk vv v1 (acc ++ [f]) kk rfl HO1.out HT1.out rfl (by simp; omega) hbs1 w hbr1 ?_; intro v2 w2 HO2 HT2 hr0 hr1 hbr2 hbs2)
          | (at_builtin; refine wpList_app_lit (w := w2) rfl (.tmp 31) (.tmp 32) rfl base wr.heap.size kk vv v2 (acc ++ [f] ++ kk.data.toList) [61] rfl HO2.out HT2.out _ _ 1 rfl rfl (by rfl) rfl (by rw [List.length_append, List.length_append, size_toList]; simp; omega) hbs2 w hbr2 ?_; intro v3 w3 HO3 HT3 hs0 hs1 hbr3 hbs3))
        all_goals
          obtain ⟨pre, hpre⟩ : ∃ pre, pre = acc ++ [f] ++ kk.data.toList ++ [61] := ⟨_, rfl⟩
          have hpl : pre.length + (esc vv.data.toList).length ≤ 10000000 := by rw [hpre]; simp only [List.length_append, size_toList, List.length_singleton]; omega
          have HPRE : Hid (pre = acc ++ [f] ++ kk.data.toList ++ [61]) := hpre
          rw [← hpre] at HO3
          have HPL : Hid (pre.length + (esc vv.data.toList).length ≤ 10000000) := hpl
          have hvs : vv.size ≤ 10000000 := by rw [← size_toList vv]; have := esc_length vv.data.toList; omega
          clear hpre hpl hbn HO0 HO1 HO2 HT0 HT1 HT2 hbr0 hd0 hd1 hq0 hq1 hr0 hr1 hs0 hbr1 hbs1 hbr2 hbs2 HOr hbr
          generalize wr.heap.size = tv at *
          go_loopw [0, 7] (fun v j wj => ∃ (q : Nat), q ≤ vv.size ∧ j = .int .i64 q ∧ Hid (Own wj base v (pre ++ esc (vv.data.toList.take q))) ∧ Hid (TV wj tv kk vv) ∧ wj.cell? ⟨tv, 1, none⟩ = some (.string vv) ∧ Below base w wj ∧ base ≤ wj.heap.size) (fun _ j _ => vv.size - (intOf j).toNat)
          case atStart => exact ⟨0, Nat.zero_le _, rfl, by simpa [esc] using HO3, HT3, hs1, hbr3, hbs3⟩
          case round =>
            obtain ⟨q, hq, rfl, HOj, HTj, hcj, hbj, hbsj⟩ := hrel
            by_cases hlq : q < vv.size
            · have hsn := take_snoc vv q hlq
              obtain ⟨z, hz⟩ : ∃ z, z = vv[q] := ⟨_, rfl⟩
              have HZ : Hid (vv[q] = z) := hz.symm
              rw [← hz] at hsn
              have hes : esc (vv.data.toList.take (q + 1)) = esc (vv.data.toList.take q) ++ enc z := by rw [hsn, esc_append, esc_one]
              have hle : pre.length + (esc (vv.data.toList.take q)).length + 2 ≤ 20000000 := by
                have h1 := esc_take_le vv.data.toList q
                have h2 := HPL.out
                omega
              have HLE : Hid (pre.length + (esc (vv.data.toList.take q)).length + 2 ≤ 20000000) := hle
              clear hsn hz hle
              rcases ix_raw z with ⟨h1, h2, h3⟩ | ⟨j, h1, h2, h3, h4⟩
              · have hcon := raw_no z wr h1
                have HES : Hid (esc (vv.data.toList.take (q + 1)) = esc (vv.data.toList.take q) ++ [z]) := show _ = _ by rw [hes, h3]
                clear hes h1 h2 h3
                go_wp2_with fail
                rw [HZ.out]
                refine hcon.mono ?_
                rintro e w' ⟨rfl, hw⟩
                subst hw
                clear hcon
                go_wp2_with (at_builtin; refine wpList_app_lit (w := w') rfl (.tmp 53) (.tmp 58) rfl base tv kk vv u0 (pre ++ esc (vv.data.toList.take q)) [z] rfl HOj.out HTj.out _ _ 1 rfl rfl (by rw [HZ.out]; rfl) rfl (by have := HLE.out; simp only [List.length_append, List.length_singleton]; omega) hbsj w hbj ?_; intro v4 w4 HO4 HT4 ht0 ht1 hbr4 hbs4)
                go_roundw
                case rel => exact ⟨q + 1, by omega, by go_num, by rw [HES.out, ← List.append_assoc]; exact HO4, HT4, ht1, hbr4, hbs4⟩
                case measure => simp [intOf]; omega
              · have hcon := raw_yes z j wr h1
                clear h1 h3
                match j, h2, h4 with
                | 0, _, h4 =>
                  have HES : Hid (esc (vv.data.toList.take (q + 1)) = esc (vv.data.toList.take q) ++ [92, 58]) := show _ = _ by rw [hes, h4]; rfl
                  clear hes h4 h2
                  go_wp2_with fail
                  rw [HZ.out]
                  refine hcon.mono ?_
                  rintro e w' ⟨rfl, hw⟩
                  subst hw
                  clear hcon
                  go_wp2_with (at_builtin; refine wpList_app_lit (w := w') rfl (.tmp 48) (.tmp 51) rfl base tv kk vv u0 (pre ++ esc (vv.data.toList.take q)) [92, 58] rfl HOj.out HTj.out _ _ 2 rfl rfl (by rfl) rfl (by have := HLE.out; simp only [List.length_append, List.length_cons, List.length_nil]; omega) hbsj w hbj ?_; intro v4 w4 HO4 HT4 ht0 ht1 hbr4 hbs4)
                  go_roundw
                  case rel => exact ⟨q + 1, by omega, by go_num, by rw [HES.out, ← List.append_assoc]; exact HO4, HT4, ht1, hbr4, hbs4⟩
                  case measure => simp [intOf]; omega
                | 1, _, h4 =>
                  have HES : Hid (esc (vv.data.toList.take (q + 1)) = esc (vv.data.toList.take q) ++ [92, 115]) := show _ = _ by rw [hes, h4]; rfl
                  clear hes h4 h2
                  go_wp2_with fail
                  rw [HZ.out]
                  refine hcon.mono ?_
                  rintro e w' ⟨rfl, hw⟩
                  subst hw
                  clear hcon
                  go_wp2_with (at_builtin; refine wpList_app_lit (w := w') rfl (.tmp 48) (.tmp 51) rfl base tv kk vv u0 (pre ++ esc (vv.data.toList.take q)) [92, 115] rfl HOj.out HTj.out _ _ 2 rfl rfl (by rfl) rfl (by have := HLE.out; simp only [List.length_append, List.length_cons, List.length_nil]; omega) hbsj w hbj ?_; intro v4 w4 HO4 HT4 ht0 ht1 hbr4 hbs4)
                  go_roundw
                  case rel => exact ⟨q + 1, by omega, by go_num, by rw [HES.out, ← List.append_assoc]; exact HO4, HT4, ht1, hbr4, hbs4⟩
                  case measure => simp [intOf]; omega
                | 2, _, h4 =>
                  have HES : Hid (esc (vv.data.toList.take (q + 1)) = esc (vv.data.toList.take q) ++ [92, 92]) := show _ = _ by rw [hes, h4]; rfl
                  clear hes h4 h2
                  go_wp2_with fail
                  rw [HZ.out]
                  refine hcon.mono ?_
                  rintro e w' ⟨rfl, hw⟩
                  subst hw
                  clear hcon
                  go_wp2_with (at_builtin; refine wpList_app_lit (w := w') rfl (.tmp 48) (.tmp 51) rfl base tv kk vv u0 (pre ++ esc (vv.data.toList.take q)) [92, 92] rfl HOj.out HTj.out _ _ 2 rfl rfl (by rfl) rfl (by have := HLE.out; simp only [List.length_append, List.length_cons, List.length_nil]; omega) hbsj w hbj ?_; intro v4 w4 HO4 HT4 ht0 ht1 hbr4 hbs4)
                  go_roundw
                  case rel => exact ⟨q + 1, by omega, by go_num, by rw [HES.out, ← List.append_assoc]; exact HO4, HT4, ht1, hbr4, hbs4⟩
                  case measure => simp [intOf]; omega
                | 3, _, h4 =>
                  have HES : Hid (esc (vv.data.toList.take (q + 1)) = esc (vv.data.toList.take q) ++ [92, 114]) := show _ = _ by rw [hes, h4]; rfl
                  clear hes h4 h2
                  go_wp2_with fail
                  rw [HZ.out]
                  refine hcon.mono ?_
                  rintro e w' ⟨rfl, hw⟩
                  subst hw
                  clear hcon
                  go_wp2_with (at_builtin; refine wpList_app_lit (w := w') rfl (.tmp 48) (.tmp 51) rfl base tv kk vv u0 (pre ++ esc (vv.data.toList.take q)) [92, 114] rfl HOj.out HTj.out _ _ 2 rfl rfl (by rfl) rfl (by have := HLE.out; simp only [List.length_append, List.length_cons, List.length_nil]; omega) hbsj w hbj ?_; intro v4 w4 HO4 HT4 ht0 ht1 hbr4 hbs4)
                  go_roundw
                  case rel => exact ⟨q + 1, by omega, by go_num, by rw [HES.out, ← List.append_assoc]; exact HO4, HT4, ht1, hbr4, hbs4⟩
                  case measure => simp [intOf]; omega
                | 4, _, h4 =>
                  have HES : Hid (esc (vv.data.toList.take (q + 1)) = esc (vv.data.toList.take q) ++ [92, 110]) := show _ = _ by rw [hes, h4]; rfl
                  clear hes h4 h2
                  go_wp2_with fail
                  rw [HZ.out]
                  refine hcon.mono ?_
                  rintro e w' ⟨rfl, hw⟩
                  subst hw
                  clear hcon
                  go_wp2_with (at_builtin; refine wpList_app_lit (w := w') rfl (.tmp 48) (.tmp 51) rfl base tv kk vv u0 (pre ++ esc (vv.data.toList.take q)) [92, 110] rfl HOj.out HTj.out _ _ 2 rfl rfl (by rfl) rfl (by have := HLE.out; simp only [List.length_append, List.length_cons, List.length_nil]; omega) hbsj w hbj ?_; intro v4 w4 HO4 HT4 ht0 ht1 hbr4 hbs4)
                  go_roundw
                  case rel => exact ⟨q + 1, by omega, by go_num, by rw [HES.out, ← List.append_assoc]; exact HO4, HT4, ht1, hbr4, hbs4⟩
                  case measure => simp [intOf]; omega
            · obtain rfl : q = vv.size := by omega
              have HFIN : Hid (pre ++ esc (vv.data.toList.take vv.size) = dl ++ tagsTo (kOf K) (kOf V) (k + 1)) := show _ = _ by
                rw [HTS.out, if_neg HE.out, List.take_of_length_le (by rw [size_toList]; omega), HPRE.out, HACC.out]; simp
              go_wp2
              go_roundw
              case rel => exact ⟨k + 1, by omega, by go_num, by rw [← HFIN.out]; exact HOj, hbj⟩
              case measure => simp [intOf]; omega
    · obtain rfl : k = n := by omega
      have hal : (dl ++ tagsTo (kOf K) (kOf V) k).length ≤ 10000000 := by rw [List.length_append]; exact HL.out
      have HAL : Hid ((dl ++ tagsTo (kOf K) (kOf V) k).length ≤ 10000000) := hal
      clear hal
      go_wp2_with (at_builtin; refine wpList_app_last (w := wr) rfl (.tmp 61) (.tmp 62) rfl base u0 (dl ++ tagsTo (kOf K) (kOf V) k) [32] rfl HOr.out _ _ 1 rfl rfl (by rfl) rfl (by have := HAL.out; simp only [List.length_singleton]; omega) hbs w hbr ?_; intro v4 w4 HO4 hbr4 hbs4)
      go_ret
      exact ⟨_, rfl, HO4.out, hbr4⟩

end Go.Proofs.Qxb6605232a.Tag
