/-
  DERIVED (a prover's text, seat b6604140a). What the walks of 'FnCsvLineTilesTheInput' share: a slice of bytes that came in ('IsRow'), a slice of bytes of the call's own ('Own'), cloneBytes, countLF, the bound.
-/
import Derived.Test.Qxb6604140aRows
import Derived.WalkKit
import Derived.ProofKit
import Derived.Laws.CopyOwn
import Derived.Lib.SliceRun
import Derived.Lib.BytesEntry
namespace Go.Proofs.Qxb6604140a.fnCsvLineTilesTheInput
open Go.ChangeShapes Go.WideShapes Go.ChangeAt Go.RowKit
set_option linter.unusedVariables false

/-- WHAT THE WALK IS TOLD OF A SLICE OF INTEGERS THAT CAME IN: it is nil; or it leads to a row of 'cap' cells, the numbers 'zs' (the first 'len' are its elements, the rest its spare room), each fitting its kind. -/
def IsRow (k : IntKind) (w : World) (a : Option Addr) (len cap : Nat) (zs : List Int) : Prop :=
  (a = none ∧ len = 0 ∧ cap = 0 ∧ zs = []) ∨
  ∃ x, a = some x ∧ len ≤ cap ∧ cap ≤ maxLen ∧ zs.length = cap ∧ (∀ i, i < zs.length → w.cell? (x.add i) = some (.int k (zs.getD i 0))) ∧ ∀ n ∈ zs, (Lit.int k n).wf = true

theorem info5 : (Try.prog.info? 5).map (fun i => (i.zero, i.size, i.bytes)) = some (some (.int .u8 0), 1, 1) := by kernel_rfl

/-- A slice of bytes at the head of a block of its own, of which every cell is known. -/
def Own (w : World) (B : Nat) (v : Value) (xs : List Int) : Prop :=
  (v = .slice none 0 0 ∧ xs = []) ∨
  ∃ g, v = .slice (some ⟨g, 0, none⟩) xs.length xs.length ∧ B ≤ g ∧ ∀ i, i < xs.length → w.cell? ⟨g, i, none⟩ = some (.int .u8 (xs.getD i 0))

theorem cell_row {w : World} {g : Nat} {cs : Array Value} {t : TypeId} {m : Nat × Nat} (h : w.heap[g]? = some (.cells cs t m)) (i : Nat) (v : Value) (hi : cs[i]? = some v) :
    w.cell? ⟨g, i, none⟩ = some v := by
  rw [cell_of_row w g i cs t m h]; exact hi

theorem own_block {w : World} {base e g n : Nat} {xs : List Value} (h : w.ownsRow base e 1 (.slice (some ⟨g, 0, none⟩) n n) n xs) :
    ∃ cur : List Value, Hid (w.heap[g]? = some (.cells cur.toArray e (0, 0))) ∧ Hid (cur.length = n) := by
  rcases h.2 with ⟨h, _⟩ | ⟨g', cap, cur, hv, _, hg, _, _, hs, _⟩
  · cases h
  · simp at hv
    obtain ⟨rfl, rfl⟩ := hv
    exact ⟨cur.toList, show _ = _ by simpa using hg, show _ = _ by simp [hs]⟩

set_option maxHeartbeats 1000000 in
theorem clone_any (a0 : Option Addr) (len cap : Nat) (zs : List Int) (w : World) (hr : IsRow .u8 w a0 len cap zs) (hb : len ≤ 1048576) :
    Calls Try.prog 15 #[.slice a0 len cap] w fun e w' => ∃ v, e = .returned v ∧ Own w' w.heap.size v (zs.take len) ∧ Below w.heap.size w w' := by
  have q27 : ∀ (w : World) (a : Option Addr) (n c n' c' : Nat), (binOp .eql 27 (.slice a n c) (.slice none n' c')).run Try.prog w = .ok (.bool a.isNone) w := fun w a n c n' c' => Lib.run_eql_slice_nil w _ _ a n c n' c' Try.underlying27
  rcases hr with ⟨rfl, rfl, rfl, rfl⟩ | ⟨x, rfl, hl, hm, hz, hc, hwf⟩
  · go_enter Try.func15, Try.ntmps15
    go_wp2
    go_ret
    exact ⟨_, rfl, Or.inl ⟨rfl, rfl⟩, Below.refl _ _⟩
  · obtain ⟨i0, hi, hz0, hz1, hz2⟩ := info_parts info5
    have hwx : ∀ j u, ((zs.take len).map (Value.int .u8))[j]? = some u → w.cell? (x.add j) = some u := by
      intro j u hj
      rw [List.getElem?_map] at hj
      have hjl : j < len := by
        by_cases h : j < len
        · exact h
        · rw [List.getElem?_eq_none (by simp; omega)] at hj; simp at hj
      rw [List.getElem?_take, if_pos hjl] at hj
      rw [hc j (by omega), List.getD_eq_getElem?_getD]
      cases hzz : zs[j]? with
      | none => rw [hzz] at hj; simp at hj
      | some q => rw [hzz] at hj; simp at hj; simp [hj]
    obtain ⟨X, hX⟩ : ∃ X, X = (zs.take len).map (Value.int .u8) := ⟨_, rfl⟩
    rw [← hX] at hwx
    have hXl : X.length = len := by rw [hX]; simp; omega
    have HX : Hid (X = (zs.take len).map (Value.int .u8)) := hX
    have HXl : Hid (X.length = len) := hXl
    have h1 : ∀ v ∈ X, v.oneCell' = true := by rw [hX]; intro v hv; rw [List.mem_map] at hv; obtain ⟨q, _, rfl⟩ := hv; rfl
    clear hX hXl
    have Hc : Hid (∀ j u, X[j]? = some u → w.cell? (x.add j) = some u) := hwx
    clear hwx hc hwf
    have b2 : i0.bytes * len ≤ 281474976710656 := by rw [hz2]; omega
    have b3 : len ≤ maxLen := by omega
    have hsz : (Try.prog.info? 5).map (·.size) = some 1 := by rw [hi]; simp [hz1]
    have HB2 : Hid (i0.bytes * len ≤ 281474976710656) := b2
    clear b2 hz2
    go_enter Try.func15, Try.ntmps15
    go_wp2_with (first
      | (at_make; refine wpList_make_full _ rfl (.tmp 7) (.tmp 7) 27 rfl w.heap.size 5 i0 (.int .u8 0) 1 Try.underlying27 hi hz0 hz1 _ _ _ _ len rfl rfl rfl rfl HB2.out b3 (Nat.le_refl _) ?_; intro w1 hown hgrow; obtain ⟨cur, HG, HCL⟩ := own_block hown; have hbel : Below w.heap.size w w1 := (Below.refl _ _).grown hgrow (Nat.le_refl _) (by intro k hk; cases hk); have Hsrc : Hid (∀ j u, X[j]? = some u → w1.cell? (x.add j) = some u) := fun j u hj => hgrow.cell (Hc.out j u hj) (by simp); clear hown hgrow)
      | (refine wpList_copy_splice rfl (.tmp 9) (.tmp 10) 27 27 rfl 5 Try.underlying27 hsz _ _ _ _ _ _ rfl rfl w.heap.size 0 cur 5 HG.out X (by rw [HXl.out]; simp) (fun _ => ⟨rfl, x, rfl, Hsrc.out⟩) (by rw [HXl.out, HCL.out]; omega) h1 w.heap.size w hbel (Nat.le_refl _) ?_; intro w2 HG2 hB2))
    go_ret
    refine ⟨_, rfl, Or.inr ⟨w.heap.size, ?_, Nat.le_refl _, ?_⟩, hB2⟩
    · have := HXl.out; rw [HX.out] at this; simp only [List.length_map] at this; rw [this]; rfl
    · intro i hi
      have hil : i < len := by simp at hi; omega
      refine cell_row HG2.out i _ ?_
      have hsp : splice cur 0 X = X := by
        simp only [splice, List.take_zero, List.nil_append, Nat.zero_add]
        rw [List.drop_eq_nil_of_le (by rw [HCL.out, HXl.out]; omega), List.append_nil]
      rw [hsp, HX.out, List.getElem?_toArray, List.getElem?_map, List.getD_eq_getElem?_getD, List.getElem?_eq_getElem hi]
      rfl

end Go.Proofs.Qxb6604140a.fnCsvLineTilesTheInput
