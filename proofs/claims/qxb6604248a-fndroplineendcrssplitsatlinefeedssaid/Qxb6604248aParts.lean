/-
  DERIVED (a prover's text, seat b6604248a). What the walks share: a slice of bytes read ('In'), a row of the call's own ('Blk', 'Fresh'); contracts of cloneBytes, sameBytes, the bounds.
-/
import Derived.Test.Qxb6604248aRows
import Derived.WalkKit
import Derived.ProofKit
import Derived.OpenShut
import Derived.BigQuiet
import Derived.Deep.QuietTactic
import Derived.Lib.SliceRun
import Derived.Test.Qxb6604248aPlain
namespace Go.Proofs.Qxb6604248a.Crs
open Go.ChangeShapes Go.WideShapes Go.ChangeAt Go.RowKit
set_option linter.unusedVariables false

theorem info5 : (Try.prog.info? 5).map (fun i => (i.zero, i.size, i.bytes)) = some (some (.int .u8 0), 1, 1) := by kernel_rfl

/-- The values that the bytes are. -/
def B8 (xs : List Int) : List Value := xs.map (Value.int .u8)

/-- A slice's elements, as they are read: n bytes, xs; of an empty slice nothing is known. -/
def In (w : World) (p : Option Addr) (n : Nat) (xs : List Int) : Prop :=
  xs.length = n ∧ (n = 0 ∨ ∃ b off, p = some ⟨b, off, none⟩ ∧ ∀ j, j < n → w.cell? ⟨b, off + j, none⟩ = some (.int .u8 (xs.getD j 0)))

/-- A row of the call's own, known whole. -/
def Blk (w : World) (g : Nat) (cs : List Value) : Prop := w.heap[g]? = some (.cells cs.toArray 5 (0, 0))

theorem Blk.lt {w : World} {g : Nat} {cs : List Value} (h : Blk w g cs) : g < w.heap.size := (Array.getElem?_eq_some_iff.1 h).1

theorem Blk.cell {w : World} {g : Nat} {cs : List Value} (h : Blk w g cs) (i : Nat) : w.cell? ⟨g, i, none⟩ = cs[i]? := by
  rw [cell_of_row w g i _ 5 (0, 0) h]; simp

theorem Blk.byte {w : World} {g : Nat} {xs : List Int} (h : Blk w g (B8 xs)) (i : Nat) (hi : i < xs.length) : w.cell? ⟨g, i, none⟩ = some (.int .u8 (xs.getD i 0)) := by
  rw [h.cell, B8, List.getElem?_map, List.getD_eq_getElem?_getD, List.getElem?_eq_getElem hi]; rfl

theorem Blk.free {w : World} {g : Nat} {cs : List Value} (h : Blk w g cs) (i : Nat) : w.frozen? ⟨g, i, none⟩ = false := by
  unfold Blk at h
  simp [World.frozen?, h]

theorem Blk.set {w : World} {g : Nat} {cs : List Value} (h : Blk w g cs) (i : Nat) (u : Value) : Blk (w.setCell ⟨g, i, none⟩ u) g (cs.set i u) := by
  unfold Blk at h ⊢
  simp only [World.setCell, Array.getElem?_modify]
  simp [h]

theorem Blk.below {w w' : World} {g B : Nat} {cs : List Value} (h : Blk w g cs) (hb : Below B w w') (hg : g < B) : Blk w' g cs := by
  unfold Blk at h ⊢
  rw [hb.block g hg]; exact h

theorem Blk.alloc {w : World} {g : Nat} {cs : List Value} (h : Blk w g cs) (o : Obj) : Blk (w.alloc o) g cs := by
  unfold Blk
  rw [Below.heap_alloc w o g h.lt]; exact h

theorem Blk.row {w : World} {base g n : Nat} {xs : List Value} (h : w.ownsRow base 5 1 (.slice (some ⟨g, 0, none⟩) n n) n xs) : Blk w g xs := by
  rcases h with ⟨hl, ⟨h, _⟩ | ⟨g', cap, cur, hv, _, hg, _, _, hs, ht⟩⟩
  · cases h
  · simp at hv
    obtain ⟨rfl, rfl⟩ := hv
    simp at hs ht
    have : cur.toList = xs := by rw [← ht, List.take_of_length_le (by simp [hs])]
    unfold Blk
    rw [← this, hg]

/-- nil; or a row of the call's own from block B on, just as long as its bytes. -/
def Fresh (w : World) (B : Nat) (v : Value) (xs : List Int) : Prop :=
  (v = .slice none 0 0 ∧ xs = []) ∨ ∃ g, v = .slice (some ⟨g, 0, none⟩) xs.length xs.length ∧ B ≤ g ∧ Blk w g (B8 xs)

theorem In.of_blk {w : World} {g : Nat} {xs : List Int} {cs : List Value} (h : Blk w g (B8 xs ++ cs)) : In w (some ⟨g, 0, none⟩) xs.length xs := by
  refine ⟨rfl, Or.inr ⟨g, 0, rfl, fun j hj => ?_⟩⟩
  rw [h.cell, Nat.zero_add, List.getElem?_append_left (by simp [B8]; exact hj), B8, List.getElem?_map, List.getD_eq_getElem?_getD, List.getElem?_eq_getElem hj]; rfl

theorem In.below {w w' : World} {p : Option Addr} {n : Nat} {xs : List Int} (h : In w p n xs) (hb : Below w.heap.size w w') : In w' p n xs := by
  obtain ⟨h1, h2⟩ := h
  refine ⟨h1, ?_⟩
  rcases h2 with h2 | ⟨b, off, hp, hc⟩
  · exact Or.inl h2
  · refine Or.inr ⟨b, off, hp, fun j hj => ?_⟩
    rw [← hc j hj]
    exact hb.cell (p := ⟨b, off + j, none⟩) (World.block_lt_of_cell? w ⟨b, off + j, none⟩ (hc j hj))

theorem toList_made (n : Nat) : (madeCells (Value.int .u8 0).cells (n * 1)).toList.length = n := by
  have : (Value.int .u8 0).cells = #[.int .u8 0] := rfl
  rw [this, toList_madeCells_one]; simp

set_option maxHeartbeats 1000000 in
theorem clone_zero (x : Addr) (c : Nat) (w : World) :
    Calls Try.prog 26 #[.slice (some x) 0 c] w fun e w' => ∃ v, e = .returned v ∧ Fresh w' w.heap.size v [] ∧ Below w.heap.size w w' := by
  have q42 : ∀ (w : World) (a : Option Addr) (n c n' c' : Nat), (binOp .eql 42 (.slice a n c) (.slice none n' c')).run Try.prog w = .ok (.bool a.isNone) w := fun w a n c n' c' => Lib.run_eql_slice_nil w _ _ a n c n' c' Try.underlying42
  obtain ⟨i0, hi, hz0, hz1, hz2⟩ := info_parts info5
  have HB2 : Hid (i0.bytes * 0 ≤ 281474976710656) := show _ ≤ _ by omega
  clear hz2
  go_enter Try.func26, Try.ntmps26
  go_wp2_with (first
    | (at_make; refine wpList_make_full _ rfl (.tmp 8) (.tmp 8) 42 rfl w.heap.size 5 i0 (.int .u8 0) 1 Try.underlying42 hi hz0 hz1 _ _ _ _ 0 rfl rfl rfl rfl HB2.out (by decide) (Nat.le_refl _) ?_; intro w1 hown hgrow; have hbel : Below w.heap.size w w1 := (Below.refl _ _).grown hgrow (Nat.le_refl _) (by intro k hk; cases hk); have HBL : Hid (Blk w1 w.heap.size _) := Blk.row hown; clear hown hgrow))
  refine wp_loop_rounds 1 ?_
  rw [rounds_succ]
  go_wp2
  go_ret
  refine ⟨_, rfl, Or.inr ⟨w.heap.size, rfl, Nat.le_refl _, ?_⟩, hbel⟩
  have h := HBL.out
  have : (madeCells (Value.int .u8 0).cells (0 * 1)).toList = [] := List.eq_nil_of_length_eq_zero (toList_made 0)
  rw [this] at h
  exact h

set_option maxHeartbeats 1000000 in
theorem clone_nil (w : World) :
    Calls Try.prog 26 #[.slice none 0 0] w fun e w' => e = .returned (.slice none 0 0) ∧ w' = w := by
  have q42 : ∀ (w : World) (a : Option Addr) (n c n' c' : Nat), (binOp .eql 42 (.slice a n c) (.slice none n' c')).run Try.prog w = .ok (.bool a.isNone) w := fun w a n c n' c' => Lib.run_eql_slice_nil w _ _ a n c n' c' Try.underlying42
  go_enter Try.func26, Try.ntmps26
  go_wp2
  go_ret
  exact ⟨rfl, rfl⟩

set_option maxHeartbeats 1000000 in
theorem clone_some (b off n c : Nat) (xs : List Int) (w : World) (hx : xs.length = n) (hn : n ≤ 1048576) (hc : ∀ j, j < n → w.cell? ⟨b, off + j, none⟩ = some (.int .u8 (xs.getD j 0))) (h0 : 0 < n) :
    Calls Try.prog 26 #[.slice (some ⟨b, off, none⟩) n c] w fun e w' => ∃ v, e = .returned v ∧ Fresh w' w.heap.size v xs ∧ Below w.heap.size w w' := by
  have q42 : ∀ (w : World) (a : Option Addr) (n c n' c' : Nat), (binOp .eql 42 (.slice a n c) (.slice none n' c')).run Try.prog w = .ok (.bool a.isNone) w := fun w a n c n' c' => Lib.run_eql_slice_nil w _ _ a n c n' c' Try.underlying42
  obtain ⟨i0, hi, hz0, hz1, hz2⟩ := info_parts info5
  have HB2 : Hid (i0.bytes * n ≤ 281474976710656) := show _ ≤ _ by rw [hz2]; omega
  have HX : Hid (xs.length = n) := hx
  have hbw : b < w.heap.size := World.block_lt_of_cell? w ⟨b, off + 0, none⟩ (hc 0 h0)
  have HC : Hid (∀ j, j < n → w.cell? ⟨b, off + j, none⟩ = some (.int .u8 (xs.getD j 0))) := hc
  have hml : n ≤ maxLen := by unfold maxLen; omega
  clear hz2 hx hc
  go_enter Try.func26, Try.ntmps26
  go_wp2_with (first
    | (at_make; refine wpList_make_full _ rfl (.tmp 8) (.tmp 8) 42 rfl w.heap.size 5 i0 (.int .u8 0) 1 Try.underlying42 hi hz0 hz1 _ _ _ _ n rfl rfl rfl rfl HB2.out hml (Nat.le_refl _) ?_; intro w1 hown hgrow; have hbel : Below w.heap.size w w1 := (Below.refl _ _).grown hgrow (Nat.le_refl _) (by intro k hk; cases hk); have HBL : Hid (Blk w1 w.heap.size _) := Blk.row hown; clear hown hgrow))
  go_loopw [4] (fun i wr => ∃ (k : Nat) (cs : List Value), k ≤ n ∧ i = .int .i64 k ∧ cs.length = n ∧ Hid (Blk wr w.heap.size cs) ∧ Hid (∀ j, j < k → cs[j]? = some (.int .u8 (xs.getD j 0))) ∧ Below w.heap.size w wr) (fun i _ => n - (intOf i).toNat)
  case atStart => exact ⟨0, _, Nat.zero_le _, rfl, toList_made n, HBL, fun j hj => absurd hj (Nat.not_lt_zero _), hbel⟩
  case round =>
    obtain ⟨k, cs, hk, rfl, hcs, hB, hcell, hbr⟩ := hrel
    by_cases hlt : k < n
    · obtain ⟨z, hz⟩ : ∃ z, z = xs.getD k 0 := ⟨_, rfl⟩
      have HZ : Hid (z = xs.getD k 0) := hz
      have hld : wr.cell? ⟨b, off + k, none⟩ = some (.int .u8 z) := by rw [hbr.cell (p := ⟨b, off + k, none⟩) hbw, hz]; exact HC.out k hlt
      obtain ⟨u, hu⟩ : ∃ u, cs[k]? = some u := ⟨cs[k]'(by omega), List.getElem?_eq_getElem (by omega)⟩
      have hst : wr.cell? ⟨w.heap.size, k, none⟩ = some u := by rw [hB.out.cell]; exact hu
      have hfr : wr.frozen? ⟨w.heap.size, k, none⟩ = false := hB.out.free k
      clear hz hu
      go_wp2
      go_roundw
      case rel =>
        refine ⟨k + 1, cs.set k (.int .u8 z), by omega, by go_num, by simp [hcs], hB.out.set k _, ?_, hbr.setCell (Nat.le_refl _) _⟩
        intro j hj
        by_cases e : j = k
        · subst e
          rw [List.getElem?_set_self (by omega), HZ.out]
        · rw [List.getElem?_set_ne (by omega)]
          exact hcell.out j (by omega)
      case measure => simp [intOf]; omega
    · go_wp2
      go_ret
      refine ⟨_, rfl, Or.inr ⟨w.heap.size, ?_, Nat.le_refl _, ?_⟩, hbr⟩
      · rw [HX.out]; rfl
      · have e : cs = B8 xs := by
          apply List.ext_getElem?
          intro j
          by_cases hj : j < n
          · rw [hcell.out j (by omega), B8, List.getElem?_map, List.getD_eq_getElem?_getD, List.getElem?_eq_getElem (by rw [HX.out]; exact hj)]; rfl
          · rw [List.getElem?_eq_none (by omega), List.getElem?_eq_none (by rw [B8, List.length_map, HX.out]; omega)]
        rw [← e]; exact hB.out

theorem clone_any (p : Option Addr) (n c : Nat) (xs : List Int) (w : World) (hin : In w p n xs) (hp : p = none → n = 0 ∧ c = 0) (hn : n ≤ 1048576) :
    Calls Try.prog 26 #[.slice p n c] w fun e w' => ∃ v, e = .returned v ∧ Fresh w' w.heap.size v xs ∧ Below w.heap.size w w' := by
  obtain ⟨hx, h⟩ := hin
  cases p with
  | none =>
    obtain ⟨rfl, rfl⟩ := hp rfl
    obtain rfl : xs = [] := List.eq_nil_of_length_eq_zero hx
    refine (clone_nil w).mono ?_
    rintro e w' ⟨rfl, rfl⟩
    exact ⟨_, rfl, Or.inl ⟨rfl, rfl⟩, Below.refl _ _⟩
  | some x =>
    rcases h with rfl | ⟨b, off, hb, hc⟩
    · obtain rfl : xs = [] := List.eq_nil_of_length_eq_zero hx
      exact clone_zero x c w
    · simp at hb
      subst hb
      by_cases h0 : n = 0
      · subst h0
        obtain rfl : xs = [] := List.eq_nil_of_length_eq_zero hx
        exact clone_zero _ c w
      · exact clone_some b off n c xs w hx hn hc (by omega)

end Go.Proofs.Qxb6604248a.Crs
