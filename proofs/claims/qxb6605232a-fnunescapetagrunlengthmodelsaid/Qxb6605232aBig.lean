/-
  DERIVED (a prover's text, seat b6605232a). zzTagsTooBig, zzCloneBytes, zzToTags.
-/
import Derived.Test.Qxb6605232aGuards
import Derived.Lib.SliceRun
namespace Go.Proofs.Qxb6605232a.Tag
open Go.ChangeShapes Go.WideShapes Go.ChangeAt Go.RowKit
set_option linter.unusedVariables false

/-- What zzTagsTooBig may answer: true; or false, and then the bound holds. -/
def BigSaid (d n : Nat) (K V : Nat → ByteArray) (e : Ending) : Prop :=
  e = .returned (.bool true) ∨ (e = .returned (.bool false) ∧ d + sumTo K V n ≤ 1048576 ∧ n ≤ 65536)

set_option maxHeartbeats 1000000 in
theorem big_zero (p q : Option Addr) (d c1 c2 : Nat) (K V : Nat → ByteArray) (w : World) :
    Calls Try.prog 13 #[.slice p d c1, .slice q 0 c2] w fun e w' => BigSaid d 0 K V e ∧ w' = w := by
  by_cases hd : d ≤ 1048576
  · go_enter Try.func13, Try.ntmps13
    go_wp2
    refine wp_loop_rounds 1 ?_
    rw [rounds_succ]
    go_wp2
    go_ret
    exact ⟨Or.inr ⟨rfl, by simp [sumTo]; omega, by omega⟩, rfl⟩
  · go_enter Try.func13, Try.ntmps13
    go_wp2
    go_ret
    exact ⟨Or.inl rfl, rfl⟩

set_option maxHeartbeats 1000000 in
theorem big_some (p : Option Addr) (d c1 tb to n c2 : Nat) (K V : Nat → ByteArray) (w : World) (ht : TagsAt w tb to n K V) :
    Calls Try.prog 13 #[.slice p d c1, .slice (some ⟨tb, to, none⟩) n c2] w fun e w' => BigSaid d n K V e ∧ ∃ q, w' = w.drewN q := by
  have HT : Hid (TagsAt w tb to n K V) := ht
  clear ht
  by_cases hd : d ≤ 1048576
  · by_cases hn : n ≤ 65536
    · go_enter Try.func13, Try.ntmps13
      go_wp2
      go_loopw [5, 6] (fun s i wr => ∃ k r : Nat, k ≤ n ∧ i = .int .i64 k ∧ d + sumTo K V k ≤ 1048576 ∧ s = .int .i64 (d + sumTo K V k : Nat) ∧ wr = w.drewN r) (fun _ i _ => n - (intOf i).toNat)
      case atStart => exact ⟨0, 0, Nat.zero_le _, rfl, by simpa [sumTo] using hd, by simp [sumTo], rfl⟩
      case round =>
        obtain ⟨k, r, hk, rfl, hs, rfl, rfl⟩ := hrel
        by_cases hlt : k < n
        · obtain ⟨hc0, hc1⟩ := HT.out k hlt
          have hst : sumTo K V (k + 1) = sumTo K V k + (32 + (K k).size + (V k).size) := rfl
          obtain ⟨kk, hkk⟩ : ∃ kk, kk = K k := ⟨_, rfl⟩
          obtain ⟨vv, hvv⟩ : ∃ vv, vv = V k := ⟨_, rfl⟩
          rw [← hkk] at hc0 hst
          rw [← hvv] at hc1 hst
          have HST : Hid (sumTo K V (k + 1) = sumTo K V k + (32 + kk.size + vv.size)) := hst
          clear hkk hvv hst
          generalize sumTo K V k = S at *
          by_cases h1 : kk.size ≤ 1048576
          · by_cases h2 : vv.size ≤ 1048576
            · go_wp2
              go_quiet (fail)
              by_cases h3 : d + (S + (32 + kk.size + vv.size)) ≤ 1048576
              · go_wp2
                go_roundw
                case rel => exact ⟨k + 1, r + nq, by omega, by go_num, by rw [HST.out]; omega, by rw [HST.out]; go_num, rfl⟩
                case measure => simp [intOf]; omega
              · go_wp2
                go_ret
                exact ⟨Or.inl rfl, _, rfl⟩
            · go_wp2
              go_ret
              exact ⟨Or.inl rfl, _, rfl⟩
          · go_wp2
            go_ret
            exact ⟨Or.inl rfl, _, rfl⟩
        · obtain rfl : k = n := by omega
          go_wp2
          go_ret
          exact ⟨Or.inr ⟨rfl, hs, hn⟩, _, rfl⟩
    · go_enter Try.func13, Try.ntmps13
      go_wp2
      go_ret
      exact ⟨Or.inl rfl, 0, rfl⟩
  · go_enter Try.func13, Try.ntmps13
    go_wp2
    go_ret
    exact ⟨Or.inl rfl, 0, rfl⟩

/-- A slice's elements, as they are read: the bytes l; of an empty slice nothing is known. -/
def In (w : World) (p : Option Addr) (n : Nat) (l : List UInt8) : Prop :=
  l.length = n ∧ (n = 0 ∨ ∃ b off, p = some ⟨b, off, none⟩ ∧ ∀ j, j < n → w.cell? ⟨b, off + j, none⟩ = some (.int .u8 ((l.getD j 0).toNat : Int)))

/-- A row of bytes of the call's own, known whole. -/
def Blk (w : World) (g : Nat) (cs : List Value) : Prop := w.heap[g]? = some (.cells cs.toArray 5 (0, 0))

theorem Blk.cell {w : World} {g : Nat} {cs : List Value} (h : Blk w g cs) (i : Nat) : w.cell? ⟨g, i, none⟩ = cs[i]? := by
  rw [cell_of_row w g i _ 5 (0, 0) h]; simp
theorem Blk.free {w : World} {g : Nat} {cs : List Value} (h : Blk w g cs) (i : Nat) : w.frozen? ⟨g, i, none⟩ = false := by
  unfold Blk at h
  simp [World.frozen?, h]
theorem Blk.set {w : World} {g : Nat} {cs : List Value} (h : Blk w g cs) (i : Nat) (u : Value) : Blk (w.setCell ⟨g, i, none⟩ u) g (cs.set i u) := by
  unfold Blk at h ⊢
  simp only [World.setCell, Array.getElem?_modify]
  simp [h]
theorem Blk.row {w : World} {base g n : Nat} {xs : List Value} (h : w.ownsRow base 5 1 (.slice (some ⟨g, 0, none⟩) n n) n xs) : Blk w g xs := by
  rcases h with ⟨hl, ⟨h, _⟩ | ⟨g', cap, cur, hv, _, hg, _, _, hs, ht⟩⟩
  · cases h
  · simp at hv
    obtain ⟨rfl, rfl⟩ := hv
    simp at hs ht
    have : cur.toList = xs := by rw [← ht, List.take_of_length_le (by simp [hs])]
    unfold Blk
    rw [← this, hg]

theorem Blk.own {w : World} {base g : Nat} {l : List UInt8} (h : Blk w g (Lib.byteCells l)) (hb : base ≤ g) (hl : l.length ≤ maxLen) : Own w base (.slice (some ⟨g, 0, none⟩) l.length l.length) l := by
  refine ⟨by rw [Lib.byteCells_length]; omega, Or.inr ⟨g, l.length, (Lib.byteCells l).toArray, rfl, hb, h, Nat.le_refl _, hl, by simp [Lib.byteCells_length], ?_⟩⟩
  rw [List.take_of_length_le (by simp [Lib.byteCells_length])]

theorem own_in {w : World} {base : Nat} {v : Value} {l : List UInt8} (h : Own w base v l) : ∃ p c, v = .slice p l.length c ∧ (p = none → c = 0) ∧ In w p l.length l := by
  rcases h.2 with ⟨rfl, h0⟩ | ⟨g, cap, cur, rfl, _, hg, _, _, hs, ht⟩
  · exact ⟨none, 0, by rw [h0], fun _ => rfl, rfl, Or.inl h0⟩
  · refine ⟨some ⟨g, 0, none⟩, cap, rfl, fun h => (by cases h), rfl, Or.inr ⟨g, 0, rfl, fun j hj => ?_⟩⟩
    rw [Nat.zero_add, cell_of_row w g j cur 5 (0, 0) hg]
    have : (cur.toList.take (l.length * 1))[j]? = cur.toList[j]? := by rw [List.getElem?_take, if_pos (by omega)]
    rw [ht] at this
    rw [← Array.getElem?_toList, ← this, Lib.byteCells, List.getElem?_map, List.getD_eq_getElem?_getD, List.getElem?_eq_getElem hj]; rfl

theorem In.below {w w' : World} {p : Option Addr} {n : Nat} {l : List UInt8} (h : In w p n l) (hb : Below w.heap.size w w') : In w' p n l := by
  obtain ⟨h1, h2⟩ := h
  refine ⟨h1, ?_⟩
  rcases h2 with h2 | ⟨b, off, hp, hc⟩
  · exact Or.inl h2
  · refine Or.inr ⟨b, off, hp, fun j hj => ?_⟩
    rw [← hc j hj]
    exact hb.cell (p := ⟨b, off + j, none⟩) (World.block_lt_of_cell? w ⟨b, off + j, none⟩ (hc j hj))

theorem toList_made (n : Nat) : (madeCells (Value.int .u8 0).cells (n * 1)).toList.length = n := by
  have : (Value.int .u8 0).cells = #[.int .u8 0] := rfl
  rw [this, toList_madeCells_one]; simp

/-- nil; or a row of the call's own from block B on, just as long as its bytes. -/
def Fresh (w : World) (B : Nat) (v : Value) (l : List UInt8) : Prop :=
  (v = .slice none 0 0 ∧ l = []) ∨ ∃ g, v = .slice (some ⟨g, 0, none⟩) l.length l.length ∧ B ≤ g ∧ Blk w g (Lib.byteCells l)

theorem Fresh.own {w : World} {B : Nat} {v : Value} {l : List UInt8} (h : Fresh w B v l) (hl : l.length ≤ maxLen) : Own w B v l := by
  rcases h with ⟨rfl, rfl⟩ | ⟨g, rfl, hg, hb⟩
  · exact World.ownsRow_nil _ _ _ _
  · exact hb.own hg hl

theorem Fresh.inp {w : World} {B : Nat} {v : Value} {l : List UInt8} (h : Fresh w B v l) : ∃ p, v = .slice p l.length l.length ∧ (p = none → l.length = 0) ∧ In w p l.length l := by
  rcases h with ⟨rfl, rfl⟩ | ⟨g, rfl, _, hb⟩
  · exact ⟨none, rfl, fun _ => rfl, rfl, Or.inl rfl⟩
  · refine ⟨_, rfl, fun h => (by cases h), rfl, Or.inr ⟨g, 0, rfl, fun j hj => ?_⟩⟩
    rw [hb.cell, Nat.zero_add, Lib.byteCells, List.getElem?_map, List.getD_eq_getElem?_getD, List.getElem?_eq_getElem hj]; rfl

set_option maxHeartbeats 1000000 in
theorem clone_zero (x : Addr) (c : Nat) (w : World) :
    Calls Try.prog 14 #[.slice (some x) 0 c] w fun e w' => ∃ v, e = .returned v ∧ Fresh w' w.heap.size v [] ∧ Below w.heap.size w w' := by
  have q24 : ∀ (w : World) (a : Option Addr) (n c n' c' : Nat), (binOp .eql 24 (.slice a n c) (.slice none n' c')).run Try.prog w = .ok (.bool a.isNone) w := fun w a n c n' c' => Lib.run_eql_slice_nil w _ _ a n c n' c' Try.underlying24
  obtain ⟨i0, hi, hz0, hz1, hz2⟩ := info_parts info5
  have HB2 : Hid (i0.bytes * 0 ≤ 281474976710656) := show _ ≤ _ by omega
  clear hz2
  go_enter Try.func14, Try.ntmps14
  go_wp2_with (first
    | (at_make; refine wpList_make_full _ rfl (.tmp 8) (.tmp 8) 24 rfl w.heap.size 5 i0 (.int .u8 0) 1 Try.underlying24 hi hz0 hz1 _ _ _ _ 0 rfl rfl rfl rfl HB2.out (by decide) (Nat.le_refl _) ?_; intro w1 hown hgrow; have hbel : Below w.heap.size w w1 := (Below.refl _ _).grown hgrow (Nat.le_refl _) (by intro k hk; cases hk); have HBL : Hid (Blk w1 w.heap.size _) := Blk.row hown; clear hown hgrow))
  refine wp_loop_rounds 1 ?_
  rw [rounds_succ]
  go_wp2
  go_ret
  refine ⟨_, rfl, Or.inr ⟨w.heap.size, rfl, Nat.le_refl _, ?_⟩, hbel⟩
  have h := HBL.out
  have : (madeCells (Value.int .u8 0).cells (0 * 1)).toList = [] := List.eq_nil_of_length_eq_zero (toList_made 0)
  rw [this] at h
  exact h

set_option maxHeartbeats 1000000 in
theorem clone_nil (w : World) :
    Calls Try.prog 14 #[.slice none 0 0] w fun e w' => e = .returned (.slice none 0 0) ∧ w' = w := by
  have q24 : ∀ (w : World) (a : Option Addr) (n c n' c' : Nat), (binOp .eql 24 (.slice a n c) (.slice none n' c')).run Try.prog w = .ok (.bool a.isNone) w := fun w a n c n' c' => Lib.run_eql_slice_nil w _ _ a n c n' c' Try.underlying24
  go_enter Try.func14, Try.ntmps14
  go_wp2
  go_ret
  exact ⟨rfl, rfl⟩

set_option maxHeartbeats 1000000 in
theorem clone_some (b off n c : Nat) (l : List UInt8) (w : World) (hx : l.length = n) (hn : n ≤ 1048576) (hc : ∀ j, j < n → w.cell? ⟨b, off + j, none⟩ = some (.int .u8 ((l.getD j 0).toNat : Int))) (h0 : 0 < n) :
    Calls Try.prog 14 #[.slice (some ⟨b, off, none⟩) n c] w fun e w' => ∃ v, e = .returned v ∧ Fresh w' w.heap.size v l ∧ Below w.heap.size w w' := by
  have q24 : ∀ (w : World) (a : Option Addr) (n c n' c' : Nat), (binOp .eql 24 (.slice a n c) (.slice none n' c')).run Try.prog w = .ok (.bool a.isNone) w := fun w a n c n' c' => Lib.run_eql_slice_nil w _ _ a n c n' c' Try.underlying24
  obtain ⟨i0, hi, hz0, hz1, hz2⟩ := info_parts info5
  have HB2 : Hid (i0.bytes * n ≤ 281474976710656) := show _ ≤ _ by rw [hz2]; omega
  have HX : Hid (l.length = n) := hx
  have hbw : b < w.heap.size := World.block_lt_of_cell? w ⟨b, off + 0, none⟩ (hc 0 h0)
  have HC : Hid (∀ j, j < n → w.cell? ⟨b, off + j, none⟩ = some (.int .u8 ((l.getD j 0).toNat : Int))) := hc
  have hml : n ≤ maxLen := by unfold maxLen; omega
  clear hz2 hx hc
  go_enter Try.func14, Try.ntmps14
  go_wp2_with (first
    | (at_make; refine wpList_make_full _ rfl (.tmp 8) (.tmp 8) 24 rfl w.heap.size 5 i0 (.int .u8 0) 1 Try.underlying24 hi hz0 hz1 _ _ _ _ n rfl rfl rfl rfl HB2.out hml (Nat.le_refl _) ?_; intro w1 hown hgrow; have hbel : Below w.heap.size w w1 := (Below.refl _ _).grown hgrow (Nat.le_refl _) (by intro k hk; cases hk); have HBL : Hid (Blk w1 w.heap.size _) := Blk.row hown; clear hown hgrow))
  go_loopw [4] (fun i wr => ∃ (k : Nat) (cs : List Value), k ≤ n ∧ i = .int .i64 k ∧ cs.length = n ∧ Hid (Blk wr w.heap.size cs) ∧ Hid (∀ j, j < k → cs[j]? = some (.int .u8 ((l.getD j 0).toNat : Int))) ∧ Below w.heap.size w wr) (fun i _ => n - (intOf i).toNat)
  case atStart => exact ⟨0, _, Nat.zero_le _, rfl, toList_made n, HBL, fun j hj => absurd hj (Nat.not_lt_zero _), hbel⟩
  case round =>
    obtain ⟨k, cs, hk, rfl, hcs, hB, hcell, hbr⟩ := hrel
    by_cases hlt : k < n
    · obtain ⟨z, hz⟩ : ∃ z, z = ((l.getD k 0).toNat : Int) := ⟨_, rfl⟩
      have HZ : Hid (z = ((l.getD k 0).toNat : Int)) := hz
      have hld : wr.cell? ⟨b, off + k, none⟩ = some (.int .u8 z) := by rw [hbr.cell (p := ⟨b, off + k, none⟩) hbw, hz]; exact HC.out k hlt
      obtain ⟨u, hu⟩ : ∃ u, cs[k]? = some u := ⟨cs[k]'(by omega), List.getElem?_eq_getElem (by omega)⟩
      have hst : wr.cell? ⟨w.heap.size, k, none⟩ = some u := by rw [hB.out.cell]; exact hu
      have hfr : wr.frozen? ⟨w.heap.size, k, none⟩ = false := hB.out.free k
      clear hz hu
      go_wp2
      go_roundw
      case rel =>
        refine ⟨k + 1, cs.set k (.int .u8 z), by omega, by go_num, by simp [hcs], hB.out.set k _, ?_, hbr.setCell (Nat.le_refl _) _⟩
        intro j hj
        by_cases e : j = k
        · subst e
          rw [List.getElem?_set_self (by omega), HZ.out]
        · rw [List.getElem?_set_ne (by omega)]
          exact hcell.out j (by omega)
      case measure => simp [intOf]; omega
    · go_wp2
      go_ret
      refine ⟨_, rfl, Or.inr ⟨w.heap.size, ?_, Nat.le_refl _, ?_⟩, hbr⟩
      · rw [HX.out]; rfl
      · have e : cs = Lib.byteCells l := by
          apply List.ext_getElem?
          intro j
          by_cases hj : j < n
          · rw [hcell.out j (by omega), Lib.byteCells, List.getElem?_map, List.getD_eq_getElem?_getD, List.getElem?_eq_getElem (by rw [HX.out]; exact hj)]; rfl
          · rw [List.getElem?_eq_none (by omega), List.getElem?_eq_none (by rw [Lib.byteCells_length, HX.out]; omega)]
        rw [← e]; exact hB.out

theorem clone_any (p : Option Addr) (n c : Nat) (l : List UInt8) (w : World) (hin : In w p n l) (hp : p = none → n = 0 ∧ c = 0) (hn : n ≤ 1048576) :
    Calls Try.prog 14 #[.slice p n c] w fun e w' => ∃ v, e = .returned v ∧ Fresh w' w.heap.size v l ∧ Below w.heap.size w w' := by
  obtain ⟨hx, h⟩ := hin
  cases p with
  | none =>
    obtain ⟨rfl, rfl⟩ := hp rfl
    obtain rfl : l = [] := List.eq_nil_of_length_eq_zero hx
    refine (clone_nil w).mono ?_
    rintro e w' ⟨rfl, rfl⟩
    exact ⟨_, rfl, Or.inl ⟨rfl, rfl⟩, Below.refl _ _⟩
  | some x =>
    rcases h with rfl | ⟨b, off, hb, hc⟩
    · obtain rfl : l = [] := List.eq_nil_of_length_eq_zero hx
      exact clone_zero x c w
    · simp at hb
      subst hb
      by_cases h0 : n = 0
      · subst h0
        obtain rfl : l = [] := List.eq_nil_of_length_eq_zero hx
        exact clone_zero _ c w
      · exact clone_some b off n c l w hx hn hc (by omega)

end Go.Proofs.Qxb6605232a.Tag
