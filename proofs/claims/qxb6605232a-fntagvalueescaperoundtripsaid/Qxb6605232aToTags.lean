/-
  DERIVED (a prover's text, seat b6605232a). zzToTags: a fresh row of tags.
-/
import Derived.Test.Qxb6605232aBig
namespace Go.Proofs.Qxb6605232a.Tag
open Go.ChangeShapes Go.WideShapes Go.ChangeAt Go.RowKit
set_option linter.unusedVariables false

theorem info29 : (Try.prog.info? 29).map (fun i => (i.zero, i.size, i.bytes)) = some (some (.agg #[.string ⟨#[]⟩, .string ⟨#[]⟩]), 2, 32) := by kernel_rfl

def TBlk (w : World) (g : Nat) (cs : List Value) : Prop := w.heap[g]? = some (.cells cs.toArray 29 (0, 0))

theorem TBlk.cell {w : World} {g : Nat} {cs : List Value} (h : TBlk w g cs) (i : Nat) : w.cell? ⟨g, i, none⟩ = cs[i]? := by
  rw [cell_of_row w g i _ 29 (0, 0) h]; simp
theorem TBlk.free {w : World} {g : Nat} {cs : List Value} (h : TBlk w g cs) (i : Nat) : w.frozen? ⟨g, i, none⟩ = false := by
  unfold TBlk at h
  simp [World.frozen?, h]
theorem TBlk.set {w : World} {g : Nat} {cs : List Value} (h : TBlk w g cs) (i : Nat) (u : Value) : TBlk (w.setCell ⟨g, i, none⟩ u) g (cs.set i u) := by
  unfold TBlk at h ⊢
  simp only [World.setCell, Array.getElem?_modify]
  simp [h]
theorem TBlk.row {w : World} {base g n : Nat} {xs : List Value} (h : w.ownsRow base 29 2 (.slice (some ⟨g, 0, none⟩) n n) n xs) : TBlk w g xs ∧ xs.length = n * 2 := by
  rcases h with ⟨hl, ⟨h, _⟩ | ⟨g', cap, cur, hv, _, hg, _, _, hs, ht⟩⟩
  · cases h
  · simp at hv
    obtain ⟨rfl, rfl⟩ := hv
    have : cur.toList = xs := by rw [← ht, List.take_of_length_le (by simp [hs])]
    unfold TBlk
    exact ⟨by rw [← this, hg], hl⟩

set_option maxHeartbeats 1000000 in
theorem toTags_some (tb to n c : Nat) (K V : Nat → ByteArray) (w : World) (ht : TagsAt w tb to n K V) (hn : n ≤ 65536) (h0 : 0 < n) :
    Calls Try.prog 15 #[.slice (some ⟨tb, to, none⟩) n c] w fun e w' => e = .returned (.slice (some ⟨w.heap.size, 0, none⟩) n n) ∧ TagsAt w' w.heap.size 0 n K V ∧ Below w.heap.size w w' ∧ w.heap.size < w'.heap.size := by
  have q31 : ∀ (w : World) (a : Option Addr) (n c n' c' : Nat), (binOp .eql 31 (.slice a n c) (.slice none n' c')).run Try.prog w = .ok (.bool a.isNone) w := fun w a n c n' c' => Lib.run_eql_slice_nil w _ _ a n c n' c' Try.underlying31
  obtain ⟨i0, hi, hz0, hz1, hz2⟩ := info_parts info29
  have HB2 : Hid (i0.bytes * n ≤ 281474976710656) := show _ ≤ _ by rw [hz2]; omega
  have htb : tb < w.heap.size := World.block_lt_of_cell? w ⟨tb, to + 0 * 2, none⟩ (ht 0 h0).1
  have HT : Hid (TagsAt w tb to n K V) := ht
  have hml : n ≤ maxLen := by unfold maxLen; omega
  clear hz2 ht
  go_enter Try.func15, Try.ntmps15
  go_wp2_with (first
    | (at_make; refine wpList_make_full _ rfl (.tmp 8) (.tmp 8) 30 rfl w.heap.size 29 i0 (.agg #[.string ⟨#[]⟩, .string ⟨#[]⟩]) 2 Try.underlying30 hi hz0 hz1 _ _ _ _ n rfl rfl rfl rfl HB2.out hml (Nat.le_refl _) ?_; intro w1 hown hgrow; have hbel : Below w.heap.size w w1 := (Below.refl _ _).grown hgrow (Nat.le_refl _) (by intro k hk; cases hk); have HBL : Hid (TBlk w1 w.heap.size _ ∧ _) := TBlk.row hown; clear hown hgrow))
  go_loopw [4] (fun i wr => ∃ (k : Nat) (cs : List Value), k ≤ n ∧ i = .int .i64 k ∧ cs.length = n * 2 ∧ Hid (TBlk wr w.heap.size cs) ∧ Hid (∀ j, j < k → cs[j * 2]? = some (.string (K j)) ∧ cs[j * 2 + 1]? = some (.string (V j))) ∧ Below w.heap.size w wr) (fun i _ => n - (intOf i).toNat)
  case atStart => exact ⟨0, _, Nat.zero_le _, rfl, HBL.out.2, HBL.out.1, fun j hj => absurd hj (Nat.not_lt_zero _), hbel⟩
  case round =>
    obtain ⟨k, cs, hk, rfl, hcs, hB, hcell, hbr⟩ := hrel
    by_cases hlt : k < n
    · obtain ⟨hc0, hc1⟩ := HT.out k hlt
      obtain ⟨kk, hkk⟩ : ∃ kk, kk = K k := ⟨_, rfl⟩
      obtain ⟨vv, hvv⟩ : ∃ vv, vv = V k := ⟨_, rfl⟩
      have HKK : Hid (K k = kk) := hkk.symm
      have HVV : Hid (V k = vv) := hvv.symm
      have hd0 : wr.cell? ⟨tb, to + k * 2, none⟩ = some (.string kk) := by rw [hbr.cell (p := ⟨tb, to + k * 2, none⟩) htb, hkk]; exact hc0
      have hd1 : wr.cell? ⟨tb, to + k * 2 + 1, none⟩ = some (.string vv) := by rw [hbr.cell (p := ⟨tb, to + k * 2 + 1, none⟩) htb, hvv]; exact hc1
      obtain ⟨u0', hu0⟩ : ∃ u, cs[k * 2]? = some u := ⟨cs[k * 2]'(by omega), List.getElem?_eq_getElem (by omega)⟩
      obtain ⟨u1', hu1⟩ : ∃ u, cs[k * 2 + 1]? = some u := ⟨cs[k * 2 + 1]'(by omega), List.getElem?_eq_getElem (by omega)⟩
      have hs0 : wr.cell? ⟨w.heap.size, k * 2, none⟩ = some u0' := by rw [hB.out.cell]; exact hu0
      have hs1 : wr.cell? ⟨w.heap.size, k * 2 + 1, none⟩ = some u1' := by rw [hB.out.cell]; exact hu1
      have hf0 : wr.frozen? ⟨w.heap.size, k * 2, none⟩ = false := hB.out.free _
      have hf1 : wr.frozen? ⟨w.heap.size, k * 2 + 1, none⟩ = false := hB.out.free _
      clear hkk hvv hc0 hc1 hu0 hu1
      go_wp2
      go_region
      go_wp2
      go_roundw
      case rel =>
        refine ⟨k + 1, (cs.set (k * 2) (.string kk)).set (k * 2 + 1) (.string vv), by omega, by go_num, by simp [hcs], (hB.out.set _ _).set _ _, ?_, ((hbr.setCell (Nat.le_refl _) _).setCell (Nat.le_refl _) _).drew⟩
        intro j hj
        by_cases e : j = k
        · subst e
          rw [List.getElem?_set_ne (by omega), List.getElem?_set_self (by omega), List.getElem?_set_self (by simp; omega), HKK.out, HVV.out]
          exact ⟨rfl, rfl⟩
        · rw [List.getElem?_set_ne (by omega), List.getElem?_set_ne (by omega), List.getElem?_set_ne (by omega), List.getElem?_set_ne (by omega)]
          exact hcell.out j (by omega)
      case measure => simp [intOf]; omega
    · go_wp2
      go_ret
      refine ⟨rfl, fun i hi => ?_, hbr, (Array.getElem?_eq_some_iff.1 hB.out).1⟩
      obtain ⟨h1, h2⟩ := hcell.out i (by omega)
      refine ⟨?_, ?_⟩
      · rw [hB.out.cell, Nat.zero_add]; exact h1
      · rw [hB.out.cell, Nat.zero_add]; exact h2

end Go.Proofs.Qxb6605232a.Tag
