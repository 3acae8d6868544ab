/-
  DERIVED (a prover's text, seat b6604248a). dropLineEndCRs at nil, ZZdropLineEndCRs, and THE WALK of 'FnDropLineEndCRsMatchesModel' over the two contracts of package bytes.
-/
import Derived.Test.Qxb6604248aDrop
namespace Go.Proofs.Qxb6604248a.Crs
open Go.ChangeShapes Go.WideShapes Go.ChangeAt Go.RowKit
set_option linter.unusedVariables false

set_option maxHeartbeats 1000000 in
theorem drop_nil (G : Nat) (hcut : CutSaid G) (htrim : TrimSaid) (m : Int) (w : World) (hm : w.cell? ⟨G, 0, none⟩ = some (.int .i64 m)) :
    Calls Try.prog 31 #[.slice none 0 0] w fun e w' => e = .returned (.slice none 0 0) ∧ Below w.heap.size w w' := by
  have kc := fun (w : World) (C : Array Value) (n c : Nat) => Lib.run_convert_bytes_const (P := Try.prog) w 42 5 C n c Try.underlying42 Try.underlying5
  have hc13 : (w.alloc (.cells #[.int .u8 13, .int .u8 10] 5 (2, 3))).cell? ⟨w.heap.size, 0, none⟩ = some (.int .u8 13) := by rw [World.cell?_alloc_mark]; rfl
  have hc10 : (w.alloc (.cells #[.int .u8 13, .int .u8 10] 5 (2, 3))).cell? ⟨w.heap.size, 1, none⟩ = some (.int .u8 10) := by rw [World.cell?_alloc_mark]; rfl
  have hcm : (w.alloc (.cells #[.int .u8 13, .int .u8 10] 5 (2, 3))).cell? ⟨G, 0, none⟩ = some (.int .i64 m) := Lib.cell?_alloc_marked _ hm
  have hcon := hcut none w.heap.size 0 0 [] m _ ⟨rfl, Or.inl rfl⟩ (by intro z hz; cases hz) (fun _ => rfl) (Nat.le_refl _) (by omega) hc13 hc10 hcm
  clear hc13 hc10 hcm hm hcut
  have HT : Hid TrimSaid := htrim
  clear htrim
  go_enter Try.func31, Try.ntmps31
  go_wp2
  refine wp_loop_rounds 1 ?_
  rw [rounds_succ]
  go_wp2_with fail
  refine hcon.mono ?_
  clear hcon
  rintro e w' ⟨hor, q, rfl⟩
  rcases hor with ⟨_, rfl⟩ | ⟨i, h, _⟩
  · go_wp2_with fail
    have hc : (((w.alloc (.cells #[.int .u8 13, .int .u8 10] 5 (2, 3))).drewN q).alloc (.cells #[.int .u8 13] 5)).cell? ⟨w.heap.size + 1, 0, none⟩ = some (.int .u8 13) := by
      have e : w.heap.size + 1 = ((w.alloc (.cells #[.int .u8 13, .int .u8 10] 5 (2, 3))).drewN q).heap.size := by simp
      rw [e]; simp only [World.cell?_alloc_mark]; rfl
    refine (HT.out none (w.heap.size + 1) 0 0 [] _ ⟨rfl, Or.inl rfl⟩ (by intro z hz; cases hz) (Nat.le_refl _) (by omega) hc).mono ?_
    rintro e w' ⟨rfl, hw⟩
    subst hw
    clear hc
    go_wp2
    go_ret
    refine ⟨rfl, ?_⟩
    exact (below_drewN ((Below.refl _ w).alloc (Nat.le_refl _) _) q).alloc (by simp) _
  · exact absurd h (by rw [show idx [] = -1 from rfl]; omega)

/-- ZZdropLineEndCRs at a slice of the call's own: it hands back what is kept; below block B nothing has turned. -/
theorem zdrop_any (G : Nat) (hcut : CutSaid G) (htrim : TrimSaid) (B : Nat) (v : Value) (xs : List Int) (m : Int) (w : World) (hv : Fresh w B v xs) (hB : B ≤ w.heap.size) (hn : xs.length ≤ 8000000) (hby : Bytes xs)
    (hG : G < B) (hm : w.cell? ⟨G, 0, none⟩ = some (.int .i64 m)) :
    Calls Try.prog 27 #[v] w fun e w' => ∃ p c, e = .returned (.slice p (keep xs).length c) ∧ (p = none → c = 0) ∧ In w' p (keep xs).length (keep xs) ∧ Below B w w' := by
  rcases hv with ⟨rfl, rfl⟩ | ⟨g, rfl, hg, hblk⟩
  · have hcon := drop_nil G hcut htrim m w hm
    clear hm
    go_enter Try.func27, Try.ntmps27
    go_wp2_with fail
    refine hcon.mono ?_
    rintro e w' ⟨rfl, hb⟩
    clear hcon
    go_wp2
    go_ret
    exact ⟨none, 0, rfl, fun _ => rfl, ⟨rfl, Or.inl rfl⟩, hb.mono hB⟩
  · have hcon := drop_some G hcut htrim g xs.length xs m w rfl hn hby hblk (by omega) hm
    clear hm hblk
    generalize keep xs = ys at *
    generalize xs.length = n at *
    go_enter Try.func27, Try.ntmps27
    go_wp2_with fail
    refine hcon.mono ?_
    rintro e w' ⟨rfl, ⟨cs, hbl⟩, hb⟩
    clear hcon
    have HB : Hid (Blk w' g (B8 ys ++ cs)) := hbl
    clear hbl
    go_wp2
    go_ret
    exact ⟨some ⟨g, 0, none⟩, n, rfl, fun h => (by cases h), In.of_blk HB.out, hb.mono hg⟩

theorem Fresh.inp {w : World} {B : Nat} {v : Value} {xs : List Int} (h : Fresh w B v xs) : ∃ p, v = .slice p xs.length xs.length ∧ (p = none → xs.length = 0) ∧ In w p xs.length xs := by
  rcases h with ⟨rfl, rfl⟩ | ⟨g, rfl, _, hb⟩
  · exact ⟨none, rfl, fun _ => rfl, rfl, Or.inl rfl⟩
  · refine ⟨_, rfl, fun h => (by cases h), ?_⟩
    have hb' : Blk w g (B8 xs ++ []) := by simpa using hb
    exact In.of_blk hb'

theorem own_in {w : World} {base : Nat} {v : Value} {xs : List Int} (h : w.ownsRow base 5 1 v xs.length (B8 xs)) : ∃ p c, v = .slice p xs.length c ∧ (p = none → c = 0) ∧ In w p xs.length xs := by
  have hl := h.1
  rcases h.2 with ⟨rfl, h0⟩ | ⟨g, cap, cur, rfl, _, hg, _, _, hs, ht⟩
  · exact ⟨none, 0, by rw [h0], fun _ => rfl, rfl, Or.inl h0⟩
  · refine ⟨some ⟨g, 0, none⟩, cap, rfl, fun h => (by cases h), rfl, Or.inr ⟨g, 0, rfl, fun j hj => ?_⟩⟩
    rw [Nat.zero_add, cell_of_row w g j cur 5 (0, 0) hg]
    have : (cur.toList.take (xs.length * 1))[j]? = cur.toList[j]? := by rw [List.getElem?_take, if_pos (by omega)]
    rw [ht] at this
    rw [← Array.getElem?_toList, ← this, B8, List.getElem?_map, List.getD_eq_getElem?_getD, List.getElem?_eq_getElem hj]; rfl

end Go.Proofs.Qxb6604248a.Crs
