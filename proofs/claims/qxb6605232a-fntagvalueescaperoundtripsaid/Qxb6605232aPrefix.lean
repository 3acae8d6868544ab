/-
  DERIVED (a prover's text, seat b6605232a). THE WALK of 'FnAppendTagsPrefixAndLength'.
-/
import Derived.Test.Qxb6605232aToTags
namespace Go.Proofs.Qxb6605232a.Tag
open Go.ChangeShapes Go.WideShapes Go.ChangeAt Go.RowKit
set_option linter.unusedVariables false

set_option maxHeartbeats 1000000 in
theorem zappend_any (base tb to n c : Nat) (v0 : Value) (dl : List UInt8) (K V : Nat → ByteArray) (w : World) (ht : TagsAt w tb to n K V) (hown : Own w base v0 dl) (htb : tb < base) (hb : base ≤ w.heap.size)
    (hlen : dl.length + (tagsTo (kOf K) (kOf V) n).length ≤ 10000000) (hn : n ≤ 1000000) :
    Calls Try.prog 11 #[v0, .slice (some ⟨tb, to, none⟩) n c] w fun e w' => ∃ v', e = .returned v' ∧ Own w' base v' (dl ++ tagsTo (kOf K) (kOf V) n ++ [32]) ∧ Below base w w' := by
  have hcon := append_any base tb to n c v0 dl K V w ht hown htb hb hlen hn
  clear ht hown hlen
  generalize dl ++ tagsTo (kOf K) (kOf V) n ++ [32] = R at *
  go_enter Try.func11, Try.ntmps11
  go_wp2_with fail
  refine hcon.mono ?_
  rintro e w' ⟨v', rfl, ho, hbel⟩
  clear hcon
  have HO : Hid (Own w' base v' R) := ho
  clear ho
  go_wp2
  go_ret
  exact ⟨_, rfl, HO.out, hbel⟩

theorem TagsAt.below {w w' : World} {tb to n : Nat} {K V : Nat → ByteArray} (h : TagsAt w tb to n K V) (hb : Below w.heap.size w w') : TagsAt w' tb to n K V := by
  intro i hi
  obtain ⟨h1, h2⟩ := h i hi
  refine ⟨?_, ?_⟩
  · rw [hb.cell (p := ⟨tb, to + i * 2, none⟩) (World.block_lt_of_cell? w ⟨tb, to + i * 2, none⟩ h1)]; exact h1
  · rw [hb.cell (p := ⟨tb, to + i * 2 + 1, none⟩) (World.block_lt_of_cell? w ⟨tb, to + i * 2 + 1, none⟩ h2)]; exact h2

theorem countRaw_snoc (vv : ByteArray) (q : Nat) (h : q < vv.size) : countRaw (vv.data.toList.take (q + 1)) = countRaw (vv.data.toList.take q) + if isRaw vv[q] then 1 else 0 := by
  rw [take_snoc vv q h, countRaw_append]; simp [countRaw]

set_option maxHeartbeats 4000000 in
theorem prefix_walk (p : Option Addr) (d c1 tb to n c2 : Nat) (dl : List UInt8) (K V : Nat → ByteArray) (w : World) (hin : In w p d dl) (hp : p = none → d = 0 ∧ c1 = 0) (ht : TagsAt w tb to n K V) (h0 : 0 < n) :
    Calls Try.prog 5 #[.slice p d c1, .slice (some ⟨tb, to, none⟩) n c2] w fun e w' => e = .returned (.bool true) ∧ Below w.heap.size w w' := by
  have HIN : Hid (In w p d dl) := hin
  have HP : Hid (p = none → d = 0 ∧ c1 = 0) := hp
  have HT : Hid (TagsAt w tb to n K V) := ht
  have HD : Hid (dl.length = d) := hin.1
  clear hin hp ht
  go_enter Try.func5, Try.ntmps5
  go_wp2_with fail
  refine (bound_some _ _ _ _ _ _ _ _ _ _ HT.out).mono ?_
  rintro e w' ⟨⟨b, rfl⟩, hw⟩
  subst hw
  cases b with
  | false =>
    go_wp2
    go_ret
    exact ⟨rfl, Below.refl _ _⟩
  | true =>
    go_wp2_with fail
    refine (big_some _ _ _ _ _ _ _ _ _ _ HT.out).mono ?_
    rintro e w0 ⟨hbig, q, rfl⟩
    rcases hbig with rfl | ⟨rfl, hsum, hn⟩
    · go_wp2
      go_ret
      exact ⟨rfl, below_drewN (Below.refl _ _) _⟩
    · have htl := tags_le K V n
      have hd : d ≤ 1048576 := by omega
      have HTL : Hid ((tagsTo (kOf K) (kOf V) n).length ≤ 2097152) := show _ ≤ _ by omega
      clear htl
      have hcl := clone_any p d c1 dl (w'.drewN q) HIN.out HP.out hd
      have hTw : TagsAt (w'.drewN q) tb to n K V := HT.out
      have HTw : Hid (TagsAt (w'.drewN q) tb to n K V) := hTw
      have hbw : Below w'.heap.size w' (w'.drewN q) := below_drewN (Below.refl _ _) q
      have hsw : (w'.drewN q).heap.size = w'.heap.size := rfl
      clear hTw
      go_wp2_with fail
      refine hcl.mono ?_
      clear hcl
      rintro e w1 ⟨v1, rfl, hv1, hb1⟩
      generalize w'.drewN q = W at *
      have HV1 : Hid (Fresh w1 W.heap.size v1 dl) := hv1
      clear hv1
      have htt := toTags_some tb to n c2 K V w1 (HTw.out.below hb1) hn h0
      obtain ⟨q1, rfl, hq1, hi1⟩ := HV1.out.inp
      rw [HD.out] at hq1 hi1 ⊢
      have HI1 : Hid (In w1 q1 d dl) := hi1
      have HQ1 : Hid (q1 = none → d = 0) := hq1
      clear hi1 hq1 HV1
      go_wp2_with fail
      refine htt.mono ?_
      clear htt
      rintro e w2 ⟨rfl, hT2, hb2, hs2⟩
      have HT2 : Hid (TagsAt w2 w1.heap.size 0 n K V) := hT2
      have hcl := clone_any q1 d d dl w2 (HI1.out.below hb2) (fun h => ⟨HQ1.out h, HQ1.out h⟩) hd
      clear hT2
      go_wp2_with fail
      refine hcl.mono ?_
      clear hcl
      rintro e w3 ⟨v3, rfl, hv3, hb3⟩
      have hs3 : w2.heap.size ≤ w3.heap.size := hb3.size
      have hap := zappend_any w2.heap.size w1.heap.size 0 n n v3 dl K V w3 (HT2.out.below hb3) (hv3.own (by unfold maxLen; rw [HD.out]; omega)) hs2 hs3 (by have := HTL.out; rw [HD.out]; omega) (by omega)
      clear hv3
      go_wp2_with fail
      refine hap.mono ?_
      clear hap
      rintro e w4 ⟨v4, rfl, hO4, hb4⟩
      have HO4 : Hid (Own w4 w2.heap.size v4 (dl ++ tagsTo (kOf K) (kOf V) n ++ [32])) := hO4
      have hb24 : Below w2.heap.size w2 w4 := hb3.trans hb4
      have hs4 : w2.heap.size ≤ w4.heap.size := hb24.size
      clear hO4 hb3 hb4 hs3
      have hap := zappend_any w4.heap.size w1.heap.size 0 n n (.slice none 0 0) [] K V w4 (HT2.out.below hb24) (World.ownsRow_nil _ _ _ _) (by omega) (Nat.le_refl _) (by have := HTL.out; simp; omega) (by omega)
      go_wp2_with fail
      refine hap.mono ?_
      clear hap
      rintro e w5 ⟨v5, rfl, hO5, hb5⟩
      rw [List.nil_append] at hO5
      obtain ⟨T, hT⟩ : ∃ T, T = tagsTo (kOf K) (kOf V) n := ⟨_, rfl⟩
      have HTT : Hid (T = tagsTo (kOf K) (kOf V) n) := hT
      rw [← hT] at hO5
      rw [← hT] at HO4
      have hTlen : T.length = n + lensTo (kOf K) (kOf V) n := by rw [hT]; exact tagsTo_length _ _ n
      have HTlen : Hid (T.length = n + lensTo (kOf K) (kOf V) n) := hTlen
      have hTle : T.length ≤ 2097152 := by rw [hT]; exact HTL.out
      have hhd := tagsTo_head (kOf K) (kOf V) h0
      rw [← hT] at hhd
      have HHD : Hid (T.getD 0 0 = 64 ∧ 0 < T.length) := hhd
      clear hT hTlen hhd HTL
      obtain ⟨p5, c5, rfl, hp5, hin5⟩ := own_in hO5
      obtain ⟨p4, c4, rfl, hp4, hin4'⟩ := own_in HO4.out
      have hin4 : In w5 p4 (dl ++ T ++ [32]).length (dl ++ T ++ [32]) := hin4'.below hb5
      have hb15 : Below w1.heap.size w1 w5 := hb2.trans ((hb24.trans (hb5.mono hs4)).mono (by omega))
      have hIN1 : In w5 q1 d dl := HI1.out.below hb15
      have hT5 : TagsAt w5 tb to n K V := (HTw.out.below hb1).below hb15
      have hbW : Below W.heap.size W w5 := hb1.trans (hb15.mono hb1.size)
      have hl5 : (T ++ [32]).length = T.length + 1 := by simp
      have hl4 : (dl ++ T ++ [32]).length = d + T.length + 1 := by rw [List.length_append, List.length_append, HD.out]; rfl
      rw [hl5] at hin5 ⊢
      rw [hl4] at hin4 ⊢
      obtain ⟨b5, o5, rfl, hc5⟩ : ∃ b off, p5 = some ⟨b, off, none⟩ ∧ ∀ j, j < T.length + 1 → w5.cell? ⟨b, off + j, none⟩ = some (.int .u8 (((T ++ [32]).getD j 0).toNat : Int)) := by
        rcases hin5.2 with h | h
        · omega
        · exact h
      obtain ⟨b4, o4, rfl, hc4⟩ : ∃ b off, p4 = some ⟨b, off, none⟩ ∧ ∀ j, j < d + T.length + 1 → w5.cell? ⟨b, off + j, none⟩ = some (.int .u8 (((dl ++ T ++ [32]).getD j 0).toNat : Int)) := by
        rcases hin4.2 with h | h
        · omega
        · exact h
      have HC5 : Hid (∀ j, j < T.length + 1 → w5.cell? ⟨b5, o5 + j, none⟩ = some (.int .u8 (((T ++ [32]).getD j 0).toNat : Int))) := hc5
      have HC4 : Hid (∀ j, j < d + T.length + 1 → w5.cell? ⟨b4, o4 + j, none⟩ = some (.int .u8 (((dl ++ T ++ [32]).getD j 0).toNat : Int))) := hc4
      have HI5 : Hid (In w5 q1 d dl) := hIN1
      have HT5 : Hid (TagsAt w5 tb to n K V) := hT5
      have hbfin : Below w'.heap.size w' w5 := hbw.trans (by rw [← hsw]; exact hbW)
      have HBF : Hid (Below w'.heap.size w' w5) := hbfin
      clear hc5 hc4 hIN1 hT5 hin5 hin4 hin4' hO5 HO4 hp5 hp4 hb1 hb2 hs2 hb24 hs4 hb5 hb15 hbW hbw hsw HTw HT2 HI1 HT HIN HP hl5 hl4 hbfin
      generalize hL : T.length = L at *
      have HLL : Hid (T.length = L) := hL
      clear hL
      go_wp2_with fail
      go_loop [8, 9] (fun s i => ∃ k : Nat, k ≤ n ∧ i = .int .i64 k ∧ s = .int .i64 (n + 1 + lensTo (kOf K) (kOf V) k : Nat)) (fun _ i => n - (intOf i).toNat)
      case atStart => exact ⟨0, Nat.zero_le _, rfl, by simp only [lensTo]; go_num⟩
      case round =>
        obtain ⟨k, hk, rfl, rfl⟩ := hrel
        have hmon : k + lensTo (kOf K) (kOf V) k ≤ L := by
          have h1 := tagsTo_mono (kOf K) (kOf V) hk
          rw [tagsTo_length, ← HTT.out, HLL.out] at h1
          exact h1
        by_cases hlt : k < n
        · obtain ⟨hd0, hd1⟩ := HT5.out k hlt
          have hmon2 : k + 1 + lensTo (kOf K) (kOf V) (k + 1) ≤ L := by
            have h1 := tagsTo_mono (kOf K) (kOf V) (show k + 1 ≤ n from hlt)
            rw [tagsTo_length, ← HTT.out, HLL.out] at h1
            exact h1
          obtain ⟨kk, hkk⟩ : ∃ kk, kk = K k := ⟨_, rfl⟩
          obtain ⟨vv, hvv⟩ : ∃ vv, vv = V k := ⟨_, rfl⟩
          have hlen : lensTo (kOf K) (kOf V) (k + 1) = lensTo (kOf K) (kOf V) k + (kk.size + if vv.data.toList = [] then 0 else 1 + vv.size + countRaw vv.data.toList) := by
            rw [lensTo, tagLen, hkk, hvv, kOf, kOf, size_toList, size_toList]
          rw [← hkk] at hd0
          rw [← hvv] at hd1
          rw [hlen] at hmon2
          have HLEN : Hid (lensTo (kOf K) (kOf V) (k + 1) = lensTo (kOf K) (kOf V) k + (kk.size + if vv.data.toList = [] then 0 else 1 + vv.size + countRaw vv.data.toList)) := hlen
          clear hkk hvv hlen
          generalize lensTo (kOf K) (kOf V) k = S at *
          by_cases hE : vv.toList.isEmpty = true
          · have hE2 : vv.data.toList = [] := by rw [← Lib.toList_data]; simpa using hE
            rw [if_pos hE2] at hmon2
            have HE : Hid (vv.data.toList = []) := hE2
            clear hE2
            go_wp2
            go_round
            case rel => exact ⟨k + 1, by omega, by go_num, by rw [HLEN.out, if_pos HE.out]; go_num⟩
            case measure => simp [intOf]; omega
          · have hE' : vv.toList.isEmpty = false := by simpa using hE
            have hE2 : vv.data.toList ≠ [] := by rw [← Lib.toList_data]; simpa using hE
            rw [if_neg hE2] at hmon2
            have HE : Hid (vv.data.toList ≠ []) := hE2
            clear hE2 hE
            go_wp2
            go_loop [8, 11] (fun s j => ∃ r : Nat, r ≤ vv.size ∧ j = .int .i64 r ∧ s = .int .i64 (n + 1 + S + kk.size + 1 + vv.size + countRaw (vv.data.toList.take r) : Nat)) (fun _ j => vv.size - (intOf j).toNat)
            case atStart => exact ⟨0, Nat.zero_le _, rfl, by simp only [List.take_zero, countRaw]; go_num⟩
            case round =>
              obtain ⟨r, hr, rfl, rfl⟩ := hrel
              have hcr := countRaw_le (vv.data.toList.take r)
              have hcl : (vv.data.toList.take r).length ≤ r := List.length_take_le _ _
              by_cases hlr : r < vv.size
              · have hsn := countRaw_snoc vv r hlr
                have hraw := raw_any vv[r] w5
                have HSN : Hid (countRaw (vv.data.toList.take (r + 1)) = countRaw (vv.data.toList.take r) + if isRaw vv[r] then 1 else 0) := hsn
                clear hsn
                generalize countRaw (vv.data.toList.take r) = R at *
                cases hir : isRaw vv[r] with
                | true =>
                  rw [hir] at hraw
                  have HS2 : Hid (countRaw (vv.data.toList.take (r + 1)) = R + 1) := show _ = _ by rw [HSN.out, hir]; rfl
                  clear hir HSN
                  go_wp2_with fail
                  refine hraw.mono ?_
                  rintro e w6 ⟨rfl, hw⟩
                  subst hw
                  clear hraw
                  go_wp2
                  go_round
                  case rel => exact ⟨r + 1, by omega, by go_num, by rw [HS2.out]; go_num⟩
                  case measure => simp [intOf]; omega
                | false =>
                  rw [hir] at hraw
                  have HS2 : Hid (countRaw (vv.data.toList.take (r + 1)) = R) := show _ = _ by rw [HSN.out, hir]; rfl
                  clear hir HSN
                  go_wp2_with fail
                  refine hraw.mono ?_
                  rintro e w6 ⟨rfl, hw⟩
                  subst hw
                  clear hraw
                  go_wp2
                  go_round
                  case rel => exact ⟨r + 1, by omega, by go_num, by rw [HS2.out]; go_num⟩
                  case measure => simp [intOf]; omega
              · obtain rfl : r = vv.size := by omega
                have HFIN : Hid (n + 1 + S + kk.size + 1 + vv.size + countRaw (vv.data.toList.take vv.size) = n + 1 + lensTo (kOf K) (kOf V) (k + 1)) := show _ = _ by
                  rw [HLEN.out, if_neg HE.out, List.take_of_length_le (by rw [size_toList]; omega)]; omega
                go_wp2
                go_round
                case rel => exact ⟨k + 1, by omega, by go_num, by rw [HFIN.out]⟩
                case measure => simp [intOf]; omega
        · obtain rfl : k = n := by omega
          have hLk : k + lensTo (kOf K) (kOf V) k = L := HTlen.out.symm
          generalize lensTo (kOf K) (kOf V) k = S at *
          have hcell0 : w5.cell? ⟨b5, o5, none⟩ = some (.int .u8 64) := by
            have h := HC5.out 0 (by omega)
            have e : (T ++ [32]).getD 0 0 = 64 := by
              rw [List.getD_eq_getElem?_getD, List.getElem?_append_left (by rw [HLL.out]; exact HHD.out.2), ← List.getD_eq_getElem?_getD]; exact HHD.out.1
            rw [e] at h
            exact h
          have hcellL : w5.cell? ⟨b5, o5 + L, none⟩ = some (.int .u8 32) := by
            have h := HC5.out L (by omega)
            have e : (T ++ [32]).getD L 0 = 32 := by
              rw [List.getD_eq_getElem?_getD, List.getElem?_append_right (by rw [HLL.out]; exact Nat.le_refl _), HLL.out, Nat.sub_self]; rfl
            rw [e] at h
            exact h
          go_wp2
          go_loopw [12] (fun i wr => ∃ k3 r : Nat, k3 ≤ d ∧ i = .int .i64 k3 ∧ wr = w5.drewN r) (fun i _ => d - (intOf i).toNat)
          case atStart => exact ⟨0, 0, Nat.zero_le _, rfl, rfl⟩
          case round =>
            obtain ⟨k3, r, hk3, rfl, rfl⟩ := hrel
            by_cases hlt3 : k3 < d
            · obtain ⟨b1, o1, rfl, hc1⟩ : ∃ b off, q1 = some ⟨b, off, none⟩ ∧ ∀ j, j < d → w5.cell? ⟨b, off + j, none⟩ = some (.int .u8 ((dl.getD j 0).toNat : Int)) := by
                rcases HI5.out.2 with h | h
                · omega
                · exact h
              have g1 := hc1 k3 hlt3
              have g2 := HC4.out k3 (by omega)
              have e : (dl ++ T ++ [32]).getD k3 0 = dl.getD k3 0 := by
                rw [List.append_assoc, List.getD_eq_getElem?_getD, List.getElem?_append_left (by rw [HD.out]; exact hlt3), ← List.getD_eq_getElem?_getD]
              rw [e] at g2
              clear e hc1
              generalize ((dl.getD k3 0).toNat : Int) = z at *
              go_wp2
              go_quiet (fail)
              go_wp2
              go_roundw
              case rel => exact ⟨k3 + 1, r + nq, by omega, by go_num, rfl⟩
              case measure => simp [intOf]; omega
            · go_wp2
              go_loopw [13] (fun i wr => ∃ k4 r : Nat, k4 ≤ L + 1 ∧ i = .int .i64 k4 ∧ wr = w5.drewN r) (fun i _ => L + 1 - (intOf i).toNat)
              case atStart => exact ⟨0, r, Nat.zero_le _, rfl, rfl⟩
              case round =>
                obtain ⟨k4, r4, hk4, rfl, rfl⟩ := hrel
                by_cases hlt4 : k4 < L + 1
                · have g1 := HC5.out k4 hlt4
                  have g2 := HC4.out (d + k4) (by omega)
                  have e : (dl ++ T ++ [32]).getD (d + k4) 0 = (T ++ [32]).getD k4 0 := by
                    rw [List.append_assoc, List.getD_eq_getElem?_getD, List.getElem?_append_right (by rw [HD.out]; omega), HD.out, Nat.add_sub_cancel_left, ← List.getD_eq_getElem?_getD]
                  rw [e] at g2
                  clear e
                  generalize (((T ++ [32]).getD k4 0).toNat : Int) = z at *
                  go_wp2
                  go_quiet (fail)
                  go_wp2
                  go_roundw
                  case rel => exact ⟨k4 + 1, r4 + nq, by omega, by go_num, rfl⟩
                  case measure => simp [intOf]; omega
                · go_wp2
                  go_ret
                  exact ⟨rfl, below_drewN HBF.out _⟩

end Go.Proofs.Qxb6605232a.Tag
