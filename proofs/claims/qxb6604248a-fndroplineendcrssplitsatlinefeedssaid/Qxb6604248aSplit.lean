/-
  DERIVED (a prover's text, seat b6604248a). THE WALK of 'FnDropLineEndCRsSplitsAtLineFeeds' over the two contracts of package bytes.
-/
import Derived.Test.Qxb6604248aLaw1
namespace Go.Proofs.Qxb6604248a.Crs
open Go.ChangeShapes Go.WideShapes Go.ChangeAt Go.RowKit
set_option linter.unusedVariables false

theorem In.none {w : World} {p : Option Addr} {n c : Nat} {xs : List Int} (h : In w p n xs) (hc : p = none → c = 0) (hp : p = none) : n = 0 ∧ c = 0 := by
  refine ⟨?_, hc hp⟩
  rcases h.2 with h | ⟨b, off, h, _⟩
  · exact h
  · rw [hp] at h; cases h

theorem In.cells {w : World} {p : Option Addr} {n : Nat} {xs : List Int} (h : In w p n xs) (ad : Addr) (hp : p = some ad) : ∀ j u, (B8 xs)[j]? = some u → w.cell? (ad.add j) = some u := by
  intro j u hj
  have hjl : j < xs.length := by
    have := (List.getElem?_eq_some_iff.1 hj).1
    rwa [B8_length] at this
  rcases h.2 with h0 | ⟨b, off, h1, hc⟩
  · rw [h.1] at hjl; omega
  · rw [hp] at h1
    cases h1
    rw [add_plain, hc j (by rw [← h.1]; exact hjl), ← hj, B8, List.getElem?_map, List.getD_eq_getElem?_getD, List.getElem?_eq_getElem hjl]; rfl

set_option maxHeartbeats 4000000 in
theorem split_walk (G : Nat) (hcut : CutSaid G) (htrim : TrimSaid) (p1 p2 : Option Addr) (n1 c1 n2 c2 : Nat) (xs ys : List Int) (m : Int) (w : World) (hin1 : In w p1 n1 xs) (hp1 : p1 = none → n1 = 0 ∧ c1 = 0) (hin2 : In w p2 n2 ys) (hp2 : p2 = none → n2 = 0 ∧ c2 = 0)
    (hn : n1 + n2 ≤ 1048576) (hby1 : Bytes xs) (hby2 : Bytes ys) (hG : G < w.heap.size) (hm : w.cell? ⟨G, 0, none⟩ = some (.int .i64 m)) :
    Calls Try.prog 8 #[.slice p1 n1 c1, .slice p2 n2 c2] w fun e w' => e = .returned (.bool true) ∧ Below w.heap.size w w' := by
  have HIN1 : Hid (In w p1 n1 xs) := hin1
  have HP1 : Hid (p1 = none → n1 = 0 ∧ c1 = 0) := hp1
  have HIN2 : Hid (In w p2 n2 ys) := hin2
  have HP2 : Hid (p2 = none → n2 = 0 ∧ c2 = 0) := hp2
  have HX : Hid (xs.length = n1) := hin1.1
  have HY : Hid (ys.length = n2) := hin2.1
  have HBY1 : Hid (Bytes xs) := hby1
  have HBY2 : Hid (Bytes ys) := hby2
  have HM : Hid (w.cell? ⟨G, 0, none⟩ = some (.int .i64 m)) := hm
  have HCUT : Hid (CutSaid G) := hcut
  have HTRIM : Hid TrimSaid := htrim
  obtain ⟨i0, hi, hz0, hz1, hz2⟩ := info_parts info5
  have HB2 : Hid (∀ N, N ≤ 9000000 → i0.bytes * N ≤ 281474976710656 ∧ N ≤ maxLen) := fun N hN => ⟨by rw [hz2]; omega, by unfold maxLen; omega⟩
  have hn1 : n1 ≤ 1048576 := by omega
  have hn2 : n2 ≤ 1048576 := by omega
  clear hin1 hin2 hp1 hp2 hby1 hby2 hm hcut htrim hz2
  go_enter Try.func8, Try.ntmps8
  go_wp2_with fail
  refine (bytes2_yes _ _ _ _ _ _ _ hn).mono ?_
  rintro e w' ⟨rfl, hw⟩
  subst hw
  go_wp2_with fail
  refine (clone_any _ _ _ _ _ HIN1.out HP1.out hn1).mono ?_
  rintro e w1 ⟨v1, rfl, hv1, hb1⟩
  have HV1 : Hid (Fresh w1 w'.heap.size v1 xs) := hv1
  clear hv1
  go_wp2_with fail
  refine (clone_any _ _ _ _ _ (HIN2.out.below hb1) HP2.out hn2).mono ?_
  rintro e w2 ⟨v2, rfl, hv2, hb2⟩
  have HV2 : Hid (Fresh w2 w1.heap.size v2 ys) := hv2
  clear hv2
  obtain ⟨q1, rfl, hq1, hi1⟩ := HV1.out.inp
  obtain ⟨q2, rfl, hq2, hi2⟩ := HV2.out.inp
  rw [HX.out] at hq1 hi1 ⊢
  rw [HY.out] at hq2 hi2 ⊢
  have HI1 : Hid (In w2 q1 n1 xs) := hi1.below hb2
  have HI2 : Hid (In w2 q2 n2 ys) := hi2
  have HQ1 : Hid (q1 = none → n1 = 0) := hq1
  have HQ2 : Hid (q2 = none → n2 = 0) := hq2
  have hb02 : Below w'.heap.size w' w2 := hb1.trans (hb2.mono hb1.size)
  have HM2 : Hid (w2.cell? ⟨G, 0, none⟩ = some (.int .i64 m)) := show _ = _ by rw [hb02.cell (p := ⟨G, 0, none⟩) hG]; exact HM.out
  have hs2 : w'.heap.size ≤ w2.heap.size := hb02.size
  clear hi1 hi2 hq1 hq2 HIN1 HIN2 HP1 HP2 HV1 HV2 hb1 hb2 HM
  have hs3 : ∀ W, Below w2.heap.size w2 W → w2.heap.size ≤ W.heap.size := fun W h => h.size
  have HS3 : Hid (∀ W, Below w2.heap.size w2 W → w2.heap.size ≤ W.heap.size) := hs3
  clear hs3
  go_wp2_with (first
    | (at_make; refine wpList_make_own _ rfl (.const (.int .i64 0)) (.tmp 39) 42 rfl w2.heap.size 5 i0 (.int .u8 0) 1 Try.underlying42 hi hz0 hz1 _ _ _ (n1 + 1 + n2) rfl rfl (by omega) (HB2.out _ (by omega)).1 (HB2.out _ (by omega)).2 (Nat.le_refl _) ?_; intro w3 hown3 hgr3; have hb3 : Below w2.heap.size w2 w3 := (Below.refl _ _).grown hgr3 (Nat.le_refl _) (by intro k hk; cases hk); have HO3 : Hid (w3.ownsRow w2.heap.size 5 1 (.slice (some ⟨w2.heap.size, 0, none⟩) 0 (n1 + 1 + n2)) 0 []) := hown3; clear hown3 hgr3)
    | (at_builtin; refine wpList_append_fits_any _ rfl (.tmp 41) (.tmp 42) 42 rfl w2.heap.size 5 i0 1 Try.underlying42 hi hz1 w2.heap.size 0 (n1 + 1 + n2) [] rfl HO3.out q1 n1 n1 (B8 xs) rfl (by rw [B8_length, HX.out]; omega) (fun h => ⟨HQ1.out h, HQ1.out h⟩) ((HI1.out.below hb3).cells) (B8_one _) (by omega) ?_; intro w4 hown4 hgr4; have hb4 : Below w2.heap.size w2 w4 := hb3.grown hgr4 (HS3.out _ hb3) (by intro k hk; cases hk; exact Nat.le_refl _); simp only [Nat.zero_add, List.nil_append] at hown4; have HO4 : Hid (w4.ownsRow w2.heap.size 5 1 (.slice (some ⟨w2.heap.size, 0, none⟩) n1 (n1 + 1 + n2)) n1 (B8 xs)) := hown4; clear hown4 hgr4)
    | (at_builtin; refine wpList_append_fits _ rfl (.tmp 44) (.tmp 45) 42 rfl w2.heap.size 5 i0 1 Try.underlying42 hi hz1 w2.heap.size n1 (n1 + 1 + n2) (B8 xs) rfl (HO4.out.alloc _) ⟨w4.heap.size, 0, none⟩ 1 1 [.int .u8 10] rfl rfl (by intro j u hj; match j, hj with | 0, hj => (simp at hj; subst hj; simp [Addr.add])) (by intro u hu; simp at hu; subst hu; rfl) (by omega) ?_; intro w5 hown5 hgr5; have hb5 : Below w2.heap.size w2 w5 := (hb4.alloc (HS3.out _ hb4) _).grown hgr5 (by have := HS3.out _ hb4; simp; omega) (by intro k hk; cases hk; exact Nat.le_refl _); have HO5 : Hid (w5.ownsRow w2.heap.size 5 1 (.slice (some ⟨w2.heap.size, 0, none⟩) (n1 + 1) (n1 + 1 + n2)) (n1 + 1) (B8 xs ++ [.int .u8 10])) := hown5; clear hown5 hgr5)
    | (at_builtin; refine wpList_append_fits_any _ rfl (.tmp 47) (.tmp 48) 42 rfl w2.heap.size 5 i0 1 Try.underlying42 hi hz1 w2.heap.size (n1 + 1) (n1 + 1 + n2) (B8 xs ++ [.int .u8 10]) rfl HO5.out q2 n2 n2 (B8 ys) rfl (by rw [B8_length, HY.out]; omega) (fun h => ⟨HQ2.out h, HQ2.out h⟩) ((HI2.out.below hb5).cells) (B8_one _) (by omega) ?_; intro w6 hown6 hgr6; have hb6 : Below w2.heap.size w2 w6 := hb5.grown hgr6 (HS3.out _ hb5) (by intro k hk; cases hk; exact Nat.le_refl _); have HO6 : Hid (w6.ownsRow w2.heap.size 5 1 (.slice (some ⟨w2.heap.size, 0, none⟩) (n1 + 1 + n2) (n1 + 1 + n2)) (n1 + 1 + n2) (B8 xs ++ [.int .u8 10] ++ B8 ys)) := hown6; clear hown6 hgr6))
  clear HO3 hb3 HO4 hb4 HO5 hb5
  have hlw : (xs ++ 10 :: ys).length = n1 + 1 + n2 := by simp; rw [HX.out, HY.out]; omega
  have hfw : Fresh w6 w2.heap.size (.slice (some ⟨w2.heap.size, 0, none⟩) (n1 + 1 + n2) (n1 + 1 + n2)) (xs ++ 10 :: ys) := by
    refine Or.inr ⟨w2.heap.size, by rw [hlw], Nat.le_refl _, ?_⟩
    have := Blk.row HO6.out
    have e : B8 (xs ++ 10 :: ys) = B8 xs ++ [.int .u8 10] ++ B8 ys := by simp [B8]
    rw [e]; exact this
  have hbyw : Bytes (xs ++ 10 :: ys) := by
    intro z hz
    rcases List.mem_append.1 hz with h | h
    · exact HBY1.out z h
    · rcases List.mem_cons.1 h with rfl | h
      · decide
      · exact HBY2.out z h
  have hmw : w6.cell? ⟨G, 0, none⟩ = some (.int .i64 m) := by rw [hb6.cell (p := ⟨G, 0, none⟩) (by show G < _; omega)]; exact HM2.out
  have hzd := zdrop_any G HCUT.out HTRIM.out w2.heap.size _ _ m w6 hfw (HS3.out _ hb6) (by rw [hlw]; omega) hbyw (by omega) hmw
  clear hfw hbyw hmw HO6
  have hs6 := HS3.out _ hb6
  refine hzd.mono ?_
  clear hzd
  rintro e w7 ⟨pg, cg, rfl, hpg, hing, hb7⟩
  have HING : Hid (In w7 pg (keep (xs ++ 10 :: ys)).length (keep (xs ++ 10 :: ys))) := hing
  have hb27 : Below w2.heap.size w2 w7 := hb6.trans hb7
  have hlk : (keep (xs ++ 10 :: ys)).length = (keep xs).length + 1 + (keep ys).length := by rw [keep_split]; simp; omega
  have HLK : Hid ((keep (xs ++ 10 :: ys)).length = (keep xs).length + 1 + (keep ys).length) := hlk
  have hs7 : w2.heap.size ≤ w7.heap.size := HS3.out _ hb27
  clear hing hpg hb6 hb7 hlw hlk hs6
  have hcl1 := clone_any q1 n1 n1 xs w7 (HI1.out.below hb27) (fun h => ⟨HQ1.out h, HQ1.out h⟩) hn1
  generalize (keep (xs ++ 10 :: ys)).length = Kw at *
  go_wp2_with fail
  refine hcl1.mono ?_
  clear hcl1
  rintro e w8 ⟨v8, rfl, hv8, hb8⟩
  have hs8 : w7.heap.size ≤ w8.heap.size := hb8.size
  have hmw8 : w8.cell? ⟨G, 0, none⟩ = some (.int .i64 m) := by rw [hb8.cell (p := ⟨G, 0, none⟩) (by show G < _; omega), hb27.cell (p := ⟨G, 0, none⟩) (by show G < _; omega)]; exact HM2.out
  have hzd := zdrop_any G HCUT.out HTRIM.out w7.heap.size v8 xs m w8 hv8 hs8 (by rw [HX.out]; omega) HBY1.out (by omega) hmw8
  clear hv8 hmw8
  go_wp2_with fail
  refine hzd.mono ?_
  clear hzd
  rintro e w9 ⟨px, cx, rfl, hpx, hinx, hb9⟩
  have HINX : Hid (In w9 px (keep xs).length (keep xs)) := hinx
  have HPX : Hid (px = none → cx = 0) := hpx
  have hb79 : Below w7.heap.size w7 w9 := hb8.trans hb9
  have hb29 : Below w2.heap.size w2 w9 := hb27.trans (hb79.mono hs7)
  have hs9 : w7.heap.size ≤ w9.heap.size := hb79.size
  clear hpx hinx hb8 hb9
  have hcl2 := clone_any q2 n2 n2 ys w9 (HI2.out.below hb29) (fun h => ⟨HQ2.out h, HQ2.out h⟩) hn2
  have hkx : (keep xs).length ≤ n1 := by rw [← HX.out]; exact keep_length_le xs
  have hky : (keep ys).length ≤ n2 := by rw [← HY.out]; exact keep_length_le ys
  obtain ⟨Kx, hKx⟩ : ∃ Kx, (keep xs).length = Kx := ⟨_, rfl⟩
  obtain ⟨Ky, hKy⟩ : ∃ Ky, (keep ys).length = Ky := ⟨_, rfl⟩
  have HKX : Hid ((keep xs).length = Kx) := hKx
  have HKY : Hid ((keep ys).length = Ky) := hKy
  rw [hKx] at hkx ⊢
  rw [hKy] at hky
  clear hKx hKy
  go_wp2_with fail
  refine hcl2.mono ?_
  clear hcl2
  rintro e w10 ⟨v10, rfl, hv10, hb10⟩
  have hs10 : w9.heap.size ≤ w10.heap.size := hb10.size
  have hmw10 : w10.cell? ⟨G, 0, none⟩ = some (.int .i64 m) := by rw [hb10.cell (p := ⟨G, 0, none⟩) (by show G < _; omega), hb29.cell (p := ⟨G, 0, none⟩) (by show G < _; omega)]; exact HM2.out
  have hzd := zdrop_any G HCUT.out HTRIM.out w9.heap.size v10 ys m w10 hv10 hs10 (by rw [HY.out]; omega) HBY2.out (by omega) hmw10
  rw [HKY.out] at hzd
  clear hv10 hmw10
  go_wp2_with fail
  refine hzd.mono ?_
  clear hzd
  rintro e w11 ⟨py, cy, rfl, hpy, hiny, hb11⟩
  have HINY : Hid (In w11 py Ky (keep ys)) := hiny
  have HPY : Hid (py = none → cy = 0) := hpy
  have hb9' : Below w9.heap.size w9 w11 := hb10.trans hb11
  have HINX' : Hid (In w11 px Kx (keep xs)) := (by rw [← HKX.out]; exact HINX.out.below hb9')
  have HING' : Hid (In w11 pg Kw (keep (xs ++ 10 :: ys))) := (HING.out.below hb79).below hb9'
  have hs11 : w9.heap.size ≤ w11.heap.size := hb9'.size
  have hb2' : Below w2.heap.size w2 w11 := hb29.trans (hb9'.mono (by omega))
  clear hpy hiny hb10 hb11 HINX HING hb27 hb79 hb29
  obtain rfl : Kw = Kx + 1 + Ky := by rw [HLK.out, HKX.out, HKY.out]
  have HS4 : Hid (∀ W, Below w11.heap.size w11 W → w11.heap.size ≤ W.heap.size) := fun W h => h.size
  go_wp2_with (first
    | (at_make; refine wpList_make_own _ rfl (.const (.int .i64 0)) (.tmp 63) 42 rfl w11.heap.size 5 i0 (.int .u8 0) 1 Try.underlying42 hi hz0 hz1 _ _ _ (Kx + 1 + Ky) rfl rfl (by omega) (HB2.out _ (by omega)).1 (HB2.out _ (by omega)).2 (Nat.le_refl _) ?_; intro w12 hown12 hgr12; have hb12 : Below w11.heap.size w11 w12 := (Below.refl _ _).grown hgr12 (Nat.le_refl _) (by intro k hk; cases hk); have HO12 : Hid (w12.ownsRow w11.heap.size 5 1 (.slice (some ⟨w11.heap.size, 0, none⟩) 0 (Kx + 1 + Ky)) 0 []) := hown12; clear hown12 hgr12)
    | (at_builtin; refine wpList_append_fits_any _ rfl (.tmp 65) (.tmp 66) 42 rfl w11.heap.size 5 i0 1 Try.underlying42 hi hz1 w11.heap.size 0 (Kx + 1 + Ky) [] rfl HO12.out px Kx cx (B8 (keep xs)) rfl (by rw [B8_length, HKX.out]; omega) (HINX'.out.none HPX.out) ((HINX'.out.below hb12).cells) (B8_one _) (by omega) ?_; intro w13 hown13 hgr13; have hb13 : Below w11.heap.size w11 w13 := hb12.grown hgr13 (HS4.out _ hb12) (by intro k hk; cases hk; exact Nat.le_refl _); simp only [Nat.zero_add, List.nil_append] at hown13; have HO13 : Hid (w13.ownsRow w11.heap.size 5 1 (.slice (some ⟨w11.heap.size, 0, none⟩) Kx (Kx + 1 + Ky)) Kx (B8 (keep xs))) := hown13; clear hown13 hgr13)
    | (at_builtin; refine wpList_append_fits _ rfl (.tmp 68) (.tmp 69) 42 rfl w11.heap.size 5 i0 1 Try.underlying42 hi hz1 w11.heap.size Kx (Kx + 1 + Ky) (B8 (keep xs)) rfl (HO13.out.alloc _) ⟨w13.heap.size, 0, none⟩ 1 1 [.int .u8 10] rfl rfl (by intro j u hj; match j, hj with | 0, hj => (simp at hj; subst hj; simp [Addr.add])) (by intro u hu; simp at hu; subst hu; rfl) (by omega) ?_; intro w14 hown14 hgr14; have hb14 : Below w11.heap.size w11 w14 := (hb13.alloc (HS4.out _ hb13) _).grown hgr14 (by have := HS4.out _ hb13; simp; omega) (by intro k hk; cases hk; exact Nat.le_refl _); have HO14 : Hid (w14.ownsRow w11.heap.size 5 1 (.slice (some ⟨w11.heap.size, 0, none⟩) (Kx + 1) (Kx + 1 + Ky)) (Kx + 1) (B8 (keep xs) ++ [.int .u8 10])) := hown14; clear hown14 hgr14)
    | (at_builtin; refine wpList_append_fits_any _ rfl (.tmp 71) (.tmp 72) 42 rfl w11.heap.size 5 i0 1 Try.underlying42 hi hz1 w11.heap.size (Kx + 1) (Kx + 1 + Ky) (B8 (keep xs) ++ [.int .u8 10]) rfl HO14.out py Ky cy (B8 (keep ys)) rfl (by rw [B8_length, HKY.out]; omega) (HINY.out.none HPY.out) ((HINY.out.below hb14).cells) (B8_one _) (by omega) ?_; intro w15 hown15 hgr15; have hb15 : Below w11.heap.size w11 w15 := hb14.grown hgr15 (HS4.out _ hb14) (by intro k hk; cases hk; exact Nat.le_refl _); have HO15 : Hid (w15.ownsRow w11.heap.size 5 1 (.slice (some ⟨w11.heap.size, 0, none⟩) (Kx + 1 + Ky) (Kx + 1 + Ky)) (Kx + 1 + Ky) (B8 (keep xs) ++ [.int .u8 10] ++ B8 (keep ys))) := hown15; clear hown15 hgr15))
  have hse : B8 (keep (xs ++ 10 :: ys)) = B8 (keep xs) ++ [.int .u8 10] ++ B8 (keep ys) := by rw [keep_split]; simp [B8]
  have hwi : In w15 (some ⟨w11.heap.size, 0, none⟩) (Kx + 1 + Ky) (keep (xs ++ 10 :: ys)) := by
    have hbk := Blk.row HO15.out
    rw [← hse] at hbk
    have hbk' : Blk w15 w11.heap.size (B8 (keep (xs ++ 10 :: ys)) ++ []) := by simpa using hbk
    have := In.of_blk hbk'
    rwa [HING'.out.1] at this
  refine (same_any pg (some ⟨w11.heap.size, 0, none⟩) (Kx + 1 + Ky) cg (Kx + 1 + Ky) (keep (xs ++ 10 :: ys)) w15 (by omega) (HING'.out.below hb15) hwi).mono ?_
  rintro e w16 ⟨rfl, hb16⟩
  clear hse hwi
  go_wp2
  go_ret
  have hs15 := hb15.size
  exact ⟨rfl, ((hb02.trans (hb2'.mono hs2)).trans (hb15.mono (by omega))).trans (hb16.mono (by omega))⟩

end Go.Proofs.Qxb6604248a.Crs
