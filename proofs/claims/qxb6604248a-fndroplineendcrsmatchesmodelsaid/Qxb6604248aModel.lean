/-
  DERIVED (a prover's text, seat b6604248a). THE WALK of 'FnDropLineEndCRsMatchesModel' over the two contracts of package bytes.
-/
import Derived.Test.Qxb6604248aLaw1
namespace Go.Proofs.Qxb6604248a.Crs
open Go.ChangeShapes Go.WideShapes Go.ChangeAt Go.RowKit
set_option linter.unusedVariables false

theorem keep_step_no {xs acc : List Int} {k : Nat} (hk : k < xs.length) (h : keep xs = acc ++ keep (xs.drop k)) (hd : xs.getD k 0 = 13 ∧ (k + 1 = xs.length ∨ xs.getD (k + 1) 0 = 10)) :
    keep xs = acc ++ keep (xs.drop (k + 1)) := by
  rw [h, keep_drop xs k hk, if_pos hd]

theorem keep_step_yes {xs acc : List Int} {k : Nat} (hk : k < xs.length) (h : keep xs = acc ++ keep (xs.drop k)) (hd : ¬ (xs.getD k 0 = 13 ∧ (k + 1 = xs.length ∨ xs.getD (k + 1) 0 = 10))) :
    keep xs = (acc ++ [xs.getD k 0]) ++ keep (xs.drop (k + 1)) := by
  rw [h, keep_drop xs k hk, if_neg hd]; simp

set_option maxHeartbeats 2000000 in
theorem model_walk (G : Nat) (hcut : CutSaid G) (htrim : TrimSaid) (p : Option Addr) (n c : Nat) (xs : List Int) (m : Int) (w : World) (hin : In w p n xs) (hp : p = none → n = 0 ∧ c = 0) (hn : n ≤ 1048576) (hby : Bytes xs)
    (hG : G < w.heap.size) (hm : w.cell? ⟨G, 0, none⟩ = some (.int .i64 m)) :
    Calls Try.prog 7 #[.slice p n c] w fun e w' => e = .returned (.bool true) ∧ Below w.heap.size w w' := by
  have HIN : Hid (In w p n xs) := hin
  have HP : Hid (p = none → n = 0 ∧ c = 0) := hp
  have HX : Hid (xs.length = n) := hin.1
  have HBY : Hid (Bytes xs) := hby
  have HM : Hid (w.cell? ⟨G, 0, none⟩ = some (.int .i64 m)) := hm
  have HCUT : Hid (CutSaid G) := hcut
  have HTRIM : Hid TrimSaid := htrim
  obtain ⟨i0, hi, hz0, hz1, hz2⟩ := info_parts info5
  have HB2 : Hid (i0.bytes * n ≤ 281474976710656) := show _ ≤ _ by rw [hz2]; omega
  have hml : n ≤ maxLen := by unfold maxLen; omega
  have HKL : Hid ((keep xs).length ≤ n) := show (keep xs).length ≤ n by rw [← hin.1]; exact keep_length_le xs
  clear hin hp hby hm hcut htrim
  go_enter Try.func7, Try.ntmps7
  go_wp2_with fail
  refine (bytes_yes _ _ _ _ hn).mono ?_
  rintro e w' ⟨rfl, hw⟩
  subst hw
  go_wp2_with fail
  refine (clone_any _ _ _ _ _ HIN.out HP.out hn).mono ?_
  rintro e w1 ⟨v, rfl, hv, hb1⟩
  have HV : Hid (Fresh w1 w'.heap.size v xs) := hv
  have HM1 : Hid (w1.cell? ⟨G, 0, none⟩ = some (.int .i64 m)) := show _ = _ by rw [hb1.cell (p := ⟨G, 0, none⟩) hG]; exact HM.out
  have hs1 : w'.heap.size ≤ w1.heap.size := hb1.size
  clear hv
  obtain ⟨pd, rfl, hpd, hind⟩ := HV.out.inp
  rw [HX.out] at hpd hind ⊢
  have HIND : Hid (In w1 pd n xs) := hind
  have HPD : Hid (pd = none → n = 0) := hpd
  clear hind hpd HIN HP HV HM
  go_wp2_with (at_make; refine wpList_make_own _ rfl (.const (.int .i64 0)) (.tmp 16) 42 rfl w1.heap.size 5 i0 (.int .u8 0) 1 Try.underlying42 hi hz0 hz1 _ _ _ n rfl rfl rfl HB2.out hml (Nat.le_refl _) ?_; intro w2 hown2 hgr2)
  have hb2 : Below w1.heap.size w1 w2 := (Below.refl _ _).grown hgr2 (Nat.le_refl _) (by intro k hk; cases hk)
  have HOWN : Hid (w2.ownsRow w1.heap.size 5 1 (.slice (some ⟨w1.heap.size, 0, none⟩) 0 n) 0 []) := hown2
  clear hown2 hgr2
  go_loopw [3, 4] (fun want i wr => ∃ (k : Nat) (acc : List Int), k ≤ n ∧ i = .int .i64 k ∧ acc.length ≤ k ∧ Hid (wr.ownsRow w1.heap.size 5 1 want acc.length (B8 acc)) ∧ Hid (keep xs = acc ++ keep (xs.drop k)) ∧ Below w1.heap.size w1 wr) (fun _ i _ => n - (intOf i).toNat)
  case atStart => exact ⟨0, [], Nat.zero_le _, rfl, Nat.le_refl _, HOWN, show _ = _ by simp, hb2⟩
  case round =>
    obtain ⟨k, acc, hk, rfl, hak, HO, HK, hbr⟩ := hrel
    by_cases hlt : k < n
    · have hsz : w1.heap.size ≤ wr.heap.size := hbr.size
      obtain ⟨b, off, rfl, hcd⟩ : ∃ b off, pd = some ⟨b, off, none⟩ ∧ ∀ j, j < n → wr.cell? ⟨b, off + j, none⟩ = some (.int .u8 (xs.getD j 0)) := by
        rcases HIND.out.2 with h | ⟨b, off, h1, h2⟩
        · omega
        · refine ⟨b, off, h1, fun j hj => ?_⟩
          rw [hbr.cell (p := ⟨b, off + j, none⟩) (World.block_lt_of_cell? w1 ⟨b, off + j, none⟩ (h2 j hj))]; exact h2 j hj
      have hl1 := hcd k hlt
      obtain ⟨z, hz⟩ : ∃ z, z = xs.getD k 0 := ⟨_, rfl⟩
      have HZ : Hid (z = xs.getD k 0) := hz
      rw [← hz] at hl1
      clear hz
      by_cases h13 : z = 13
      · have t13 : (z == 13) = true := by simp [h13]
        have H13 : Hid (z = 13) := h13
        clear h13
        by_cases hend : k + 1 = n
        · have tend : ((k : Int) + 1 == (n : Int)) = true := by simp; omega
          clear hcd
          go_wp2
          go_roundw
          case rel => exact ⟨k + 1, acc, by omega, by go_num, by omega, HO, keep_step_no (by rw [HX.out]; exact hlt) HK.out (by rw [← HZ.out, HX.out]; exact ⟨H13.out, Or.inl hend⟩), hbr⟩
          case measure => simp [intOf]; omega
        · have tend : ((k : Int) + 1 == (n : Int)) = false := by simp; omega
          have hl2 := hcd (k + 1) (by omega)
          obtain ⟨y, hy⟩ : ∃ y, y = xs.getD (k + 1) 0 := ⟨_, rfl⟩
          have HY : Hid (y = xs.getD (k + 1) 0) := hy
          rw [← hy] at hl2
          clear hy hcd
          by_cases h10 : y = 10
          · have t10 : (y == 10) = true := by simp [h10]
            have H10 : Hid (y = 10) := h10
            clear h10
            go_wp2
            go_roundw
            case rel => exact ⟨k + 1, acc, by omega, by go_num, by omega, HO, keep_step_no (by rw [HX.out]; exact hlt) HK.out (by rw [← HZ.out, ← HY.out]; exact ⟨H13.out, Or.inr H10.out⟩), hbr⟩
            case measure => simp [intOf]; omega
          · have t10 : (y == 10) = false := by simp [h10]
            have H10 : Hid (¬ y = 10) := h10
            clear h10
            go_wp2_with (at_builtin; refine wpList_append_own _ rfl (.tmp 44) (.tmp 49) 42 rfl w1.heap.size 5 i0 (.int .u8 0) 1 1 Try.underlying42 hi hz0 hz1 hz2 rfl (by decide) _ _ _ rfl (HO.out.alloc _) ⟨wr.heap.size, 0, none⟩ 1 1 [.int .u8 z] rfl rfl (by intro j u hj; match j, hj with | 0, hj => (simp at hj; subst hj; simp [Addr.add])) (by intro u hu; simp at hu; subst hu; rfl) (by unfold maxLen; omega) (by omega) (by simp; omega) ?_; intro v' w3 hown3 hgr3 hnil3)
            have HO3 : Hid (w3.ownsRow w1.heap.size 5 1 v' (acc ++ [z]).length (B8 (acc ++ [z]))) := show w3.ownsRow _ _ _ _ _ _ by rw [B8_append, List.length_append]; exact hown3
            have hbr3 : Below w1.heap.size w1 w3 := by
              refine (hbr.alloc hsz _).grown hgr3 (by simp; omega) ?_
              intro q hq
              exact (HO.out.lt q hq).1
            have HK3 : Hid (keep xs = (acc ++ [z]) ++ keep (xs.drop (k + 1))) := show _ = _ by rw [HZ.out]; exact keep_step_yes (by rw [HX.out]; exact hlt) HK.out (by rw [← HZ.out, ← HY.out, HX.out]; rintro ⟨_, h | h⟩; exact hend h; exact H10.out h)
            clear hown3 hgr3 hnil3
            go_wp2
            go_roundw
            case rel => exact ⟨k + 1, acc ++ [z], by omega, by go_num, by simp; omega, HO3, HK3, hbr3⟩
            case measure => simp [intOf]; omega
      · have t13 : (z == 13) = false := by simp [h13]
        have H13 : Hid (¬ z = 13) := h13
        clear h13 hcd
        go_wp2_with (at_builtin; refine wpList_append_own _ rfl (.tmp 44) (.tmp 49) 42 rfl w1.heap.size 5 i0 (.int .u8 0) 1 1 Try.underlying42 hi hz0 hz1 hz2 rfl (by decide) _ _ _ rfl (HO.out.alloc _) ⟨wr.heap.size, 0, none⟩ 1 1 [.int .u8 z] rfl rfl (by intro j u hj; match j, hj with | 0, hj => (simp at hj; subst hj; simp [Addr.add])) (by intro u hu; simp at hu; subst hu; rfl) (by unfold maxLen; omega) (by omega) (by simp; omega) ?_; intro v' w3 hown3 hgr3 hnil3)
        have HO3 : Hid (w3.ownsRow w1.heap.size 5 1 v' (acc ++ [z]).length (B8 (acc ++ [z]))) := show w3.ownsRow _ _ _ _ _ _ by rw [B8_append, List.length_append]; exact hown3
        have hbr3 : Below w1.heap.size w1 w3 := by
          refine (hbr.alloc hsz _).grown hgr3 (by simp; omega) ?_
          intro q hq
          exact (HO.out.lt q hq).1
        have HK3 : Hid (keep xs = (acc ++ [z]) ++ keep (xs.drop (k + 1))) := show _ = _ by rw [HZ.out]; exact keep_step_yes (by rw [HX.out]; exact hlt) HK.out (by rw [← HZ.out]; rintro ⟨h, _⟩; exact H13.out h)
        clear hown3 hgr3 hnil3
        go_wp2
        go_roundw
        case rel => exact ⟨k + 1, acc ++ [z], by omega, by go_num, by simp; omega, HO3, HK3, hbr3⟩
        case measure => simp [intOf]; omega
    · obtain rfl : k = n := by omega
      have hacc : keep xs = acc := by rw [HK.out, List.drop_eq_nil_of_le (by rw [HX.out]; omega)]; simp [keep]
      subst hacc
      obtain ⟨pw, cw, hw1, hw2, hw3⟩ := own_in HO.out
      subst hw1
      have HW : Hid (In wr pw (keep xs).length (keep xs)) := hw3
      have hcl := clone_any pd k k xs wr (HIND.out.below hbr) (fun h => ⟨HPD.out h, HPD.out h⟩) hn
      clear hw3 hw2
      go_wp2_with fail
      refine hcl.mono ?_
      clear hcl
      rintro e w3 ⟨v3, rfl, hv3, hb3⟩
      have hmw : w3.cell? ⟨G, 0, none⟩ = some (.int .i64 m) := by
        rw [hb3.cell (p := ⟨G, 0, none⟩) (by show G < _; have := hbr.size; omega), hbr.cell (p := ⟨G, 0, none⟩) (by show G < _; omega)]; exact HM1.out
      have hzd := zdrop_any G HCUT.out HTRIM.out wr.heap.size v3 xs m w3 hv3 hb3.size (by rw [HX.out]; omega) HBY.out (by have := hbr.size; omega) hmw
      have HW3 : Hid (In w3 pw (keep xs).length (keep xs)) := HW.out.below hb3
      clear hmw hv3
      go_wp2_with fail
      refine hzd.mono ?_
      clear hzd
      rintro e w4 ⟨pg, cg, rfl, hpg, hing, hb4⟩
      have hin4 : In w4 pw (keep xs).length (keep xs) := HW.out.below (hb3.trans hb4)
      have hsm := same_any pg pw (keep xs).length cg cw (keep xs) w4 (by have := HKL.out; omega) hing hin4
      clear hing hin4 hpg
      generalize (keep xs).length = K at *
      go_wp2_with fail
      refine hsm.mono ?_
      clear hsm
      rintro e w5 ⟨rfl, hb5⟩
      go_wp2
      go_ret
      exact ⟨rfl, hb1.trans (((hbr.trans ((hb3.mono hbr.size).trans (hb4.mono hbr.size))).mono hs1).trans (hb5.mono (by have := hb4.size; have := hb3.size; have := hbr.size; omega)))⟩

end Go.Proofs.Qxb6604248a.Crs
