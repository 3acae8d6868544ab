/-
  DERIVED (a prover's text, seat b6605232a). zzUnescapeRuns (the model by runs of backslashes), zzSameString.
-/
import Derived.Test.Qxb6605232aUnesc
import Derived.Test.Qxb6605232aBig
namespace Go.Proofs.Qxb6605232a.Tag
open Go.ChangeShapes Go.WideShapes Go.ChangeAt Go.RowKit
set_option linter.unusedVariables false

def known (z : UInt8) : Prop := z = 58 ∨ z = 115 ∨ z = 92 ∨ z = 114 ∨ z = 110

set_option maxHeartbeats 1000000 in
theorem letter_yes (z : UInt8) (w : World) (h : known z) :
    Calls Try.prog 18 #[.int .u8 (z.toNat : Int)] w fun e w' => e = .returned (.tuple #[.int .u8 ((dec z).toNat : Int), .bool true]) ∧ w' = w := by
  rcases h with rfl | rfl | rfl | rfl | rfl
  all_goals
    go_enter Try.func18, Try.ntmps18
    go_wp2
    go_ret2
    exact ⟨rfl, rfl⟩

set_option maxHeartbeats 1000000 in
theorem letter_no (z : UInt8) (w : World) (h : ¬ known z) :
    Calls Try.prog 18 #[.int .u8 (z.toNat : Int)] w fun e w' => e = .returned (.tuple #[.int .u8 0, .bool false]) ∧ w' = w := by
  unfold known at h
  have h58 : ((z.toNat : Int) == 58) = false := by rw [show ((z.toNat : Int) == 58) = decide (z = 58) from beq_byte (by decide)]; simp; intro e; exact h (by simp [e])
  have h115 : ((z.toNat : Int) == 115) = false := by rw [show ((z.toNat : Int) == 115) = decide (z = 115) from beq_byte (by decide)]; simp; intro e; exact h (by simp [e])
  have h92 : ((z.toNat : Int) == 92) = false := by rw [show ((z.toNat : Int) == 92) = decide (z = 92) from beq_byte (by decide)]; simp; intro e; exact h (by simp [e])
  have h114 : ((z.toNat : Int) == 114) = false := by rw [show ((z.toNat : Int) == 114) = decide (z = 114) from beq_byte (by decide)]; simp; intro e; exact h (by simp [e])
  have h110 : ((z.toNat : Int) == 110) = false := by rw [show ((z.toNat : Int) == 110) = decide (z = 110) from beq_byte (by decide)]; simp; intro e; exact h (by simp [e])
  clear h
  generalize (z.toNat : Int) = c at *
  go_enter Try.func18, Try.ntmps18
  go_wp2
  go_ret2
  exact ⟨rfl, rfl⟩

theorem dec_no (z : UInt8) (h : ¬ known z) : dec z = z := by
  unfold known at h
  simp only [not_or] at h
  unfold dec
  rw [if_neg h.1, if_neg h.2.1, if_neg h.2.2.1, if_neg h.2.2.2.1, if_neg h.2.2.2.2]

theorem rep_snoc (m : Nat) (l : List UInt8) : List.replicate m 92 ++ (92 :: l) = List.replicate (m + 1) 92 ++ l := by
  rw [List.replicate_succ', List.append_assoc]; rfl

/-- What a run of m backslashes and what stands behind it read as. -/
theorem run_even (q : Nat) (l : List UInt8) : unesc (List.replicate (2 * q) 92 ++ l) = List.replicate q 92 ++ unesc l := unesc_run q l

theorem run_odd_end (q : Nat) : unesc (List.replicate (2 * q + 1) 92) = List.replicate q 92 := by
  have h := unesc_run q [92]
  rw [rep_snoc, List.append_nil] at h
  rw [h]; simp [unesc]

theorem run_odd (q : Nat) (d : UInt8) (l : List UInt8) : unesc (List.replicate (2 * q + 1) 92 ++ d :: l) = List.replicate q 92 ++ dec d :: unesc l := by
  rw [← rep_snoc, unesc_run, unesc_slash]

set_option maxHeartbeats 4000000 in
set_option maxRecDepth 100000 in
theorem runs_any (s : ByteArray) (w : World) (hs : s.size ≤ 1048576) :
    Calls Try.prog 8 #[.string s] w fun e w' => ∃ v, e = .returned v ∧ Own w' w.heap.size v (unesc s.data.toList) ∧ Below w.heap.size w w' := by
  obtain ⟨i0, hi, hz0, hz1, hz2⟩ := info_parts info5
  have HB2 : Hid (i0.bytes * s.size ≤ 281474976710656) := show _ ≤ _ by rw [hz2]; omega
  have hml : s.size ≤ maxLen := by unfold maxLen; omega
  clear hz2
  go_enter Try.func8, Try.ntmps8
  go_wp2_with (at_make; refine wpList_make_own _ rfl (.const (.int .i64 0)) (.tmp 11) 24 rfl w.heap.size 5 i0 (.int .u8 0) 1 Try.underlying24 hi hz0 hz1 _ _ _ s.size rfl rfl rfl HB2.out hml (Nat.le_refl _) ?_; intro w1 hown1 hgr1)
  have hb1 : Below w.heap.size w w1 := (Below.refl _ _).grown hgr1 (Nat.le_refl _) (by intro k hk; cases hk)
  have HO1 : Hid (Own w1 w.heap.size (.slice (some ⟨w.heap.size, 0, none⟩) 0 s.size) []) := hown1
  clear hown1 hgr1 HB2 hz1 hz0 hi
  go_loopw [3, 4] (fun o i wr => ∃ (k : Nat) (acc : List UInt8), k ≤ s.size ∧ i = .int .i64 k ∧ acc.length ≤ k ∧ Hid (Own wr w.heap.size o acc) ∧ Hid (unesc s.data.toList = acc ++ unesc (s.data.toList.drop k)) ∧ Below w.heap.size w wr) (fun _ i _ => s.size - (intOf i).toNat)
  case atStart => exact ⟨0, [], Nat.zero_le _, rfl, Nat.le_refl _, HO1, show _ = _ by simp, hb1⟩
  case round =>
    obtain ⟨k, acc, hk, rfl, hak, HO, HU, hbr⟩ := hrel
    have hbs : w.heap.size ≤ wr.heap.size := hbr.size
    by_cases hlt : k < s.size
    · by_cases h92 : s[k] = 92
      · have t92 : ((s[k].toNat : Int) != 92) = false := by rw [h92]; rfl
        have H92 : Hid (s[k] = 92) := h92
        clear h92
        go_wp2
        go_loop [5] (fun j => ∃ m : Nat, k + m ≤ s.size ∧ j = .int .i64 (k + m : Nat) ∧ Hid (s.data.toList.drop k = List.replicate m 92 ++ s.data.toList.drop (k + m))) (fun j => s.size - (intOf j).toNat)
        case atStart => exact ⟨0, hk, rfl, show _ = _ by simp⟩
        case round =>
          obtain ⟨m, hm, rfl, HR⟩ := hrel
          by_cases hcont : ∃ h : k + m < s.size, s[k + m] = 92
          · obtain ⟨hjn, hj92⟩ := hcont
            have tj : ((s[k + m].toNat : Int) == 92) = true := by rw [hj92]; rfl
            have HR2 : Hid (s.data.toList.drop k = List.replicate (m + 1) 92 ++ s.data.toList.drop (k + (m + 1))) := show _ = _ by
              rw [HR.out, drop_cons s (k + m) hjn, hj92, rep_snoc]; rfl
            clear hj92
            go_wp2
            go_round
            case rel => exact ⟨m + 1, by omega, by go_num, HR2⟩
            case measure => simp [intOf]; omega
          · have hmpos : 1 ≤ m := by
              by_cases h0 : m = 0
              · subst h0; exact absurd ⟨hlt, H92.out⟩ hcont
              · omega
            obtain ⟨q, hq⟩ : ∃ q, m = 2 * q ∨ m = 2 * q + 1 := ⟨m / 2, by omega⟩
            have hq1 : 2 * q ≤ m := by omega
            have hq2 : m ≤ 2 * q + 1 := by omega
            have HQ : Hid (m = 2 * q ∨ m = 2 * q + 1) := hq
            clear hq
            by_cases hjn : k + m < s.size
            · have hj92 : ¬ s[k + m] = 92 := fun e => hcont ⟨hjn, e⟩
              have tj : ((s[k + m].toNat : Int) == 92) = false := by
                rw [show ((s[k + m].toNat : Int) == 92) = decide (s[k + m] = 92) from beq_byte (by decide)]; simp [hj92]
              clear hcont hj92
              by_cases hpar : m % 2 = 1
              · have tpar : ((m : Int) % 2 == 1) = true := by simp; omega
                have hmq : m = 2 * q + 1 := by omega
                have HU2 : Hid (unesc s.data.toList = acc ++ List.replicate q 92 ++ [dec s[k + m]] ++ unesc (s.data.toList.drop (k + m + 1))) := show _ = _ by
                  rw [HU.out, HR.out, drop_cons s (k + m) hjn]
                  rw [show List.replicate m (92 : UInt8) = List.replicate (2 * q + 1) 92 from by rw [← hmq], run_odd]
                  simp
                clear hmq hpar
                by_cases hkn : known s[k + m]
                · go_wp2
                  rw [show ((k : Int) + m - k) = (m : Int) from by omega]
                  go_loopw [3, 7] (fun o h wh => ∃ r : Nat, r ≤ q ∧ h = .int .i64 r ∧ Hid (Own wh w.heap.size o (acc ++ List.replicate r 92)) ∧ Below w.heap.size w wh) (fun _ h _ => q - (intOf h).toNat)
                  case atStart => exact ⟨0, Nat.zero_le _, rfl, by simpa using HO, hbr⟩
                  case round =>
                    obtain ⟨r, hr, rfl, HOr, hbr2⟩ := hrel
                    have hbs2 : w.heap.size ≤ wr.heap.size := hbr2.size
                    by_cases hrq : r < q
                    · go_wp2_with (at_builtin; refine wpList_app_last (w := wr) rfl (.tmp 51) (.tmp 52) rfl w.heap.size u3 (acc ++ List.replicate r 92) [92] rfl HOr.out _ _ 1 rfl rfl (by rfl) rfl (by rw [List.length_append, List.length_replicate, List.length_singleton]; omega) hbs2 w hbr2 ?_; intro v4 w4 HO4 hbr4 hbs4)
                      have HO5 : Hid (Own w4 w.heap.size v4 (acc ++ List.replicate (r + 1) 92)) := show Own _ _ _ _ by rw [List.replicate_succ', ← List.append_assoc]; exact HO4.out
                      go_roundw
                      case rel => exact ⟨r + 1, by omega, by go_num, HO5, hbr4⟩
                      case measure => simp [intOf]; omega
                    · obtain rfl : r = q := by omega
                      have hlet := letter_yes s[k + m] wr hkn
                      go_wp2_with fail
                      refine hlet.mono ?_
                      clear hlet
                      rintro e w5 ⟨rfl, hw⟩
                      subst hw
                      go_wp2_with (at_builtin; refine wpList_app_last (w := w5) rfl (.tmp 75) (.tmp 77) rfl w.heap.size u3 (acc ++ List.replicate r 92) [dec s[k + m]] rfl HOr.out _ _ 1 rfl rfl (by rfl) rfl (by rw [List.length_append, List.length_replicate, List.length_singleton]; omega) hbs2 w hbr2 ?_; intro v4 w4 HO4 hbr4 hbs4)
                      go_roundw
                      case rel => exact ⟨k + m + 1, acc ++ List.replicate r 92 ++ [dec s[k + m]], by omega, by go_num, by rw [List.length_append, List.length_append, List.length_replicate, List.length_singleton]; omega, HO4, HU2, hbr4⟩
                      case measure => simp [intOf]; omega
                · go_wp2
                  rw [show ((k : Int) + m - k) = (m : Int) from by omega]
                  go_loopw [3, 7] (fun o h wh => ∃ r : Nat, r ≤ q ∧ h = .int .i64 r ∧ Hid (Own wh w.heap.size o (acc ++ List.replicate r 92)) ∧ Below w.heap.size w wh) (fun _ h _ => q - (intOf h).toNat)
                  case atStart => exact ⟨0, Nat.zero_le _, rfl, by simpa using HO, hbr⟩
                  case round =>
                    obtain ⟨r, hr, rfl, HOr, hbr2⟩ := hrel
                    have hbs2 : w.heap.size ≤ wr.heap.size := hbr2.size
                    by_cases hrq : r < q
                    · go_wp2_with (at_builtin; refine wpList_app_last (w := wr) rfl (.tmp 51) (.tmp 52) rfl w.heap.size u3 (acc ++ List.replicate r 92) [92] rfl HOr.out _ _ 1 rfl rfl (by rfl) rfl (by rw [List.length_append, List.length_replicate, List.length_singleton]; omega) hbs2 w hbr2 ?_; intro v4 w4 HO4 hbr4 hbs4)
                      have HO5 : Hid (Own w4 w.heap.size v4 (acc ++ List.replicate (r + 1) 92)) := show Own _ _ _ _ by rw [List.replicate_succ', ← List.append_assoc]; exact HO4.out
                      go_roundw
                      case rel => exact ⟨r + 1, by omega, by go_num, HO5, hbr4⟩
                      case measure => simp [intOf]; omega
                    · obtain rfl : r = q := by omega
                      have hlet := letter_no s[k + m] wr hkn
                      have HDN : Hid (dec s[k + m] = s[k + m]) := dec_no _ hkn
                      go_wp2_with fail
                      refine hlet.mono ?_
                      clear hlet
                      rintro e w5 ⟨rfl, hw⟩
                      subst hw
                      go_wp2_with (at_builtin; refine wpList_app_last (w := w5) rfl (.tmp 75) (.tmp 77) rfl w.heap.size u3 (acc ++ List.replicate r 92) [dec s[k + m]] rfl HOr.out _ _ 1 rfl rfl (by rw [HDN.out]; rfl) rfl (by rw [List.length_append, List.length_replicate, List.length_singleton]; omega) hbs2 w hbr2 ?_; intro v4 w4 HO4 hbr4 hbs4)
                      go_roundw
                      case rel => exact ⟨k + m + 1, acc ++ List.replicate r 92 ++ [dec s[k + m]], by omega, by go_num, by rw [List.length_append, List.length_append, List.length_replicate, List.length_singleton]; omega, HO4, HU2, hbr4⟩
                      case measure => simp [intOf]; omega
              · have tpar : ((m : Int) % 2 == 1) = false := by simp; omega
                have hmq : m = 2 * q := by omega
                have HU2 : Hid (unesc s.data.toList = acc ++ List.replicate q 92 ++ unesc (s.data.toList.drop (k + m))) := show _ = _ by
                  rw [HU.out, HR.out]
                  rw [show List.replicate m (92 : UInt8) = List.replicate (2 * q) 92 from by rw [← hmq], run_even]
                  simp
                clear hmq hpar
                go_wp2
                rw [show ((k : Int) + m - k) = (m : Int) from by omega]
                go_loopw [3, 7] (fun o h wh => ∃ r : Nat, r ≤ q ∧ h = .int .i64 r ∧ Hid (Own wh w.heap.size o (acc ++ List.replicate r 92)) ∧ Below w.heap.size w wh) (fun _ h _ => q - (intOf h).toNat)
                case atStart => exact ⟨0, Nat.zero_le _, rfl, by simpa using HO, hbr⟩
                case round =>
                  obtain ⟨r, hr, rfl, HOr, hbr2⟩ := hrel
                  have hbs2 : w.heap.size ≤ wr.heap.size := hbr2.size
                  by_cases hrq : r < q
                  · go_wp2_with (at_builtin; refine wpList_app_last (w := wr) rfl (.tmp 51) (.tmp 52) rfl w.heap.size u3 (acc ++ List.replicate r 92) [92] rfl HOr.out _ _ 1 rfl rfl (by rfl) rfl (by rw [List.length_append, List.length_replicate, List.length_singleton]; omega) hbs2 w hbr2 ?_; intro v4 w4 HO4 hbr4 hbs4)
                    have HO5 : Hid (Own w4 w.heap.size v4 (acc ++ List.replicate (r + 1) 92)) := show Own _ _ _ _ by rw [List.replicate_succ', ← List.append_assoc]; exact HO4.out
                    go_roundw
                    case rel => exact ⟨r + 1, by omega, by go_num, HO5, hbr4⟩
                    case measure => simp [intOf]; omega
                  · obtain rfl : r = q := by omega
                    go_wp2
                    go_roundw
                    case rel => exact ⟨k + m, acc ++ List.replicate r 92, by omega, by go_num, by rw [List.length_append, List.length_replicate]; omega, HOr, HU2, hbr2⟩
                    case measure => simp [intOf]; omega
            · clear hcont
              have HU2 : Hid (unesc s.data.toList = acc ++ List.replicate q 92 ++ unesc (s.data.toList.drop (k + m))) := show _ = _ by
                rw [HU.out, HR.out, List.drop_eq_nil_of_le (by rw [size_toList]; omega), List.append_nil]
                rcases HQ.out with h | h
                · rw [h]
                  have := run_even q []
                  rw [List.append_nil] at this
                  rw [this]; simp [unesc]
                · rw [h, run_odd_end]; simp [unesc]
              go_wp2
              rw [show ((k : Int) + m - k) = (m : Int) from by omega]
              go_loopw [3, 7] (fun o h wh => ∃ r : Nat, r ≤ q ∧ h = .int .i64 r ∧ Hid (Own wh w.heap.size o (acc ++ List.replicate r 92)) ∧ Below w.heap.size w wh) (fun _ h _ => q - (intOf h).toNat)
              case atStart => exact ⟨0, Nat.zero_le _, rfl, by simpa using HO, hbr⟩
              case round =>
                obtain ⟨r, hr, rfl, HOr, hbr2⟩ := hrel
                have hbs2 : w.heap.size ≤ wr.heap.size := hbr2.size
                by_cases hrq : r < q
                · go_wp2_with (at_builtin; refine wpList_app_last (w := wr) rfl (.tmp 51) (.tmp 52) rfl w.heap.size u3 (acc ++ List.replicate r 92) [92] rfl HOr.out _ _ 1 rfl rfl (by rfl) rfl (by rw [List.length_append, List.length_replicate, List.length_singleton]; omega) hbs2 w hbr2 ?_; intro v4 w4 HO4 hbr4 hbs4)
                  have HO5 : Hid (Own w4 w.heap.size v4 (acc ++ List.replicate (r + 1) 92)) := show Own _ _ _ _ by rw [List.replicate_succ', ← List.append_assoc]; exact HO4.out
                  go_roundw
                  case rel => exact ⟨r + 1, by omega, by go_num, HO5, hbr4⟩
                  case measure => simp [intOf]; omega
                · obtain rfl : r = q := by omega
                  go_wp2
                  all_goals
                    go_roundw
                    case rel => exact ⟨k + m, acc ++ List.replicate r 92, by omega, by go_num, by rw [List.length_append, List.length_replicate]; omega, HOr, HU2, hbr2⟩
                    case measure => simp [intOf]; omega
      · have t92 : ((s[k].toNat : Int) != 92) = true := by
          rw [bne, show ((s[k].toNat : Int) == 92) = decide (s[k] = 92) from beq_byte (by decide)]
          simp [h92]
        have HU2 : Hid (unesc s.data.toList = (acc ++ [s[k]]) ++ unesc (s.data.toList.drop (k + 1))) := show _ = _ by
          rw [HU.out, drop_cons s k hlt, unesc_plain _ _ h92]; simp
        clear h92
        go_wp2_with (at_builtin; refine wpList_app_last (w := wr) rfl (.tmp 21) (.tmp 25) rfl w.heap.size u3 acc [s[k]] rfl HO.out _ _ 1 rfl rfl (by rfl) rfl (by rw [List.length_singleton]; omega) hbs w hbr ?_; intro v4 w4 HO4 hbr4 hbs4)
        go_roundw
        case rel => exact ⟨k + 1, acc ++ [s[k]], by omega, by go_num, by simp; omega, HO4, HU2, hbr4⟩
        case measure => simp [intOf]; omega
    · obtain rfl : k = s.size := by omega
      have HF : Hid (acc = unesc s.data.toList) := show _ = _ by
        rw [HU.out, List.drop_eq_nil_of_le (by rw [size_toList]; omega)]; simp [unesc]
      go_wp2
      go_ret
      exact ⟨_, rfl, by rw [← HF.out]; exact HO.out, hbr⟩

end Go.Proofs.Qxb6605232a.Tag
