/-
  DERIVED (a prover's text, seat b6605491a). THE WALK of 'FnIsTokenMatchesRFCDelimiterModel'.
-/
import Derived.Test.Qxb6605491aToken
namespace Go.Proofs.Qxb6605491a.Tok
open Go.ChangeShapes Go.WideShapes Go.ChangeAt Go.RowKit
set_option linter.unusedVariables false

theorem isEmpty_data (s : ByteArray) : s.toList.isEmpty = s.data.toList.isEmpty := by rw [Lib.toList_data]

theorem token_any (s : ByteArray) (w : World) (hs : s.size ≤ 1048576) :
    Calls Try.prog 7 #[.string s] w fun e w' => e = .returned (.bool (tokenB s)) ∧ Below w.heap.size w w' := by
  cases h : s.toList.isEmpty with
  | true =>
    refine (token_empty s w h).mono ?_
    rintro e w' ⟨rfl, rfl⟩
    refine ⟨?_, Below.refl _ _⟩
    rw [tokenB, ← isEmpty_data, h]; rfl
  | false =>
    refine (token_some s w h hs).mono ?_
    rintro e w' ⟨rfl, hb⟩
    refine ⟨?_, hb⟩
    rw [tokenB, ← isEmpty_data, h]; rfl

set_option maxHeartbeats 400000 in
theorem ztoken_any (s : ByteArray) (w : World) (hs : s.size ≤ 1048576) :
    Calls Try.prog 6 #[.string s] w fun e w' => e = .returned (.bool (tokenB s)) ∧ Below w.heap.size w w' := by
  have hcon := token_any s w hs
  generalize tokenB s = b at *
  go_enter Try.func6, Try.ntmps6
  go_wp2_with fail
  refine hcon.mono ?_
  rintro e w' ⟨rfl, hb⟩
  clear hcon
  go_wp2
  go_ret
  exact ⟨rfl, hb⟩

set_option maxHeartbeats 400000 in
theorem bytes_yes (s : ByteArray) (w : World) (h : s.size ≤ 1048576) :
    Calls Try.prog 4 #[.string s] w fun e w' => e = .returned (.bool true) ∧ w' = w := by
  go_enter Try.func4, Try.ntmps4
  go_wp2
  go_ret
  exact ⟨rfl, rfl⟩

set_option maxHeartbeats 400000 in
theorem bytes_no (s : ByteArray) (w : World) (h : 1048576 < s.size) :
    Calls Try.prog 4 #[.string s] w fun e w' => e = .returned (.bool false) ∧ w' = w := by
  go_enter Try.func4, Try.ntmps4
  go_wp2
  go_ret
  exact ⟨rfl, rfl⟩

theorem want_eq (s : ByteArray) : (decide (0 < (s.size : Int)) && allTok (s.data.toList.take s.size)) = tokenB s := by
  rw [List.take_of_length_le (by rw [size_toList]; exact Nat.le_refl _), tokenB]
  congr 1
  have h := size_toList s
  cases hl : s.data.toList with
  | nil => rw [hl] at h; simp at h; simp [← h]
  | cons c l => rw [hl] at h; simp at h; simp [← h]

set_option maxHeartbeats 1000000 in
theorem walk (s : ByteArray) (hsz : s.size ≤ maxLen) (w : World) :
    Calls Try.prog 3 #[.string s] w fun e w' => e = .returned (.bool true) ∧ Below w.heap.size w w' := by
  by_cases hs : s.size ≤ 1048576
  · go_enter Try.func3, Try.ntmps3
    go_wp2_with fail
    refine (bytes_yes s _ hs).mono ?_
    rintro e w' ⟨rfl, hw⟩
    subst hw
    go_wp2
    go_loop [3, 4] (fun b i => ∃ k : Nat, k ≤ s.size ∧ i = .int .i64 k ∧ b = .bool (decide (0 < (s.size : Int)) && allTok (s.data.toList.take k))) (fun _ i => s.size - (intOf i).toNat)
    case atStart => exact ⟨0, Nat.zero_le _, rfl, by simp [allTok]⟩
    case round =>
      obtain ⟨k, hk, rfl, rfl⟩ := hrel
      by_cases hlt : k < s.size
      · have htk := tchar_any s[k] w'
        have hn : allTok (s.data.toList.take (k + 1)) = (allTok (s.data.toList.take k) && tok s[k]) := by rw [take_snoc s k hlt, allTok_snoc]
        have HN : Hid (allTok (s.data.toList.take (k + 1)) = (allTok (s.data.toList.take k) && tok s[k])) := hn
        clear hn
        obtain ⟨B, hB⟩ : ∃ B, B = (decide (0 < (s.size : Int)) && allTok (s.data.toList.take k)) := ⟨_, rfl⟩
        rw [← hB]
        have HB : Hid (B = (decide (0 < (s.size : Int)) && allTok (s.data.toList.take k))) := hB
        clear hB
        cases ht : tok s[k] with
        | true =>
          rw [ht] at htk
          have HN2 : Hid ((decide (0 < (s.size : Int)) && allTok (s.data.toList.take (k + 1))) = B) := show _ = _ by rw [HN.out, ht, Bool.and_true, HB.out]
          clear ht HN HB
          go_wp2_with fail
          refine htk.mono ?_
          rintro e w1 ⟨rfl, hw⟩
          subst hw
          clear htk
          go_wp2
          go_round
          case rel => exact ⟨k + 1, by omega, by go_num, by rw [HN2.out]⟩
          case measure => simp [intOf]; omega
        | false =>
          rw [ht] at htk
          have HN2 : Hid ((decide (0 < (s.size : Int)) && allTok (s.data.toList.take (k + 1))) = false) := show _ = _ by rw [HN.out, ht, Bool.and_false, Bool.and_false]
          clear ht HN HB
          go_wp2_with fail
          refine htk.mono ?_
          rintro e w1 ⟨rfl, hw⟩
          subst hw
          clear htk
          go_wp2
          go_round
          case rel => exact ⟨k + 1, by omega, by go_num, by rw [HN2.out]⟩
          case measure => simp [intOf]; omega
      · obtain rfl : k = s.size := by omega
        rw [want_eq]
        have hcon := ztoken_any s w' hs
        generalize tokenB s = b at *
        go_wp2_with fail
        refine hcon.mono ?_
        rintro e w1 ⟨rfl, hb⟩
        clear hcon
        go_wp2
        go_ret
        exact ⟨by simp, hb⟩
  · have hs' : 1048576 < s.size := by omega
    unfold maxLen at hsz
    go_enter Try.func3, Try.ntmps3
    go_wp2_with (go_at_call 4; refine (bytes_no s _ hs').mono ?_; rintro e w' ⟨rfl, rfl⟩)
    go_ret
    exact ⟨rfl, Below.refl _ _⟩

end Go.Proofs.Qxb6605491a.Tok
