/-
  DERIVED (a prover's text, seat b6604140a). THE WALK of 'FnCsvLineTilesTheInput': the law's own loop and end.
-/
import Derived.Test.Qxb6604140aLine
import Derived.BigQuiet
import Derived.Deep.QuietTactic
import Derived.OpenShut
namespace Go.Proofs.Qxb6604140a.fnCsvLineTilesTheInput
open Go.ChangeShapes Go.WideShapes Go.ChangeAt Go.RowKit
set_option linter.unusedVariables false

/-- 1 where the text is not empty and its last byte is no line feed. -/
def lastOpen (xs : List Int) : Int := if 0 < xs.length ∧ xs.getD (xs.length - 1) 0 ≠ 10 then 1 else 0

/-- How many calls have been made when the reading stands at f. -/
def callsAt (xs : List Int) (f : Nat) : Int := cnt (xs.take f) + if f = xs.length then lastOpen xs else 0

theorem cnt_append (a b : List Int) : cnt (a ++ b) = cnt a + cnt b := by unfold cnt; rw [List.count_append]; simp

theorem take_split (xs : List Int) (f k : Nat) : xs.take (f + k) = xs.take f ++ (xs.drop f).take k := by
  rw [List.take_add]

theorem step_none (xs : List Int) (f : Nat) (hf : f < xs.length) (h : (xs.drop f).count 10 = 0) :
    cnt (xs.take f) = cnt xs ∧ lastOpen xs = 1 := by
  have e : xs = xs.take f ++ xs.drop f := (List.take_append_drop f xs).symm
  constructor
  · have : cnt xs = cnt (xs.take f) + cnt (xs.drop f) := by rw [← cnt_append, ← e]
    rw [this]; unfold cnt; rw [h]; simp
  · unfold lastOpen
    rw [if_pos]
    refine ⟨by omega, fun h10 => ?_⟩
    have hm : (10 : Int) ∈ xs.drop f := by
      rw [List.getD_eq_getElem?_getD, List.getElem?_eq_getElem (by omega)] at h10
      simp at h10
      rw [← h10, List.mem_drop_iff_getElem]
      exact ⟨xs.length - 1 - f, by omega, by congr 1; omega⟩
    exact absurd h (by have := List.count_pos_iff.2 hm; omega)

theorem step_some (xs : List Int) (f k : Nat) (hf : f + k < xs.length) (h10 : (xs.drop f).getD k 0 = 10) (h : ((xs.drop f).take k).count 10 = 0) :
    cnt (xs.take (f + k + 1)) = cnt (xs.take f) + 1 ∧ (f + k + 1 = xs.length → lastOpen xs = 0) := by
  have h10' : xs.getD (f + k) 0 = 10 := by simpa using h10
  constructor
  · rw [cnt_take xs (f + k) hf, if_pos h10', take_split, cnt_append]
    have : cnt ((xs.drop f).take k) = 0 := by unfold cnt; rw [h]; rfl
    omega
  · intro e
    unfold lastOpen
    rw [if_neg]
    rintro ⟨_, h2⟩
    apply h2
    rw [← e]; exact h10'

theorem callsAt_none (xs : List Int) (f : Nat) (hf : f < xs.length) (h : (xs.drop f).count 10 = 0) :
    callsAt xs xs.length = callsAt xs f + 1 ∧ cnt (xs.take xs.length) = cnt (xs.take f) := by
  obtain ⟨a, b⟩ := step_none xs f hf h
  unfold callsAt
  rw [if_pos rfl, if_neg (by omega), List.take_length, b, a]
  exact ⟨by omega, rfl⟩

theorem callsAt_some (xs : List Int) (f k : Nat) (hf : f + k < xs.length) (h10 : (xs.drop f).getD k 0 = 10) (h : ((xs.drop f).take k).count 10 = 0) :
    callsAt xs (f + k + 1) = callsAt xs f + 1 ∧ cnt (xs.take (f + k + 1)) = cnt (xs.take f) + 1 := by
  obtain ⟨a, b⟩ := step_some xs f k hf h10 h
  unfold callsAt
  rw [if_neg (show ¬ f = xs.length by omega), a]
  refine ⟨?_, rfl⟩
  split
  · rename_i e; rw [b e]; omega
  · omega

theorem callsAt_zero (xs : List Int) : callsAt xs 0 = 0 := by
  unfold callsAt lastOpen
  have : cnt (xs.take 0) = 0 := rfl
  rw [this]
  split
  · rw [if_neg (by omega)]; rfl
  · rfl

theorem callsAt_end (xs : List Int) : callsAt xs xs.length = cnt xs + lastOpen xs := by
  unfold callsAt; rw [if_pos rfl, List.take_length]

theorem callsAt_le (xs : List Int) (f : Nat) : 0 ≤ callsAt xs f ∧ callsAt xs f ≤ xs.length + 1 := by
  have h := cnt_le (xs.take f)
  have hl : (xs.take f).length ≤ xs.length := by simp; omega
  unfold callsAt lastOpen
  split
  · split <;> omega
  · omega

set_option maxHeartbeats 400000 in
theorem bytes_yes (a : Option Addr) (n c : Nat) (w : World) (h : n ≤ 1048576) :
    Calls Try.prog 19 #[.slice a n c] w fun e w' => e = .returned (.bool true) ∧ w' = w := by
  go_enter Try.func19, Try.ntmps19
  go_wp2
  go_ret
  exact ⟨rfl, rfl⟩

set_option maxHeartbeats 400000 in
theorem bytes_no (a : Option Addr) (n c : Nat) (w : World) (h : 1048576 < n) :
    Calls Try.prog 19 #[.slice a n c] w fun e w' => e = .returned (.bool false) ∧ w' = w := by
  go_enter Try.func19, Try.ntmps19
  go_wp2
  go_ret
  exact ⟨rfl, rfl⟩

set_option maxHeartbeats 400000 in
theorem count_nil (w : World) :
    Calls Try.prog 20 #[.slice none 0 0] w fun e w' => e = .returned (.int .i64 0) ∧ w' = w := by
  go_enter Try.func20, Try.ntmps20
  go_wp2
  refine wp_loop_rounds 1 ?_
  rw [rounds_succ]
  go_wp2
  go_ret
  exact ⟨rfl, rfl⟩

set_option maxHeartbeats 1000000 in
theorem walk (a0 : Option Addr) (len0 cap0 : Nat) (z0 : List Int) (w : World) (w0 : IsRow .u8 w a0 len0 cap0 z0) :
    Calls Try.prog 6 #[.slice a0 len0 cap0] w fun e w' => e = .returned (.bool true) ∧ Below w.heap.size w w' := by
  by_cases hb : len0 ≤ 1048576
  · have HR : Hid (IsRow .u8 w a0 len0 cap0 z0) := w0
    have hwf : ∀ z ∈ z0.take len0, 0 ≤ z ∧ z < 256 := by
      rcases w0 with ⟨_, _, _, rfl⟩ | ⟨x, _, _, _, _, _, h⟩
      · simp
      · intro z hz
        have := h z (List.mem_of_mem_take hz)
        have := bounds_u8 this
        omega
    have hlen : (z0.take len0).length = len0 := by
      rcases w0 with ⟨_, rfl, _, rfl⟩ | ⟨x, _, h1, _, h2, _, _⟩
      · rfl
      · simp; omega
    obtain ⟨xs, hxs⟩ : ∃ xs, xs = z0.take len0 := ⟨_, rfl⟩
    have HXS : Hid (xs = z0.take len0) := hxs
    rw [← hxs] at hwf hlen
    have HWF : Hid (∀ z ∈ xs, 0 ≤ z ∧ z < 256) := hwf
    have HL : Hid (xs.length = len0) := hlen
    clear hwf hlen hxs w0
    go_enter Try.func6, Try.ntmps6
    go_wp2_with fail
    refine (bytes_yes _ _ _ _ hb).mono ?_
    rintro e w' ⟨rfl, hw⟩
    subst hw
    go_wp2_with fail
    refine (clone_any _ _ _ _ _ HR.out hb).mono ?_
    rintro e w1 ⟨v, rfl, hv, hbel⟩
    rw [← HXS.out] at hv
    rcases hv with ⟨rfl, hxe⟩ | ⟨g, rfl, hg, hc⟩
    · clear HR HXS HWF HL hxe
      go_wp2
      refine wp_loop_rounds 1 ?_
      rw [rounds_succ]
      go_wp2_with (go_at_call 20; refine (count_nil _).mono ?_; rintro e w' ⟨rfl, rfl⟩)
      go_ret
      exact ⟨rfl, hbel⟩
    · obtain ⟨n, hn⟩ : ∃ n, n = xs.length := ⟨_, rfl⟩
      rw [← hn] at hc ⊢
      have HN : Hid (xs.length = n) := hn.symm
      have hnb : n ≤ 1048576 := by rw [hn, HL.out]; exact hb
      have HC : Hid (∀ i, i < n → w1.cell? ⟨g, i, none⟩ = some (.int .u8 (xs.getD i 0))) := hc
      clear hn hc HR HXS HL hb
      go_wp2
      go_loop [3, 4, 5] (fun u1 u2 u3 => ∃ f : Nat, f ≤ n ∧ u1 = .int .i64 f ∧ u2 = .int .i64 (callsAt xs f) ∧ u3 = .int .i64 (cnt (xs.take f))) (fun i _ _ => n - (intOf i).toNat)
      case atStart => 
        exact ⟨0, Nat.zero_le _, rfl, by rw [callsAt_zero], rfl⟩
      case round =>
        obtain ⟨f, hf, rfl, rfl, rfl⟩ := hrel
        have hca := callsAt_le xs f
        rw [HN.out] at hca
        have hcn := cnt_le (xs.take f)
        have hcl : (xs.take f).length ≤ f := List.length_take_le _ _
        by_cases hlt : f < n
        · rcases ix_spec (xs.drop f) (fun z hz => HWF.out z (List.mem_of_mem_drop hz)) with ⟨h1, h2⟩ | ⟨k, h1, h2, h3, h4⟩
          · have hcon := zline_none g n f xs w1 HN.out hnb hlt HC.out h1
            have hst := callsAt_none xs f (by rw [HN.out]; exact hlt) h2
            rw [HN.out] at hst
            obtain ⟨hst1, hst2⟩ := hst
            have HS1 : Hid (callsAt xs n = callsAt xs f + 1) := hst1
            have HS2 : Hid (cnt (xs.take n) = cnt (xs.take f)) := hst2
            clear hst1 hst2 h1 h2
            generalize callsAt xs f = q1 at *
            generalize cnt (xs.take f) = q2 at *
            go_wp2_with fail
            refine hcon.mono ?_
            rintro e w' ⟨⟨v, rfl⟩, hw⟩
            subst hw
            clear hcon
            go_wp2
            go_round
            case rel => exact ⟨n, Nat.le_refl _, rfl, by rw [HS1.out], by rw [HS2.out]⟩
            case measure => simp [intOf]; omega
          · have hfk : f + k < n := by simp at h2; rw [HN.out] at h2; omega
            have hcon := zline_some g n f k xs w1 HN.out hnb hfk HC.out h1
            obtain ⟨hst1, hst2⟩ := callsAt_some xs f k (by rw [HN.out]; exact hfk) h3 h4
            have HS1 : Hid (callsAt xs (f + k + 1) = callsAt xs f + 1) := hst1
            have HS2 : Hid (cnt (xs.take (f + k + 1)) = cnt (xs.take f) + 1) := hst2
            clear hst1 hst2 h1 h2 h3 h4
            generalize callsAt xs f = q1 at *
            generalize cnt (xs.take f) = q2 at *
            go_wp2_with fail
            refine hcon.mono ?_
            rintro e w' ⟨⟨v, rfl⟩, hw⟩
            subst hw
            clear hcon
            go_wp2
            go_round
            case rel => exact ⟨f + k + 1, hfk, by go_num, by rw [HS1.out], by rw [HS2.out]⟩
            case measure => simp [intOf]; omega
        · obtain rfl : f = n := by omega
          have hcon := count_any g f xs w1 HN.out hnb HC.out
          have hend := callsAt_end xs
          have htk : xs.take f = xs := by rw [← HN.out]; exact List.take_length
          rw [HN.out] at hend
          rw [htk] at hcn ⊢
          have hxl : cnt xs ≤ 1048576 := by have := cnt_le xs; rw [HN.out] at this; omega
          have hx0 : 0 ≤ cnt xs := (cnt_le xs).1
          rw [hend] at hca ⊢
          clear hend htk hcl hcn
          by_cases h0 : f = 0
          · have hlo : lastOpen xs = 0 := by unfold lastOpen; rw [if_neg]; rintro ⟨h, _⟩; rw [HN.out] at h; omega
            rw [hlo] at hca ⊢
            clear hlo HC
            subst h0
            generalize cnt xs = q at *
            go_wp2_with fail
            refine hcon.mono ?_
            rintro e w' ⟨rfl, hw⟩
            subst hw
            clear hcon
            go_wp2
            go_ret
            exact ⟨rfl, hbel⟩
          · have hcell := HC.out (f - 1) (by omega)
            by_cases h10 : xs.getD (f - 1) 0 = 10
            · have hlo : lastOpen xs = 0 := by unfold lastOpen; rw [if_neg]; rintro ⟨_, h⟩; rw [HN.out] at h; exact h h10
              rw [hlo] at hca ⊢
              rw [h10] at hcell
              clear hlo HC h10
              generalize cnt xs = q at *
              go_wp2_with fail
              refine hcon.mono ?_
              rintro e w' ⟨rfl, hw⟩
              subst hw
              clear hcon
              go_wp2
              go_ret
              exact ⟨rfl, hbel⟩
            · have hlo : lastOpen xs = 1 := by unfold lastOpen; rw [if_pos]; rw [HN.out]; exact ⟨by omega, h10⟩
              rw [hlo] at hca ⊢
              obtain ⟨z, hz⟩ : ∃ z, z = xs.getD (f - 1) 0 := ⟨_, rfl⟩
              rw [← hz] at hcell h10
              have hne : (z != 10) = true := by simpa using h10
              clear hlo HC h10 hz
              generalize cnt xs = q at *
              go_wp2_with fail
              refine hcon.mono ?_
              rintro e w' ⟨rfl, hw⟩
              subst hw
              clear hcon
              go_wp2
              go_ret
              exact ⟨rfl, hbel⟩
  · have hb' : 1048576 < len0 := by omega
    clear w0
    go_enter Try.func6, Try.ntmps6
    go_wp2_with (go_at_call 19; refine (bytes_no _ _ _ _ hb').mono ?_; rintro e w' ⟨rfl, rfl⟩)
    go_ret
    exact ⟨rfl, Below.refl _ _⟩

end Go.Proofs.Qxb6604140a.fnCsvLineTilesTheInput
