/-
  DERIVED (a prover's text, seat b6605232a). zzSameString and THE WALK of 'FnUnescapeTagRunLengthModel'.
-/
import Derived.Test.Qxb6605232aRuns
namespace Go.Proofs.Qxb6605232a.Tag
open Go.ChangeShapes Go.WideShapes Go.ChangeAt Go.RowKit
set_option linter.unusedVariables false

set_option maxHeartbeats 400000 in
theorem modelBound_yes (s : ByteArray) (w : World) (h : s.size ≤ 1048576) :
    Calls Try.prog 6 #[.string s] w fun e w' => e = .returned (.bool true) ∧ w' = w := by
  go_enter Try.func6, Try.ntmps6
  go_wp2
  go_ret
  exact ⟨rfl, rfl⟩

set_option maxHeartbeats 400000 in
theorem modelBound_no (s : ByteArray) (w : World) (h : 1048576 < s.size) :
    Calls Try.prog 6 #[.string s] w fun e w' => e = .returned (.bool false) ∧ w' = w := by
  go_enter Try.func6, Try.ntmps6
  go_wp2
  go_ret
  exact ⟨rfl, rfl⟩

set_option maxHeartbeats 1000000 in
theorem same_zero (a : ByteArray) (p : Option Addr) (c : Nat) (w : World) (h : a.size = 0) :
    Calls Try.prog 9 #[.string a, .slice p 0 c] w fun e w' => e = .returned (.bool true) ∧ Below w.heap.size w w' := by
  go_enter Try.func9, Try.ntmps9
  go_wp2
  refine wp_loop_rounds 1 ?_
  rw [rounds_succ]
  go_wp2
  go_ret
  exact ⟨rfl, Below.refl _ _⟩

set_option maxHeartbeats 1000000 in
theorem same_some (a : ByteArray) (b off n c : Nat) (w : World) (hn : n ≤ 9000000) (ha : a.size = n) (h : ∀ j (hj : j < a.size), w.cell? ⟨b, off + j, none⟩ = some (.int .u8 (a[j].toNat : Int))) :
    Calls Try.prog 9 #[.string a, .slice (some ⟨b, off, none⟩) n c] w fun e w' => e = .returned (.bool true) ∧ Below w.heap.size w w' := by
  subst ha
  have H : Hid (∀ j (hj : j < a.size), w.cell? ⟨b, off + j, none⟩ = some (.int .u8 (a[j].toNat : Int))) := h
  clear h
  go_enter Try.func9, Try.ntmps9
  go_wp2
  go_loopw [5] (fun i wr => ∃ (k q : Nat), k ≤ a.size ∧ i = .int .i64 k ∧ wr = w.drewN q) (fun i _ => a.size - (intOf i).toNat)
  case atStart => exact ⟨0, 0, Nat.zero_le _, rfl, rfl⟩
  case round =>
    obtain ⟨k, q, hk, rfl, rfl⟩ := hrel
    by_cases hlt : k < a.size
    · have g1 := H.out k hlt
      go_wp2
      go_quiet (fail)
      go_wp2
      go_roundw
      case rel => exact ⟨k + 1, q + nq, by omega, by go_num, rfl⟩
      case measure => simp [intOf]; omega
    · go_wp2
      go_ret
      exact ⟨rfl, below_drewN (Below.refl _ _) q⟩

theorem strOf_size (l : List UInt8) : (strOf l).size = l.length := by simp [strOf, ByteArray.size]

theorem same_any (l : List UInt8) (p : Option Addr) (c : Nat) (w : World) (hn : l.length ≤ 9000000) (h : In w p l.length l) :
    Calls Try.prog 9 #[.string (strOf l), .slice p l.length c] w fun e w' => e = .returned (.bool true) ∧ Below w.heap.size w w' := by
  rcases h.2 with h0 | ⟨b, off, rfl, hc⟩
  · have hs := strOf_size l
    rw [h0] at hs ⊢
    exact same_zero _ p c w hs
  · refine same_some (strOf l) b off l.length c w hn (strOf_size l) (fun j hj => ?_)
    have hj' : j < l.length := by rw [← strOf_size l]; exact hj
    rw [hc j hj', List.getD_eq_getElem?_getD, List.getElem?_eq_getElem hj']
    rfl

set_option maxHeartbeats 1000000 in
theorem model_walk (s : ByteArray) (hsz : s.size ≤ maxLen) (w : World) :
    Calls Try.prog 3 #[.string s] w fun e w' => e = .returned (.bool true) ∧ Below w.heap.size w w' := by
  by_cases hs : s.size ≤ 1048576
  · have hun := zunesc_any s w (by omega)
    have hul : (unesc s.data.toList).length ≤ s.size := by
      have := unesc_length_le s.data.toList
      rwa [size_toList] at this
    have HUL : Hid ((unesc s.data.toList).length ≤ s.size) := hul
    clear hul
    go_enter Try.func3, Try.ntmps3
    go_wp2_with fail
    refine (modelBound_yes s _ hs).mono ?_
    rintro e w' ⟨rfl, hw⟩
    subst hw
    go_wp2_with fail
    refine hun.mono ?_
    clear hun
    rintro e w1 ⟨rfl, hb1⟩
    have hru := runs_any s w1 hs
    go_wp2_with fail
    refine hru.mono ?_
    clear hru
    rintro e w2 ⟨v2, rfl, hO, hb2⟩
    obtain ⟨p2, c2, rfl, _, hin⟩ := own_in hO
    have hsm := same_any (unesc s.data.toList) p2 c2 w2 (by have := HUL.out; omega) hin
    have hss : ((strOf (unesc s.data.toList)).size : Int) ≤ (s.size : Int) := by rw [strOf_size]; have := HUL.out; omega
    clear hO hin
    generalize strOf (unesc s.data.toList) = got at *
    generalize (unesc s.data.toList).length = L at *
    go_wp2_with fail
    refine hsm.mono ?_
    clear hsm
    rintro e w3 ⟨rfl, hb3⟩
    go_wp2
    go_ret
    exact ⟨by simp, hb1.trans ((hb2.trans (hb3.mono hb2.size)).mono hb1.size)⟩
  · have hs' : 1048576 < s.size := by omega
    unfold maxLen at hsz
    go_enter Try.func3, Try.ntmps3
    go_wp2_with (go_at_call 6; refine (modelBound_no s _ hs').mono ?_; rintro e w' ⟨rfl, rfl⟩)
    go_ret
    exact ⟨rfl, Below.refl _ _⟩

end Go.Proofs.Qxb6605232a.Tag
