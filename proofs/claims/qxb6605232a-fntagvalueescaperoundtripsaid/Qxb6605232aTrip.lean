/-
  DERIVED (a prover's text, seat b6605232a). THE WALK of 'FnTagValueEscapeRoundTrip'.
-/
import Derived.Test.Qxb6605232aPrefix
import Derived.Test.Qxb6605232aUnesc
import Derived.Laws.IdiomStrings
namespace Go.Proofs.Qxb6605232a.Tag
open Go.ChangeShapes Go.WideShapes Go.ChangeAt Go.RowKit
set_option linter.unusedVariables false

set_option maxHeartbeats 400000 in
theorem tripBound_yes (s : ByteArray) (w : World) (h : s.size ≤ 1048576) :
    Calls Try.prog 10 #[.string s] w fun e w' => e = .returned (.bool true) ∧ w' = w := by
  go_enter Try.func10, Try.ntmps10
  go_wp2
  go_ret
  exact ⟨rfl, rfl⟩

set_option maxHeartbeats 400000 in
theorem tripBound_no (s : ByteArray) (w : World) (h : 1048576 < s.size) :
    Calls Try.prog 10 #[.string s] w fun e w' => e = .returned (.bool false) ∧ w' = w := by
  go_enter Try.func10, Try.ntmps10
  go_wp2
  go_ret
  exact ⟨rfl, rfl⟩

theorem trip_bytes (v : ByteArray) : [] ++ tagsTo (kOf fun _ => ⟨#[107]⟩) (kOf fun _ => v) 1 ++ [32] =
    if v.data.toList = [] then [64, 107, 32] else 64 :: 107 :: 61 :: (esc v.data.toList ++ [32]) := by
  have e : tagsTo (kOf fun _ => (⟨#[107]⟩ : ByteArray)) (kOf fun _ => v) 1 = 64 :: 107 :: (if v.data.toList = [] then [] else 61 :: esc v.data.toList) := rfl
  rw [e, List.nil_append]
  by_cases h : v.data.toList = []
  · rw [if_pos h, if_pos h]; rfl
  · rw [if_neg h, if_neg h]; rfl

theorem trip_len (v : ByteArray) (hv : v.size ≤ 1048576) : ([] : List UInt8).length + (tagsTo (kOf fun _ => ⟨#[107]⟩) (kOf fun _ => v) 1).length ≤ 10000000 := by
  have h := tagsTo_length (kOf fun _ => (⟨#[107]⟩ : ByteArray)) (kOf fun _ => v) 1
  have h2 := tagLen_le (kOf (fun _ => (⟨#[107]⟩ : ByteArray)) 0) (kOf (fun _ => v) 0)
  have h3 : (kOf (fun _ => v) 0).length = v.size := size_toList v
  have h4 : (kOf (fun _ => (⟨#[107]⟩ : ByteArray)) 0).length = 1 := rfl
  simp only [lensTo] at h
  rw [h]
  simp only [List.length_nil]
  omega

set_option maxHeartbeats 2000000 in
theorem trip_walk (v : ByteArray) (hsz : v.size ≤ maxLen) (w : World) :
    Calls Try.prog 4 #[.string v] w fun e w' => e = .returned (.bool true) ∧ Below w.heap.size w w' := by
  by_cases hv : v.size ≤ 1048576
  · have HT : Hid (TagsAt (w.alloc (.cells #[.string ⟨#[107]⟩, .string v] 29)) w.heap.size 0 1 (fun _ => ⟨#[107]⟩) (fun _ => v)) := by
      intro i hi
      obtain rfl : i = 0 := by omega
      have hT : TV (w.alloc (.cells #[.string ⟨#[107]⟩, .string v] 29)) w.heap.size ⟨#[107]⟩ v := TV.new w _ v
      exact ⟨hT.cell0, hT.cell1⟩
    have hap := zappend_any (w.heap.size + 1) w.heap.size 0 1 1 (.slice none 0 0) [] (fun _ => ⟨#[107]⟩) (fun _ => v) _ HT.out (World.ownsRow_nil _ _ _ _) (by omega) (by simp) (trip_len v hv) (by omega)
    rw [trip_bytes] at hap
    by_cases hE : v.toList.isEmpty = true
    · have hE2 : v.data.toList = [] := by rw [← Lib.toList_data]; simpa using hE
      rw [if_pos hE2] at hap
      clear hE2 HT
      go_enter Try.func4, Try.ntmps4
      go_wp2_with fail
      refine (tripBound_yes v _ hv).mono ?_
      rintro e w' ⟨rfl, hw⟩
      subst hw
      go_wp2_with fail
      refine hap.mono ?_
      clear hap
      rintro e w1 ⟨v1, rfl, hO, hb1⟩
      obtain ⟨p1, c1, rfl, _, hin⟩ := own_in hO
      obtain ⟨b, o, rfl, hc⟩ : ∃ b off, p1 = some ⟨b, off, none⟩ ∧ ∀ j, j < 3 → w1.cell? ⟨b, off + j, none⟩ = some (.int .u8 ((([64, 107, 32] : List UInt8).getD j 0).toNat : Int)) := by
        rcases hin.2 with h | h
        · exact absurd h (by decide)
        · exact h
      have g0 : w1.cell? ⟨b, o, none⟩ = some (.int .u8 64) := hc 0 (by omega)
      have g1 : w1.cell? ⟨b, o + 1, none⟩ = some (.int .u8 107) := hc 1 (by omega)
      have g2 : w1.cell? ⟨b, o + 2, none⟩ = some (.int .u8 32) := hc 2 (by omega)
      have hbf : Below w'.heap.size w' w1 := ((Below.refl _ _).alloc (Nat.le_refl _) _).trans (hb1.mono (by omega))
      clear hc hin hO hb1
      go_wp2
      go_ret
      exact ⟨rfl, hbf⟩
    · have hE' : v.toList.isEmpty = false := by simpa using hE
      have hE2 : v.data.toList ≠ [] := by rw [← Lib.toList_data]; simpa using hE
      rw [if_neg hE2] at hap
      have HE : Hid (v.data.toList ≠ []) := hE2
      clear hE hE2 HT
      obtain ⟨E, hEq⟩ : ∃ E, E = esc v.data.toList := ⟨_, rfl⟩
      have HEQ : Hid (E = esc v.data.toList) := hEq
      have hEl : E.length ≤ 2097152 := by rw [hEq, esc_length]; have := countRaw_le v.data.toList; have := size_toList v; omega
      rw [← hEq] at hap
      clear hEq
      go_enter Try.func4, Try.ntmps4
      go_wp2_with fail
      refine (tripBound_yes v _ hv).mono ?_
      rintro e w' ⟨rfl, hw⟩
      subst hw
      go_wp2_with fail
      refine hap.mono ?_
      clear hap
      rintro e w1 ⟨v1, rfl, hO, hb1⟩
      obtain ⟨p1, c1, rfl, _, hin⟩ := own_in hO
      have hcap : (64 :: 107 :: 61 :: (E ++ [32])).length ≤ c1 := by
        rcases hO.2 with ⟨h, _⟩ | ⟨g, cap, cur, h, _, _, hle, _⟩
        · cases h
        · simp only [Value.slice.injEq] at h
          rw [h.2.2]; exact hle
      have hRl : (64 :: 107 :: 61 :: (E ++ [32])).length = E.length + 4 := by simp
      rw [hRl] at hin hcap ⊢
      obtain ⟨b, o, rfl, hc⟩ : ∃ b off, p1 = some ⟨b, off, none⟩ ∧ ∀ j, j < E.length + 4 → w1.cell? ⟨b, off + j, none⟩ = some (.int .u8 (((64 :: 107 :: 61 :: (E ++ [32])).getD j 0).toNat : Int)) := by
        rcases hin.2 with h | h
        · exact absurd h (by omega)
        · exact h
      have g0 : w1.cell? ⟨b, o, none⟩ = some (.int .u8 64) := hc 0 (by omega)
      have g1 : w1.cell? ⟨b, o + 1, none⟩ = some (.int .u8 107) := hc 1 (by omega)
      have g2 : w1.cell? ⟨b, o + 2, none⟩ = some (.int .u8 61) := hc 2 (by omega)
      have g3 : w1.cell? ⟨b, o + (E.length + 3), none⟩ = some (.int .u8 32) := by
        rw [hc (E.length + 3) (by omega)]
        have e : (64 :: 107 :: 61 :: (E ++ [32])).getD (E.length + 3) 0 = 32 := by
          show (E ++ [32]).getD E.length 0 = 32
          rw [List.getD_eq_getElem?_getD, List.getElem?_append_right (Nat.le_refl _), Nat.sub_self]; rfl
        rw [e]; rfl
      have hce : ∀ j (hj : j < E.length), w1.cell? ⟨b, o + 3 + j, none⟩ = some (.int .u8 (E[j].toNat : Int)) := by
        intro j hj
        rw [Nat.add_assoc, hc (3 + j) (by omega)]
        have : (64 :: 107 :: 61 :: (E ++ [32])).getD (3 + j) 0 = E[j] := by
          rw [Nat.add_comm 3 j]
          show (E ++ [32]).getD j 0 = E[j]
          rw [List.getD_eq_getElem?_getD, List.getElem?_append_left hj, List.getElem?_eq_getElem hj]; rfl
        rw [this]
      have hcv := run_convert_bytes_back (P := Try.prog) w1 24 9 5 ⟨b, o + 3, none⟩ (c1 - 3) E Try.underlying24 Try.underlying5 Try.underlying9 (fun j hj => by rw [add_plain]; exact hce j hj)
      have HCV : Hid ((convert 24 9 (.slice (some ⟨b, o + 3, none⟩) E.length (c1 - 3))).run Try.prog w1 = .ok (.string ⟨E.toArray⟩) w1) := hcv
      have HCE : Hid (∀ j (hj : j < E.length), w1.cell? ⟨b, o + 3 + j, none⟩ = some (.int .u8 (E[j].toNat : Int))) := hce
      have hbf : Below w'.heap.size w' w1 := ((Below.refl _ _).alloc (Nat.le_refl _) _).trans (hb1.mono (by omega))
      have hEpos : 0 < E.length := by
        rw [HEQ.out, esc_length]
        have : v.data.toList.length ≠ 0 := fun h => HE.out (List.eq_nil_of_length_eq_zero h)
        omega
      clear hc hin hO hb1 hcv hce hRl
      go_wp2
      rw [show E.length + 4 - 1 - 3 = E.length from by omega]
      go_loop [6] (fun i => ∃ k : Nat, k ≤ E.length ∧ i = .int .i64 k) (fun i => E.length - (intOf i).toNat)
      case atStart => exact ⟨0, Nat.zero_le _, rfl⟩
      case round =>
        obtain ⟨k, hk, rfl⟩ := hrel
        by_cases hlt : k < E.length
        · have hcell := HCE.out k hlt
          have hcl := esc_clean v.data.toList E[k] (by rw [← HEQ.out]; exact List.getElem_mem hlt)
          obtain ⟨z, hz⟩ : ∃ z, z = E[k] := ⟨_, rfl⟩
          rw [← hz] at hcell hcl
          have t1 : ((z.toNat : Int) == 59) = false := by rw [show ((z.toNat : Int) == 59) = decide (z = 59) from beq_byte (by decide)]; simp [hcl.1]
          have t2 : ((z.toNat : Int) == 32) = false := by rw [show ((z.toNat : Int) == 32) = decide (z = 32) from beq_byte (by decide)]; simp [hcl.2.1]
          have t3 : ((z.toNat : Int) == 13) = false := by rw [show ((z.toNat : Int) == 13) = decide (z = 13) from beq_byte (by decide)]; simp [hcl.2.2.1]
          have t4 : ((z.toNat : Int) == 10) = false := by rw [show ((z.toNat : Int) == 10) = decide (z = 10) from beq_byte (by decide)]; simp [hcl.2.2.2]
          clear hz hcl
          generalize (z.toNat : Int) = c at *
          go_wp2
          go_round
          case rel => exact ⟨k + 1, by omega, by go_num⟩
          case measure => simp [intOf]; omega
        · have hun := zunesc_any ⟨E.toArray⟩ w1 (by show E.toArray.size ≤ _; simp; omega)
          rw [show (⟨E.toArray⟩ : ByteArray).data.toList = E from by simp, HEQ.out, unesc_esc, strOf_data, ← HEQ.out] at hun
          have hcv := HCV.out
          go_wp2_with fail
          refine hun.mono ?_
          clear hun
          rintro e w2 ⟨rfl, hb2⟩
          clear hcv
          go_wp2
          go_ret
          exact ⟨by simp, hbf.trans (hb2.mono hbf.size)⟩
  · have hv' : 1048576 < v.size := by omega
    unfold maxLen at hsz
    go_enter Try.func4, Try.ntmps4
    go_wp2_with (go_at_call 10; refine (tripBound_no v _ hv').mono ?_; rintro e w' ⟨rfl, rfl⟩)
    go_ret
    exact ⟨rfl, Below.refl _ _⟩

end Go.Proofs.Qxb6605232a.Tag
