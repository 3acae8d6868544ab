/-
  DERIVED (a prover's text, seat b6605491a). isToken and the model of a token's byte: plain law and walks.
-/
import Derived.Test.Qxb6605491aRows
import Derived.Test.Qxb6605491aShelf
import Derived.WalkKit
import Derived.ProofKit
import Derived.OpenShut
import Derived.WalkSmall
import Derived.Laws.IdiomStrings
namespace Go.Proofs.Qxb6605491a.Tok
open Go.ChangeShapes Go.WideShapes Go.ChangeAt Go.RowKit
set_option linter.unusedVariables false

/-! ### THE PLAIN LAW -/

/-- The five delimiters' road: visible ASCII less the delimiters. -/
def tchar (c : Int) : Bool :=
  !(decide (c < 33) || decide (126 < c)) && !(c == 34 || c == 40 || c == 41 || c == 44 || c == 47 || c == 58 || c == 59 || c == 60 || c == 61 || c == 62 || c == 63 || c == 64 || c == 91 || c == 92 || c == 93 || c == 123 || c == 125)

/-- isToken's own road: letters, digits, and the fifteen of the table. -/
def tok (z : UInt8) : Bool :=
  (decide (97 ≤ (z.toNat : Int)) && decide ((z.toNat : Int) ≤ 122)) || (decide (65 ≤ (z.toNat : Int)) && decide ((z.toNat : Int) ≤ 90)) || (decide (48 ≤ (z.toNat : Int)) && decide ((z.toNat : Int) ≤ 57)) ||
    decide (0 ≤ Lib.indexByte [33, 35, 36, 37, 38, 39, 42, 43, 45, 46, 94, 95, 96, 124, 126] z)

theorem tok_all : ∀ n : Nat, n < 256 → tok (UInt8.ofNat n) = tchar (((UInt8.ofNat n).toNat : Nat) : Int) := by decide +kernel

theorem tok_eq (z : UInt8) : tok z = tchar (z.toNat : Int) := by
  have h := tok_all z.toNat z.toNat_lt
  rwa [UInt8.ofNat_toNat] at h

def allTok (l : List UInt8) : Bool := l.all tok

theorem allTok_snoc (l : List UInt8) (z : UInt8) : allTok (l ++ [z]) = (allTok l && tok z) := by simp [allTok]

theorem allTok_split (l : List UInt8) (k : Nat) (z : UInt8) (hz : l[k]? = some z) (h : tok z = false) : allTok l = false := by
  unfold allTok
  rw [List.all_eq_false]
  exact ⟨z, List.mem_of_getElem? hz, by simp [h]⟩

theorem size_toList (s : ByteArray) : s.data.toList.length = s.size := by rw [Array.length_toList]; rfl

theorem take_snoc (s : ByteArray) (k : Nat) (h : k < s.size) : s.data.toList.take (k + 1) = s.data.toList.take k ++ [s[k]] := by
  rw [List.take_succ_eq_append_getElem (by rw [size_toList]; exact h)]; rfl

/-! ### THE WALKS -/

set_option maxHeartbeats 2000000 in
theorem tchar_any (z : UInt8) (w : World) :
    Calls Try.prog 5 #[.int .u8 (z.toNat : Int)] w fun e w' => e = .returned (.bool (tok z)) ∧ w' = w := by
  rw [tok_eq]
  generalize (z.toNat : Int) = c
  by_cases h1 : c < 33
  · go_enter Try.func5, Try.ntmps5
    go_wp2
    go_ret
    exact ⟨by simp [tchar, h1], rfl⟩
  · by_cases h2 : 126 < c
    · go_enter Try.func5, Try.ntmps5
      go_wp2
      go_ret
      exact ⟨by simp [tchar, h2], rfl⟩
    · go_enter Try.func5, Try.ntmps5
      go_wp2
      all_goals go_ret
      all_goals refine ⟨?_, rfl⟩
      all_goals simp [tchar, *]

def tokenB (s : ByteArray) : Bool := !s.data.toList.isEmpty && allTok s.data.toList

theorem toByte (z : UInt8) : ((z.toNat : Int)).toNat.toUInt8 = z := by
  simp

theorem table_any (z : UInt8) (w : World) :
    Calls Try.prog 8 #[.string ⟨#[33, 35, 36, 37, 38, 39, 42, 43, 45, 46, 94, 95, 96, 124, 126]⟩, .int .u8 (z.toNat : Int)] w fun e w' => e = .returned (.int .i64 (Lib.indexByte [33, 35, 36, 37, 38, 39, 42, 43, 45, 46, 94, 95, 96, 124, 126] z)) ∧ w' = w := by
  refine (Try.strings_IndexByte ⟨#[33, 35, 36, 37, 38, 39, 42, 43, 45, 46, 94, 95, 96, 124, 126]⟩ (z.toNat : Int) w).mono ?_
  rintro e w' ⟨rfl, rfl⟩
  rw [toByte]
  exact ⟨rfl, rfl⟩

set_option maxHeartbeats 400000 in
theorem token_empty (s : ByteArray) (w : World) (h : s.toList.isEmpty = true) :
    Calls Try.prog 7 #[.string s] w fun e w' => e = .returned (.bool false) ∧ w' = w := by
  go_enter Try.func7, Try.ntmps7
  go_wp2
  go_ret
  exact ⟨rfl, rfl⟩

set_option maxHeartbeats 2000000 in
theorem token_some (s : ByteArray) (w : World) (h : s.toList.isEmpty = false) (hs : s.size ≤ 1048576) :
    Calls Try.prog 7 #[.string s] w fun e w' => e = .returned (.bool (allTok s.data.toList)) ∧ Below w.heap.size w w' := by
  obtain ⟨cap, C, hcv, hC⟩ : ∃ cap C, (convert 9 24 (.string s)).run Try.prog w = .ok (.slice (some ⟨w.heap.size, 0, none⟩) s.size cap) (w.drew.alloc (.cells C 5 (C.size, C.size + 1))) ∧
      ∀ j (hj : j < s.size), (w.alloc (.cells C 5 (C.size, C.size + 1))).cell? ⟨w.heap.size, j, none⟩ = some (.int .u8 (s[j].toNat : Int)) := by
    refine ⟨_, _, run_bytes_of_string w 9 24 5 s Try.underlying9 Try.underlying24 Try.underlying5, fun j hj => ?_⟩
    rw [World.cell?_alloc_mark, bytesRow_at s _ j hj]
    rfl
  have HC : Hid (∀ j (hj : j < s.size), (w.alloc (.cells C 5 (C.size, C.size + 1))).cell? ⟨w.heap.size, j, none⟩ = some (.int .u8 (s[j].toNat : Int))) := hC
  clear hC
  go_enter Try.func7, Try.ntmps7
  go_wp2
  clear hcv
  go_loop [11] (fun i => ∃ k : Nat, k ≤ s.size ∧ i = .int .i64 k ∧ Hid (allTok (s.data.toList.take k) = true)) (fun i => s.size - (intOf i).toNat)
  case atStart => exact ⟨0, Nat.zero_le _, rfl, rfl⟩
  case round =>
    obtain ⟨k, hk, rfl, HA⟩ := hrel
    by_cases hlt : k < s.size
    · have hcell := HC.out k hlt
      have hts := take_snoc s k hlt
      obtain ⟨z, hz⟩ : ∃ z, z = s[k] := ⟨_, rfl⟩
      rw [← hz] at hcell hts
      have HN : Hid (allTok (s.data.toList.take (k + 1)) = tok z) := show _ = _ by rw [hts, allTok_snoc, HA.out, Bool.true_and]
      have HZ : Hid (s.data.toList[k]? = some z) := show _ = _ by
        rw [List.getElem?_eq_getElem (by rw [size_toList]; exact hlt), hz]; rfl
      have htab := table_any z ((w.alloc (.cells C 5 (C.size, C.size + 1))).drew)
      have htk : tok z = ((decide (97 ≤ (z.toNat : Int)) && decide ((z.toNat : Int) ≤ 122)) || (decide (65 ≤ (z.toNat : Int)) && decide ((z.toNat : Int) ≤ 90)) || (decide (48 ≤ (z.toNat : Int)) && decide ((z.toNat : Int) ≤ 57)) || decide (0 ≤ Lib.indexByte [33, 35, 36, 37, 38, 39, 42, 43, 45, 46, 94, 95, 96, 124, 126] z)) := rfl
      have HTK : Hid (tok z = ((decide (97 ≤ (z.toNat : Int)) && decide ((z.toNat : Int) ≤ 122)) || (decide (65 ≤ (z.toNat : Int)) && decide ((z.toNat : Int) ≤ 90)) || (decide (48 ≤ (z.toNat : Int)) && decide ((z.toNat : Int) ≤ 57)) || decide (0 ≤ Lib.indexByte [33, 35, 36, 37, 38, 39, 42, 43, 45, 46, 94, 95, 96, 124, 126] z))) := htk
      clear hz hts htk
      generalize (z.toNat : Int) = c at *
      generalize Lib.indexByte [33, 35, 36, 37, 38, 39, 42, 43, 45, 46, 94, 95, 96, 124, 126] z = ix at *
      by_cases h1 : 97 ≤ c ∧ c ≤ 122
      · obtain ⟨h1a, h1b⟩ := h1
        have HT : Hid (tok z = true) := show _ = _ by rw [HTK.out]; simp [h1a, h1b]
        clear HTK
        go_wp2
        go_round
        case rel => exact ⟨k + 1, by omega, by go_num, show _ = _ by rw [HN.out]; exact HT.out⟩
        case measure => simp [intOf]; omega
      · by_cases h2 : 65 ≤ c ∧ c ≤ 90
        · obtain ⟨h2a, h2b⟩ := h2
          have HT : Hid (tok z = true) := show _ = _ by rw [HTK.out]; simp [h2a, h2b]
          clear HTK
          go_wp2
          go_round
          case rel => exact ⟨k + 1, by omega, by go_num, show _ = _ by rw [HN.out]; exact HT.out⟩
          case measure => simp [intOf]; omega
        · by_cases h3 : 48 ≤ c ∧ c ≤ 57
          · obtain ⟨h3a, h3b⟩ := h3
            have HT : Hid (tok z = true) := show _ = _ by rw [HTK.out]; simp [h3a, h3b]
            clear HTK
            go_wp2
            go_round
            case rel => exact ⟨k + 1, by omega, by go_num, show _ = _ by rw [HN.out]; exact HT.out⟩
            case measure => simp [intOf]; omega
          · have hr : c < 48 ∨ (58 ≤ c ∧ c ≤ 64) ∨ (91 ≤ c ∧ c ≤ 96) ∨ 123 ≤ c := by omega
            have HT : Hid (tok z = decide (0 ≤ ix)) := show _ = _ by
              rw [HTK.out]
              have e1 : (decide (97 ≤ c) && decide (c ≤ 122)) = false := by simp; omega
              have e2 : (decide (65 ≤ c) && decide (c ≤ 90)) = false := by simp; omega
              have e3 : (decide (48 ≤ c) && decide (c ≤ 57)) = false := by simp; omega
              rw [e1, e2, e3]; rfl
            clear HTK h1 h2 h3
            by_cases hix : 0 ≤ ix
            · have HT2 : Hid (tok z = true) := show _ = _ by rw [HT.out]; simpa using hix
              clear HT
              rcases hr with hr | ⟨hr1, hr2⟩ | ⟨hr1, hr2⟩ | hr
              all_goals
                go_wp2_with (go_at_call 8; refine htab.mono ?_; rintro e w' ⟨rfl, rfl⟩)
                go_round
                case rel => exact ⟨k + 1, by omega, by go_num, show _ = _ by rw [HN.out]; exact HT2.out⟩
                case measure => simp [intOf]; omega
            · have HT2 : Hid (allTok s.data.toList = false) := show _ = _ by
                refine allTok_split _ k z HZ.out ?_
                rw [HT.out]; simpa using hix
              clear HT
              rcases hr with hr | ⟨hr1, hr2⟩ | ⟨hr1, hr2⟩ | hr
              all_goals
                go_wp2_with (go_at_call 8; refine htab.mono ?_; rintro e w' ⟨rfl, rfl⟩)
                all_goals first
                  | (go_ret; exact ⟨by rw [HT2.out]; rfl, ((Below.refl _ w).alloc (Nat.le_refl _) _).drew⟩)
                  | (exfalso; rename_i hh; simp at hh; omega)
    · obtain rfl : k = s.size := by omega
      have HF : Hid (allTok s.data.toList = true) := show _ = _ by
        have := HA.out
        rwa [List.take_of_length_le (by rw [size_toList]; exact Nat.le_refl _)] at this
      go_wp2
      go_ret
      exact ⟨by rw [HF.out]; rfl, ((Below.refl _ w).alloc (Nat.le_refl _) _).drew⟩

end Go.Proofs.Qxb6605491a.Tok
