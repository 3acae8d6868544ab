/-
  DERIVED (a prover's text, seat b6605232a). unescapeTag: it hands back 'unesc' of the string's bytes.
-/
import Derived.Test.Qxb6605232aAppend
import Derived.Lib.Builder
namespace Go.Proofs.Qxb6605232a.Tag
open Go.ChangeShapes Go.WideShapes Go.ChangeAt Go.RowKit
set_option linter.unusedVariables false

def strOf (l : List UInt8) : ByteArray := ⟨l.toArray⟩

theorem strOf_data (s : ByteArray) : strOf s.data.toList = s := by simp [strOf]
theorem strOf_toList (l : List UInt8) : (strOf l).data.toList = l := by simp [strOf]

theorem ix_mem : ∀ (l : List UInt8) (c : UInt8), ¬ 0 ≤ Lib.indexByte l c → c ∉ l
  | [], c, _ => by simp
  | b :: l, c, h => by
    unfold Lib.indexByte at h
    split at h
    · exact absurd (Int.le_refl 0) h
    · rename_i hb
      have ih := ix_mem l c
      intro hm
      rcases List.mem_cons.1 hm with rfl | hm
      · simp at hb
      · apply ih _ hm
        intro h0
        apply h
        split
        · rename_i h1; simp at h1; omega
        · omega

theorem esc_no (z : UInt8) (w : World) (h : Lib.indexByte [58, 115, 92, 114, 110] z = -1) :
    Calls Try.prog 22 #[.string ⟨#[58, 115, 92, 114, 110]⟩, .int .u8 (z.toNat : Int)] w fun e w' => e = .returned (.int .i64 (-1)) ∧ w' = w := by
  refine (Try.strings_IndexByte ⟨#[58, 115, 92, 114, 110]⟩ (z.toNat : Int) w).mono ?_
  rintro e w' ⟨rfl, rfl⟩
  rw [toByte]
  exact ⟨by rw [← h], rfl⟩

theorem esc_yes (z : UInt8) (k : Nat) (w : World) (h : Lib.indexByte [58, 115, 92, 114, 110] z = k) :
    Calls Try.prog 22 #[.string ⟨#[58, 115, 92, 114, 110]⟩, .int .u8 (z.toNat : Int)] w fun e w' => e = .returned (.int .i64 k) ∧ w' = w := by
  refine (Try.strings_IndexByte ⟨#[58, 115, 92, 114, 110]⟩ (z.toNat : Int) w).mono ?_
  rintro e w' ⟨rfl, rfl⟩
  rw [toByte]
  exact ⟨by rw [← h], rfl⟩

theorem drop_cons (s : ByteArray) (k : Nat) (h : k < s.size) : s.data.toList.drop k = s[k] :: s.data.toList.drop (k + 1) := by
  rw [List.drop_eq_getElem_cons (by rw [size_toList]; exact h)]; rfl

/-- The builder holds l. -/
def Bld (B : Nat) (l : List UInt8) (w : World) : Prop := Lib.IsBuilder 42 5 B B (Lib.byteCells l) w

theorem write_any (B : Nat) (l : List UInt8) (z : UInt8) (w : World) (h : Bld B l w) (hl : l.length ≤ 100000000) (hB : B ≤ w.heap.size) :
    Calls Try.prog 21 #[.pointer (some ⟨B, 0, none⟩), .int .u8 (z.toNat : Int)] w fun e w' => e = .returned .nilIface ∧ Bld B (l ++ [z]) w' ∧ Below B w w' := by
  refine (Try.Builder_WriteByte B B (Lib.byteCells l) (z.toNat : Int) w h (by rw [Lib.byteCells_length]; omega) hB).mono ?_
  rintro e w' ⟨rfl, h1, h2⟩
  refine ⟨rfl, Or.inr ?_, h2⟩
  rw [byteCells_append]; exact h1

theorem beq_byte {z : UInt8} {q : Nat} (hq : q < 256) : ((z.toNat : Int) == (q : Int)) = decide (z = UInt8.ofNat q) := by
  rw [Bool.eq_iff_iff]
  simp only [beq_iff_eq, decide_eq_true_eq]
  constructor
  · intro h
    apply UInt8.toNat_inj.1
    rw [UInt8.toNat_ofNat']
    omega
  · rintro rfl
    rw [UInt8.toNat_ofNat']
    omega

set_option maxHeartbeats 2000000 in
theorem unesc_plainly (s : ByteArray) (w : World) (h : ¬ 0 ≤ Lib.indexByte s.data.toList 92) :
    Calls Try.prog 17 #[.string s] w fun e w' => e = .returned (.string (strOf (unesc s.data.toList))) ∧ w' = w := by
  rw [unesc_none _ (ix_mem _ _ h), strOf_data]
  have hcon := Try.strings_Contains_one s 92 w
  rw [show decide (0 ≤ Lib.indexByte s.data.toList 92) = false by simpa using h] at hcon
  clear h
  go_enter Try.func17, Try.ntmps17
  go_wp2_with fail
  refine hcon.mono ?_
  rintro e w' ⟨rfl, hw⟩
  subst hw
  clear hcon
  go_wp2
  go_ret
  exact ⟨rfl, rfl⟩

set_option maxHeartbeats 4000000 in
theorem unesc_built (s : ByteArray) (w : World) (h : 0 ≤ Lib.indexByte s.data.toList 92) (hs : s.size ≤ 20000000) :
    Calls Try.prog 17 #[.string s] w fun e w' => e = .returned (.string (strOf (unesc s.data.toList))) ∧ Below w.heap.size w w' := by
  have hcon := Try.strings_Contains_one s 92 w
  rw [show decide (0 ≤ Lib.indexByte s.data.toList 92) = true by simpa using h] at hcon
  clear h
  go_enter Try.func17, Try.ntmps17
  go_wp2_with fail
  refine hcon.mono ?_
  rintro e w' ⟨rfl, hw⟩
  subst hw
  clear hcon
  go_wp2_with fail
  go_loopw [4] (fun i wr => ∃ (k : Nat) (acc : List UInt8), k ≤ s.size ∧ i = .int .i64 k ∧ acc.length ≤ k ∧ Hid (Bld w'.heap.size acc wr) ∧ Hid (unesc s.data.toList = acc ++ unesc (s.data.toList.drop k)) ∧ Below w'.heap.size w' wr) (fun i _ => s.size - (intOf i).toNat)
  case atStart => exact ⟨0, [], Nat.zero_le _, rfl, Nat.le_refl _, Lib.fresh_isBuilder 42 5 w', show _ = _ by simp, (Below.refl _ _).alloc (Nat.le_refl _) _⟩
  case round =>
    obtain ⟨k, acc, hk, rfl, hak, HB, HU, hbr⟩ := hrel
    have hbs : w'.heap.size ≤ wr.heap.size := hbr.size
    by_cases hlt : k < s.size
    · have hdr := drop_cons s k hlt
      by_cases h92 : s[k] = 92
      · have t92 : ((s[k].toNat : Int) != 92) = false := by rw [h92]; rfl
        rw [h92] at hdr
        clear h92
        by_cases hend : k + 1 = s.size
        · have HF : Hid (unesc s.data.toList = acc) := show _ = _ by
            rw [HU.out, hdr, List.drop_eq_nil_of_le (by rw [size_toList]; omega)]; simp [unesc]
          have hstr := Try.Builder_String_any w'.heap.size w'.heap.size acc wr HB.out hbs
          clear hdr
          go_wp2_with fail
          refine hstr.mono ?_
          clear hstr
          rintro e w2 ⟨rfl, hb2⟩
          go_wp2
          go_ret
          exact ⟨by rw [HF.out]; rfl, hbr.trans hb2⟩
        · have hlt2 : k + 1 < s.size := by omega
          rw [drop_cons s (k + 1) hlt2] at hdr
          obtain ⟨d, hd⟩ : ∃ d, s[k + 1] = d := ⟨_, rfl⟩
          rw [hd] at hdr
          have HD : Hid (s[k + 1] = d) := hd
          have HDR : Hid (s.data.toList.drop k = 92 :: d :: s.data.toList.drop (k + 1 + 1)) := hdr
          clear hdr hd
          rcases ix_esc d with ⟨h1, h2⟩ | ⟨j, h1, h2, h4⟩
          · have hcon := esc_no d wr h1
            have hwr := write_any w'.heap.size acc d wr HB.out (by omega) hbs
            have HU2 : Hid (unesc s.data.toList = (acc ++ [d]) ++ unesc (s.data.toList.drop (k + 1 + 1))) := show _ = _ by
              rw [HU.out, HDR.out, unesc_slash, h2]; simp
            clear h1 h2 HDR
            go_wp2_with fail
            rw [HD.out]
            refine hcon.mono ?_
            clear hcon
            rintro e w1 ⟨rfl, hw⟩
            subst hw
            go_wp2_with fail
            refine hwr.mono ?_
            clear hwr
            rintro e w2 ⟨rfl, hB2, hb2⟩
            have HB2 : Hid (Bld w'.heap.size (acc ++ [d]) w2) := hB2
            clear hB2
            go_wp2
            go_roundw
            case rel => exact ⟨k + 1 + 1, acc ++ [d], by omega, by go_num, by simp; omega, HB2, HU2, hbr.trans hb2⟩
            case measure => simp [intOf]; omega
          · have hcon := esc_yes d j wr h1
            clear h1
            match j, h2, h4 with
            | 0, _, h4 =>
              have hwr : Calls Try.prog 21 #[.pointer (some ⟨w'.heap.size, 0, none⟩), .int .u8 59] wr fun e w1 => e = .returned .nilIface ∧ Bld w'.heap.size (acc ++ [59]) w1 ∧ Below w'.heap.size wr w1 := write_any w'.heap.size acc 59 wr HB.out (by omega) hbs
              have HU2 : Hid (unesc s.data.toList = (acc ++ [59]) ++ unesc (s.data.toList.drop (k + 1 + 1))) := show _ = _ by
                rw [HU.out, HDR.out, unesc_slash, h4]; simp
              clear h4 HDR h2
              go_wp2_with fail
              rw [HD.out]
              refine hcon.mono ?_
              clear hcon
              rintro e w1 ⟨rfl, hw⟩
              subst hw
              go_wp2_with fail
              refine hwr.mono ?_
              clear hwr
              rintro e w2 ⟨rfl, hB2, hb2⟩
              have HB2 : Hid (Bld w'.heap.size (acc ++ [59]) w2) := hB2
              clear hB2
              go_wp2
              go_roundw
              case rel => exact ⟨k + 1 + 1, acc ++ [59], by omega, by go_num, by simp; omega, HB2, HU2, hbr.trans hb2⟩
              case measure => simp [intOf]; omega
            | 1, _, h4 =>
              have hwr : Calls Try.prog 21 #[.pointer (some ⟨w'.heap.size, 0, none⟩), .int .u8 32] wr fun e w1 => e = .returned .nilIface ∧ Bld w'.heap.size (acc ++ [32]) w1 ∧ Below w'.heap.size wr w1 := write_any w'.heap.size acc 32 wr HB.out (by omega) hbs
              have HU2 : Hid (unesc s.data.toList = (acc ++ [32]) ++ unesc (s.data.toList.drop (k + 1 + 1))) := show _ = _ by
                rw [HU.out, HDR.out, unesc_slash, h4]; simp
              clear h4 HDR h2
              go_wp2_with fail
              rw [HD.out]
              refine hcon.mono ?_
              clear hcon
              rintro e w1 ⟨rfl, hw⟩
              subst hw
              go_wp2_with fail
              refine hwr.mono ?_
              clear hwr
              rintro e w2 ⟨rfl, hB2, hb2⟩
              have HB2 : Hid (Bld w'.heap.size (acc ++ [32]) w2) := hB2
              clear hB2
              go_wp2
              go_roundw
              case rel => exact ⟨k + 1 + 1, acc ++ [32], by omega, by go_num, by simp; omega, HB2, HU2, hbr.trans hb2⟩
              case measure => simp [intOf]; omega
            | 2, _, h4 =>
              have hwr : Calls Try.prog 21 #[.pointer (some ⟨w'.heap.size, 0, none⟩), .int .u8 92] wr fun e w1 => e = .returned .nilIface ∧ Bld w'.heap.size (acc ++ [92]) w1 ∧ Below w'.heap.size wr w1 := write_any w'.heap.size acc 92 wr HB.out (by omega) hbs
              have HU2 : Hid (unesc s.data.toList = (acc ++ [92]) ++ unesc (s.data.toList.drop (k + 1 + 1))) := show _ = _ by
                rw [HU.out, HDR.out, unesc_slash, h4]; simp
              clear h4 HDR h2
              go_wp2_with fail
              rw [HD.out]
              refine hcon.mono ?_
              clear hcon
              rintro e w1 ⟨rfl, hw⟩
              subst hw
              go_wp2_with fail
              refine hwr.mono ?_
              clear hwr
              rintro e w2 ⟨rfl, hB2, hb2⟩
              have HB2 : Hid (Bld w'.heap.size (acc ++ [92]) w2) := hB2
              clear hB2
              go_wp2
              go_roundw
              case rel => exact ⟨k + 1 + 1, acc ++ [92], by omega, by go_num, by simp; omega, HB2, HU2, hbr.trans hb2⟩
              case measure => simp [intOf]; omega
            | 3, _, h4 =>
              have hwr : Calls Try.prog 21 #[.pointer (some ⟨w'.heap.size, 0, none⟩), .int .u8 13] wr fun e w1 => e = .returned .nilIface ∧ Bld w'.heap.size (acc ++ [13]) w1 ∧ Below w'.heap.size wr w1 := write_any w'.heap.size acc 13 wr HB.out (by omega) hbs
              have HU2 : Hid (unesc s.data.toList = (acc ++ [13]) ++ unesc (s.data.toList.drop (k + 1 + 1))) := show _ = _ by
                rw [HU.out, HDR.out, unesc_slash, h4]; simp
              clear h4 HDR h2
              go_wp2_with fail
              rw [HD.out]
              refine hcon.mono ?_
              clear hcon
              rintro e w1 ⟨rfl, hw⟩
              subst hw
              go_wp2_with fail
              refine hwr.mono ?_
              clear hwr
              rintro e w2 ⟨rfl, hB2, hb2⟩
              have HB2 : Hid (Bld w'.heap.size (acc ++ [13]) w2) := hB2
              clear hB2
              go_wp2
              go_roundw
              case rel => exact ⟨k + 1 + 1, acc ++ [13], by omega, by go_num, by simp; omega, HB2, HU2, hbr.trans hb2⟩
              case measure => simp [intOf]; omega
            | 4, _, h4 =>
              have hwr : Calls Try.prog 21 #[.pointer (some ⟨w'.heap.size, 0, none⟩), .int .u8 10] wr fun e w1 => e = .returned .nilIface ∧ Bld w'.heap.size (acc ++ [10]) w1 ∧ Below w'.heap.size wr w1 := write_any w'.heap.size acc 10 wr HB.out (by omega) hbs
              have HU2 : Hid (unesc s.data.toList = (acc ++ [10]) ++ unesc (s.data.toList.drop (k + 1 + 1))) := show _ = _ by
                rw [HU.out, HDR.out, unesc_slash, h4]; simp
              clear h4 HDR h2
              go_wp2_with fail
              rw [HD.out]
              refine hcon.mono ?_
              clear hcon
              rintro e w1 ⟨rfl, hw⟩
              subst hw
              go_wp2_with fail
              refine hwr.mono ?_
              clear hwr
              rintro e w2 ⟨rfl, hB2, hb2⟩
              have HB2 : Hid (Bld w'.heap.size (acc ++ [10]) w2) := hB2
              clear hB2
              go_wp2
              go_roundw
              case rel => exact ⟨k + 1 + 1, acc ++ [10], by omega, by go_num, by simp; omega, HB2, HU2, hbr.trans hb2⟩
              case measure => simp [intOf]; omega
      · have t92 : ((s[k].toNat : Int) != 92) = true := by
          rw [bne, show ((s[k].toNat : Int) == 92) = decide (s[k] = 92) from beq_byte (by decide)]
          simp [h92]
        have HU2 : Hid (unesc s.data.toList = (acc ++ [s[k]]) ++ unesc (s.data.toList.drop (k + 1))) := show _ = _ by
          rw [HU.out, hdr, unesc_plain _ _ h92]; simp
        have hwr := write_any w'.heap.size acc s[k] wr HB.out (by omega) hbs
        clear hdr h92
        go_wp2_with fail
        refine hwr.mono ?_
        clear hwr
        rintro e w2 ⟨rfl, hB2, hb2⟩
        have HB2 : Hid (Bld w'.heap.size (acc ++ [s[k]]) w2) := hB2
        clear hB2
        go_wp2
        go_roundw
        case rel => exact ⟨k + 1, acc ++ [s[k]], by omega, by go_num, by simp; omega, HB2, HU2, hbr.trans hb2⟩
        case measure => simp [intOf]; omega
    · obtain rfl : k = s.size := by omega
      have HF : Hid (unesc s.data.toList = acc) := show _ = _ by
        rw [HU.out, List.drop_eq_nil_of_le (by rw [size_toList]; omega)]; simp [unesc]
      have hstr := Try.Builder_String_any w'.heap.size w'.heap.size acc wr HB.out hbs
      go_wp2_with fail
      refine hstr.mono ?_
      clear hstr
      rintro e w2 ⟨rfl, hb2⟩
      go_wp2
      go_ret
      exact ⟨by rw [HF.out]; rfl, hbr.trans hb2⟩

theorem unesc_any (s : ByteArray) (w : World) (hs : s.size ≤ 20000000) :
    Calls Try.prog 17 #[.string s] w fun e w' => e = .returned (.string (strOf (unesc s.data.toList))) ∧ Below w.heap.size w w' := by
  by_cases h : 0 ≤ Lib.indexByte s.data.toList 92
  · exact unesc_built s w h hs
  · refine (unesc_plainly s w h).mono ?_
    rintro e w' ⟨rfl, rfl⟩
    exact ⟨rfl, Below.refl _ _⟩

set_option maxHeartbeats 400000 in
theorem zunesc_any (s : ByteArray) (w : World) (hs : s.size ≤ 20000000) :
    Calls Try.prog 7 #[.string s] w fun e w' => e = .returned (.string (strOf (unesc s.data.toList))) ∧ Below w.heap.size w w' := by
  have hcon := unesc_any s w hs
  generalize strOf (unesc s.data.toList) = r at *
  go_enter Try.func7, Try.ntmps7
  go_wp2_with fail
  refine hcon.mono ?_
  rintro e w' ⟨rfl, hb⟩
  clear hcon
  go_wp2
  go_ret
  exact ⟨rfl, hb⟩

end Go.Proofs.Qxb6605232a.Tag
