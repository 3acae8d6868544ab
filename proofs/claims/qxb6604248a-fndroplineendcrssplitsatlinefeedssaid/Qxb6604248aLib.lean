/-
  DERIVED (a prover's text, seat b6604248a). The two contracts of package bytes that the walks take, paid by the shelf's.
-/
import Derived.Test.Qxb6604248aLaw1
import Derived.Test.Qxb6604248aShelf
namespace Go.Proofs.Qxb6604248a.Crs
open Go.ChangeShapes Go.WideShapes Go.ChangeAt Go.RowKit
set_option linter.unusedVariables false

theorem In.bytesIn {w : World} {p : Option Addr} {n : Nat} {xs : List Int} (h : In w p n xs) : Lib.BytesIn w p n xs := by
  obtain ⟨h1, h2⟩ := h
  rcases h2 with rfl | ⟨b, off, rfl, hc⟩
  · exact Lib.BytesIn.nil w p xs
  · exact Lib.BytesIn.of_cells (fun i hi => by rw [add_plain]; exact hc i hi)

theorem sep2 {w : World} {b : Nat} (h1 : w.cell? ⟨b, 0, none⟩ = some (.int .u8 13)) (h2 : w.cell? ⟨b, 1, none⟩ = some (.int .u8 10)) : Lib.BytesIn w (some ⟨b, 0, none⟩) 2 [13, 10] :=
  Lib.BytesIn.of_cells (fun i hi => by
    rw [add_plain]
    have : i = 0 ∨ i = 1 := by omega
    rcases this with rfl | rfl
    · exact h1
    · exact h2)

theorem sep1 {w : World} {b : Nat} (h1 : w.cell? ⟨b, 0, none⟩ = some (.int .u8 13)) : Lib.BytesIn w (some ⟨b, 0, none⟩) 1 [13] :=
  Lib.BytesIn.of_cells (fun i hi => by
    rw [add_plain]
    obtain rfl : i = 0 := by omega
    exact h1)

theorem cut_paid : CutSaid 0 := by
  intro p b n c xs m w hin hby hp hnc hn h13 h10 hm
  refine (Try.bytes_Cut_all p (some ⟨b, 0, none⟩) n c 2 2 xs [13, 10] m w hin.1 rfl hby (by intro y hy; simp at hy; rcases hy with rfl | rfl <;> decide) hin.bytesIn (sep2 h13 h10) hp hnc (by omega) (by decide) hm).mono ?_
  rintro e w' ⟨rfl, hq⟩
  refine ⟨?_, hq⟩
  have e2 : Lib.bytesOf [13, 10] = [13, 10] := by decide
  rw [e2]
  show (idx xs = -1 ∧ Ending.returned (Lib.cutV p n c 2 (idx xs)) = _) ∨ _
  rcases idx_spec xs hby with ⟨h, _⟩ | ⟨i, h, _⟩
  · left
    rw [h]
    exact ⟨rfl, rfl⟩
  · right
    refine ⟨i, h, ?_⟩
    show Ending.returned (Lib.cutV p n c 2 (idx xs)) = _
    rw [h]
    unfold Lib.cutV Lib.fromV
    rw [if_pos (by omega)]
    rfl

theorem trim_paid : TrimSaid := by
  intro p b n c xs w hin hby hnc hn h13
  refine (Try.bytes_TrimSuffix_all p (some ⟨b, 0, none⟩) n c 1 1 xs [13] w hin.1 rfl hnc (by omega) hin.bytesIn (sep1 h13)).mono ?_
  rintro e w' ⟨rfl, hq⟩
  refine ⟨?_, hq⟩
  have hv : Lib.trimSuffixV p n c xs [13] = .slice p (trim13 xs).length c := by
    rcases hin.2 with h0 | ⟨b', off, rfl, _⟩
    · have hx := hin.1
      rw [h0] at hx
      obtain rfl : xs = [] := List.eq_nil_of_length_eq_zero hx
      subst h0
      unfold Lib.trimSuffixV
      split
      · rfl
      · rfl
    · show Lib.bytesTrimSuffix b' off n c xs [13] = _
      unfold Lib.bytesTrimSuffix
      have e1 : Lib.bytesOf [13] = [13] := by decide
      rw [e1, suffix13 xs hby, trim13_eq]
      by_cases h : xs.getLast? = some 13
      · rw [if_pos (by simpa using h), if_pos h, Lib.sliceTo]
        simp [hin.1]
      · rw [if_neg (by simpa using h), if_neg h, hin.1]
  rw [hv]

end Go.Proofs.Qxb6604248a.Crs
