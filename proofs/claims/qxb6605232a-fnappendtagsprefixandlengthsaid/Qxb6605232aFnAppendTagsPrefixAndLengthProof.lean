/-
  THE PROOF OF 'Rows.FnAppendTagsPrefixAndLengthSaid': the frame after the kit's shell for two slices (proof-skeleton.mjs); the second argument, a slice of structs of two strings, is opened by Derived/Deep/SlicePairs.lean; the walk lies in Qxb6605232aPrefix.lean.
-/
import Derived.Test.Qxb6605232aRows
import Derived.WalkKit
import Derived.ProofKit
import Derived.OpenShut
import Derived.ShutString
import Derived.ChangeOld
import Derived.Below
import Derived.Deep.SlicePairs
import Derived.Test.Qxb6605232aPrefix
namespace Go.Proofs.Qxb6605232a.fnAppendTagsPrefixAndLength
open Go.ChangeShapes Go.WideShapes Go.ChangeAt Go.RowKit
open Go.ChangeMaps (open_string shut_string)
set_option linter.unusedVariables false

theorem own : ownKnob Try.prog.godebug = none := by kernel_rfl
theorem laidOut : laidOutB Try.prog = true := by kernel_rfl

/-- WHAT THE WALK IS TOLD OF A SLICE OF INTEGERS THAT CAME IN: it is nil; or it leads to a row of 'cap' cells, the numbers 'zs' (the first 'len' are its elements, the rest its spare room), each fitting its kind. -/
def IsRow (k : IntKind) (w : World) (a : Option Addr) (len cap : Nat) (zs : List Int) : Prop :=
  (a = none ∧ len = 0 ∧ cap = 0 ∧ zs = []) ∨
  ∃ x, a = some x ∧ len ≤ cap ∧ cap ≤ maxLen ∧ zs.length = cap ∧ (∀ i, i < zs.length → w.cell? (x.add i) = some (.int k (zs.getD i 0))) ∧ ∀ n ∈ zs, (Lit.int k n).wf = true

/-- A slice of tags that came in: nil; or each of its elements is two strings. -/
def IsTags (w : World) (a : Option Addr) (len cap : Nat) (K V : Nat → ByteArray) : Prop :=
  (a = none ∧ len = 0 ∧ cap = 0) ∨
  ∃ x, a = some x ∧ ∀ i, i < len → w.cell? (x.add (i * 2)) = some (.string (K i)) ∧ w.cell? (x.add (i * 2 + 1)) = some (.string (V i))

theorem in_of_row {w : World} {a : Option Addr} {len cap : Nat} {zs : List Int} (h : IsRow .u8 w a len cap zs) :
    ∃ l, Tag.In w a len l ∧ (a = none → len = 0 ∧ cap = 0) := by
  rcases h with ⟨rfl, rfl, rfl, rfl⟩ | ⟨x, rfl, hl, hm, hz, hc, hwf⟩
  · exact ⟨[], ⟨rfl, Or.inl rfl⟩, fun _ => ⟨rfl, rfl⟩⟩
  · refine ⟨(zs.take len).map (fun z => UInt8.ofNat z.toNat), ⟨by simp; omega, ?_⟩, (fun h => by cases h)⟩
    by_cases h0 : len = 0
    · exact Or.inl h0
    · obtain ⟨b, off, rfl, hc'⟩ := ints_at hc (by omega)
      refine Or.inr ⟨b, off, rfl, fun j hj => ?_⟩
      have hjz : j < zs.length := by omega
      have hb := bounds_u8 (hwf zs[j] (List.getElem_mem hjz))
      rw [hc' j hjz, List.getD_eq_getElem?_getD, List.getD_eq_getElem?_getD, List.getElem?_map, List.getElem?_take, if_pos hj, List.getElem?_eq_getElem hjz]
      simp only [Option.map_some, Option.getD_some]
      congr 2
      rw [UInt8.toNat_ofNat']
      omega

set_option maxHeartbeats 400000 in
theorem walk_zero (a0 : Option Addr) (len0 cap0 : Nat) (a1 : Option Addr) (cap1 : Nat) (K V : Nat → ByteArray) (w : World) :
    Calls Try.prog 5 #[.slice a0 len0 cap0, .slice a1 0 cap1] w fun e w' => e = .returned (.bool true) ∧ Below w.heap.size w w' := by
  go_enter Try.func5, Try.ntmps5
  go_wp2_with fail
  refine (Tag.bound_zero _ _ _ _ _ _).mono ?_
  rintro e w' ⟨⟨b, rfl⟩, hw⟩
  subst hw
  cases b with
  | false =>
    go_wp2
    go_ret
    exact ⟨rfl, Below.refl _ _⟩
  | true =>
    go_wp2_with fail
    refine (Tag.big_zero _ _ _ _ _ K V _).mono ?_
    rintro e w0 ⟨hbig, hw⟩
    subst hw
    rcases hbig with rfl | ⟨rfl, _, _⟩
    · go_wp2
      go_ret
      exact ⟨rfl, Below.refl _ _⟩
    · go_wp2
      go_ret
      exact ⟨rfl, Below.refl _ _⟩

theorem walk (a0 : Option Addr) (len0 cap0 : Nat) (z0 : List Int) (a1 : Option Addr) (len1 cap1 : Nat) (K V : Nat → ByteArray) (w : World) (w0 : IsRow .u8 w a0 len0 cap0 z0) (w1 : IsTags w a1 len1 cap1 K V) :
    Calls Try.prog 5 #[.slice a0 len0 cap0, .slice a1 len1 cap1] w fun e w' => e = .returned (.bool true) ∧ Below w.heap.size w w' := by
  by_cases h0 : len1 = 0
  · subst h0
    exact walk_zero a0 len0 cap0 a1 cap1 K V w
  · obtain ⟨l, hin, hp⟩ := in_of_row w0
    rcases w1 with ⟨_, h, _⟩ | ⟨x, rfl, hc⟩
    · exact absurd h h0
    · obtain ⟨b, off, spot⟩ := x
      have hspot : spot = none := by
        have h := (hc 0 (by omega)).1
        have := World.cell?_spot h
        simpa [Addr.add] using this
      subst hspot
      refine Tag.prefix_walk a0 len0 cap0 b off len1 cap1 l K V w hin hp (fun i hi => ?_) (by omega)
      obtain ⟨e1, e2⟩ := hc i hi
      rw [add_plain] at e1 e2
      exact ⟨e1, by rw [Nat.add_assoc]; exact e2⟩

/-! ### THE ROW's STEP: WRITTEN OUT: LEAVE IT -/
set_option maxRecDepth 100000 in
theorem lifted (os : Os) (started : os.Started) (H : Type) (enc : TypeId × Value → H) :
    ReturnsInHanded {} Try.checked os 5 .any (Rows.fnAppendTagsPrefixAndLengthSpec.pre6 enc Try.prog Try.f5 Rows.fnAppendTagsPrefixAndLengthRow.domain false) (Rows.fnAppendTagsPrefixAndLengthSpec.post enc Try.prog Try.f5 false true false false) := by
  refine returnsInHanded_of_change (C := Try.checked) own started (by kernel_rfl) Try.func5
    (ChangeSpec.witness6 (enc := enc) (C := Try.checked) false ⟨#[], #[.slice none 0 0, .slice none 0 0], []⟩ 8 (by kernel_rfl) (by kernel_rfl) (by kernel_rfl) (by kernel_rfl)) ?_
  intro W base args ds gs before hval0 hW hcnd _
  have hval : ∀ (j : Nat) t v, Try.f5.params[j]? = some t → args[j]? = some v → Value.okWide Try.prog W .any base t v := hval0
  have hW' := hW
  obtain ⟨p, q, hA0, hV, rfl, hfz, hnd⟩ := hW
  have hA : DataW.TrodAll enc Try.prog W 0 (fun _ => true) true Try.f5.params.toList args.toList ds p := hA0
  rw [Try.params5] at hA hval
  obtain ⟨v0, vs0, d0, ds0, p0, q0, hargs, rfl, rfl, h0, r0⟩ := trodAll_cons hA
  obtain ⟨v1, vs1, d1, ds1, p1, q1, rfl, rfl, rfl, h1, r1⟩ := trodAll_cons r0
  obtain ⟨rfl, rfl, rfl⟩ := trodAll_nil r1
  obtain rfl : args = #[v0, v1] := by cases args; simp_all
  obtain ⟨rfl, rfl⟩ := trodVars_none hV
  obtain ⟨a0, len0, cap0, rfl⟩ := okWide_slice Try.underlying24 (hval 0 24 v0 rfl rfl)
  have k0 := h0
  have lt0 : ∀ x ∈ p0, x.block < W.heap.size := by obtain ⟨m, hm⟩ := k0; exact DataW.trod_lt m _ _ _ hm
  obtain ⟨z0, w0⟩ : ∃ zs, IsRow .u8 W a0 len0 cap0 zs := by
    obtain ⟨fuel, hf⟩ := h0
    rcases open_ints Try.underlying24 Try.underlying5 (by kernel_rfl) hf with ⟨hcs, _⟩ | ⟨x, l, c, zs, hcs, _, hl, hm, hz, _, hcell, hwz⟩
    · simp [Value.cells] at hcs
      obtain ⟨rfl, rfl, rfl⟩ := hcs
      exact ⟨[], .inl ⟨rfl, rfl, rfl, rfl⟩⟩
    · simp [Value.cells] at hcs
      obtain ⟨rfl, rfl, rfl⟩ := hcs
      exact ⟨zs, .inr ⟨_, rfl, hl, hm, by simpa using hz, hcell, hwz⟩⟩
  obtain ⟨a1, len1, cap1, rfl⟩ := okWide_slice Try.underlying31 (hval 1 31 v1 rfl rfl)
  have k1 := h1
  have lt1 : ∀ x ∈ p1, x.block < W.heap.size := by obtain ⟨m, hm⟩ := k1; exact DataW.trod_lt m _ _ _ hm
  obtain ⟨K, V, w1⟩ : ∃ K V, IsTags W a1 len1 cap1 K V := by
    obtain ⟨fuel, hf⟩ := h1
    rcases Deep.open_slice_pairs Try.underlying31 Try.underlying35 (by kernel_rfl) rfl rfl (by kernel_rfl) (by kernel_rfl) hf with ⟨hcs, _⟩ | ⟨x, l, c, m, k, V0, V1, D0, D1, P0, P1, hcs, _, hl, hm, hmm, _, hcell⟩
    · simp [Value.cells] at hcs
      obtain ⟨rfl, rfl, rfl⟩ := hcs
      exact ⟨fun _ => ByteArray.empty, fun _ => ByteArray.empty, .inl ⟨rfl, rfl, rfl⟩⟩
    · simp [Value.cells] at hcs
      obtain ⟨rfl, rfl, rfl⟩ := hcs
      have hlm : len1 ≤ m := by rw [hmm]; split <;> omega
      obtain ⟨K, hK⟩ := Deep.choose_lt (n := m) (p := fun i s => V0 i = Value.string s) (fun i hi => by
        obtain ⟨s, hs, _⟩ := DataW.trod_string Try.underlying9 (hcell i hi).2.2.1
        exact ⟨s, by simpa using hs⟩)
      obtain ⟨V, hV⟩ := Deep.choose_lt (n := m) (p := fun i s => V1 i = Value.string s) (fun i hi => by
        obtain ⟨s, hs, _⟩ := DataW.trod_string Try.underlying9 (hcell i hi).2.2.2
        exact ⟨s, by simpa using hs⟩)
      refine ⟨K, V, .inr ⟨_, rfl, fun i hi => ?_⟩⟩
      obtain ⟨e1, e2, _, _⟩ := hcell i (by omega)
      rw [hK i (by omega)] at e1
      rw [hV i (by omega)] at e2
      exact ⟨e1, e2⟩
  clear hA0 hval0
  refine (walk a0 len0 cap0 z0 a1 len1 cap1 K V W w0 w1).mono fun e W' ⟨he, bel⟩ => ?_
  subst he
  exact ⟨_, rfl, _, _, _, [], _, [], hW', trodAll_mk1 (shut_bool Try.underlying4 _), (trodAll_cons_mk (Below.trod laidOut (by kernel_rfl) (of_decide_eq_true (by kernel_rfl)) k0 bel lt0) (trodAll_cons_mk (Below.trod laidOut (by kernel_rfl) (of_decide_eq_true (by kernel_rfl)) k1 bel lt1) trodAll_mk0)), rfl, bel.frame _, fun h => by cases h⟩

theorem over : Rows.fnAppendTagsPrefixAndLengthRow.holds Try.pinned (OpenSpec.ofChange Rows.fnAppendTagsPrefixAndLengthSpec) :=
  OpenClaim.holds_of_wide 5 Try.f5 rfl rfl rfl rfl rfl rfl rfl ⟨rfl, rfl, rfl, rfl, rfl⟩ rfl rfl rfl rfl rfl (by kernel_rfl) Try.func5 (by kernel_rfl)
    (of_decide_eq_true (by kernel_rfl)) (by unfold Func.isWrapper; first | (rw [if_pos (by decide +kernel)]; kernel_rfl) | (rw [if_neg (by decide +kernel)]; exact ⟨rfl, rfl⟩))
    (fun os started H enc _ => lifted os started H enc)

/-- ████ THE STATEMENT ████ -/
theorem proved : Rows.FnAppendTagsPrefixAndLengthSaid := over
#print axioms proved
end Go.Proofs.Qxb6605232a.fnAppendTagsPrefixAndLength
