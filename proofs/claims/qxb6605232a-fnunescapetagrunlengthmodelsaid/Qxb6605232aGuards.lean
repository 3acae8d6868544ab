/-
  DERIVED (a prover's text, seat b6605232a). The bound on the total length, zzTagsTooBig, zzIsRaw.
-/
import Derived.Test.Qxb6605232aAppend
namespace Go.Proofs.Qxb6605232a.Tag
open Go.ChangeShapes Go.WideShapes Go.ChangeAt Go.RowKit
set_option linter.unusedVariables false

/-- What zzTagsTooBig adds up. -/
def sumTo (K V : Nat → ByteArray) : Nat → Nat
  | 0 => 0
  | k + 1 => sumTo K V k + (32 + (K k).size + (V k).size)

theorem tagLen_le (key val : List UInt8) : tagLen key val ≤ key.length + 1 + 2 * val.length := by
  unfold tagLen
  have := countRaw_le val
  split <;> omega

theorem tags_le (K V : Nat → ByteArray) : ∀ k, (tagsTo (kOf K) (kOf V) k).length ≤ 2 * sumTo K V k
  | 0 => Nat.le_refl _
  | k + 1 => by
    have ih := tags_le K V k
    have h := tagLen_le (kOf K k) (kOf V k)
    have h1 : (kOf K k).length = (K k).size := size_toList (K k)
    have h2 : (kOf V k).length = (V k).size := size_toList (V k)
    simp only [tagsTo, sumTo, List.length_append, tagB_length]
    omega

def SomeBool (e : Ending) : Prop := ∃ b, e = .returned (.bool b)

set_option maxHeartbeats 1000000 in
theorem bound_zero (p q : Option Addr) (d c1 c2 : Nat) (w : World) :
    Calls Try.prog 12 #[.slice p d c1, .slice q 0 c2] w fun e w' => SomeBool e ∧ w' = w := by
  by_cases hd : d ≤ 1048576
  · go_enter Try.func12, Try.ntmps12
    go_wp2
    refine wp_loop_rounds 1 ?_
    rw [rounds_succ]
    go_wp2
    go_ret
    exact ⟨⟨true, rfl⟩, rfl⟩
  · go_enter Try.func12, Try.ntmps12
    go_wp2
    go_ret
    exact ⟨⟨false, rfl⟩, rfl⟩

set_option maxHeartbeats 1000000 in
theorem bound_some (p : Option Addr) (d c1 tb to n c2 : Nat) (K V : Nat → ByteArray) (w : World) (ht : TagsAt w tb to n K V) :
    Calls Try.prog 12 #[.slice p d c1, .slice (some ⟨tb, to, none⟩) n c2] w fun e w' => SomeBool e ∧ w' = w := by
  have HT : Hid (TagsAt w tb to n K V) := ht
  clear ht
  by_cases hd : d ≤ 1048576
  · by_cases hn : n ≤ 1048576
    · by_cases hdn : d + n ≤ 1048576
      · go_enter Try.func12, Try.ntmps12
        go_wp2
        go_loop [5, 6] (fun s i => ∃ k : Nat, k ≤ n ∧ i = .int .i64 k ∧ ∃ q : Int, 0 ≤ q ∧ q ≤ 1048576 ∧ s = .int .i64 q) (fun _ i => n - (intOf i).toNat)
        case atStart => exact ⟨0, Nat.zero_le _, rfl, _, by omega, by omega, rfl⟩
        case round =>
          obtain ⟨k, hk, rfl, q, hq0, hq1, rfl⟩ := hrel
          by_cases hlt : k < n
          · obtain ⟨hc0, hc1⟩ := HT.out k hlt
            obtain ⟨kk, hkk⟩ : ∃ kk, kk = K k := ⟨_, rfl⟩
            obtain ⟨vv, hvv⟩ : ∃ vv, vv = V k := ⟨_, rfl⟩
            rw [← hkk] at hc0
            rw [← hvv] at hc1
            clear hkk hvv
            go_wp2
            all_goals first
              | (go_ret; exact ⟨⟨false, rfl⟩, rfl⟩)
              | (go_round
                 case rel => exact ⟨k + 1, by omega, by go_num, _, by omega, by omega, rfl⟩
                 case measure => simp [intOf]; omega)
          · go_wp2
            go_ret
            exact ⟨⟨true, rfl⟩, rfl⟩
      · go_enter Try.func12, Try.ntmps12
        go_wp2
        go_ret
        exact ⟨⟨false, rfl⟩, rfl⟩
    · go_enter Try.func12, Try.ntmps12
      go_wp2
      go_ret
      exact ⟨⟨false, rfl⟩, rfl⟩
  · go_enter Try.func12, Try.ntmps12
    go_wp2
    go_ret
    exact ⟨⟨false, rfl⟩, rfl⟩

theorem isRaw_iff (z : UInt8) : isRaw z = (((z.toNat : Int) == 59) || ((z.toNat : Int) == 32) || ((z.toNat : Int) == 92) || ((z.toNat : Int) == 13) || ((z.toNat : Int) == 10)) := by
  have h : ∀ q : UInt8, (z == q) = ((z.toNat : Int) == (q.toNat : Int)) := by
    intro q
    rw [Bool.eq_iff_iff]
    simp only [beq_iff_eq]
    constructor
    · rintro rfl; rfl
    · intro h
      exact UInt8.toNat_inj.1 (by omega)
  unfold isRaw
  rw [h 59, h 32, h 92, h 13, h 10]
  rfl

set_option maxHeartbeats 1000000 in
theorem raw_any (z : UInt8) (w : World) :
    Calls Try.prog 16 #[.int .u8 (z.toNat : Int)] w fun e w' => e = .returned (.bool (isRaw z)) ∧ w' = w := by
  rw [isRaw_iff]
  generalize (z.toNat : Int) = c
  go_enter Try.func16, Try.ntmps16
  go_wp2
  all_goals go_ret
  all_goals exact ⟨by simp [*], rfl⟩

end Go.Proofs.Qxb6605232a.Tag
