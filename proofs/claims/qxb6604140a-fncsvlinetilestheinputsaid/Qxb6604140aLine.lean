/-
  DERIVED (a prover's text, seat b6604140a). bytes.IndexByte, csvLine, ZZcsvLine, countLF, the bound: contracts.
-/
import Derived.Test.Qxb6604140aParts
namespace Go.Proofs.Qxb6604140a.fnCsvLineTilesTheInput
open Go.ChangeShapes Go.WideShapes Go.ChangeAt Go.RowKit
set_option linter.unusedVariables false

def ix (ys : List Int) : Int := Lib.indexByte (Lib.bytesOf ys) 10

theorem byte10 {z : Int} (h0 : 0 ≤ z) (h1 : z < 256) : (UInt8.ofNat z.toNat == 10) = decide (z = 10) := by
  rw [Bool.eq_iff_iff]
  simp
  constructor
  · intro h
    have := congrArg UInt8.toNat h
    simp at this
    omega
  · rintro rfl; rfl

theorem ix_cons (z : Int) (ys : List Int) (h0 : 0 ≤ z) (h1 : z < 256) : ix (z :: ys) = if z = 10 then 0 else if ix ys = -1 then -1 else ix ys + 1 := by
  unfold ix
  simp only [Lib.bytesOf, List.map_cons, Lib.indexByte, byte10 h0 h1, decide_eq_true_eq, beq_iff_eq]
  rfl

theorem ix_spec : ∀ ys : List Int, (∀ z ∈ ys, 0 ≤ z ∧ z < 256) →
    (ix ys = -1 ∧ ys.count 10 = 0) ∨ ∃ k : Nat, ix ys = k ∧ k < ys.length ∧ ys.getD k 0 = 10 ∧ (ys.take k).count 10 = 0
  | [], _ => Or.inl ⟨rfl, rfl⟩
  | z :: ys, h => by
    have hz := h z (by simp)
    have ih := ix_spec ys (fun u hu => h u (by simp [hu]))
    rw [ix_cons z ys hz.1 hz.2]
    by_cases e : z = 10
    · exact Or.inr ⟨0, by simp [e], by simp, by simp [e], by simp⟩
    · rcases ih with ⟨a, b⟩ | ⟨k, a, b, c, d⟩
      · exact Or.inl ⟨by rw [if_neg e, if_pos a], by rw [List.count_cons, b]; simp [e]⟩
      · refine Or.inr ⟨k + 1, ?_, by simp; omega, by simpa using c, ?_⟩
        · rw [if_neg e, if_neg (by omega), a]; simp
        · rw [List.take_succ_cons, List.count_cons, d]; simp [e]

set_option maxHeartbeats 1000000 in
set_option maxRecDepth 100000 in
theorem indexByte_any (g o n c : Nat) (xs : List Int) (w : World) (hx : xs.length = n) (hc : ∀ i, i < n → w.cell? ⟨g, o + i, none⟩ = some (.int .u8 (xs.getD i 0))) :
    Calls Try.prog 31 #[.slice (some ⟨g, o, none⟩) n c, .int .u8 10] w fun e w' => e = .returned (.int .i64 (ix xs)) ∧ w' = w := by
  go_enter Try.func31, Try.ntmps31
  go_wp2
  rw [run_callFunc_extern Try.func33 (by kernel_rfl) (by kernel_rfl) (by kernel_rfl) (e := Extern.BytealgIndexByte.indexByte) (by kernel_rfl), Lib.run_indexByteSlice w g o n c xs hx hc 10]
  simp only [Result.andThen]
  rw [Oper.upon_value]
  go_wp2
  go_ret
  exact ⟨rfl, rfl⟩

def nextOf (xs : List Int) (f : Nat) : Int := if ix (xs.drop f) = -1 then xs.length else f + ix (xs.drop f) + 1
def brokenOf (xs : List Int) (f : Nat) : Bool := !(ix (xs.drop f) == -1)

set_option maxHeartbeats 1000000 in
theorem line_none (g n f : Nat) (xs : List Int) (w : World) (hx : xs.length = n) (hn : n ≤ 1048576) (hf : f < n) (hc : ∀ i, i < n → w.cell? ⟨g, i, none⟩ = some (.int .u8 (xs.getD i 0)))
    (h : ix (xs.drop f) = -1) :
    Calls Try.prog 28 #[.slice (some ⟨g, 0, none⟩) n n, .int .i64 f, .bool true] w fun e w' => (∃ v, e = .returned (.tuple #[v, .int .i64 n, .bool false, .bool true])) ∧ w' = w := by
  obtain ⟨z, hlast⟩ : ∃ z, w.cell? ⟨g, f + (n - f - 1), none⟩ = some (.int .u8 z) := ⟨_, hc _ (by omega)⟩
  have hcon := indexByte_any g f (n - f) (n - f) (xs.drop f) w (by simp [hx]) (fun i hi => by rw [hc (f + i) (by omega)]; simp)
  rw [h] at hcon
  clear hc h hx
  go_enter Try.func28, Try.ntmps28
  go_wp2_with fail
  refine hcon.mono ?_
  rintro e w' ⟨rfl, hw⟩
  subst hw
  clear hcon
  go_wp2
  all_goals exact bodyPost_ret (v := .tuple #[_, .int .i64 n, .bool false, .bool true]) (by simp [results, Try.results28, go_sem]; rfl) rfl ⟨⟨_, rfl⟩, rfl⟩

set_option maxHeartbeats 1000000 in
theorem line_some (g n f k : Nat) (xs : List Int) (w : World) (hx : xs.length = n) (hn : n ≤ 1048576) (hf : f + k < n) (hc : ∀ i, i < n → w.cell? ⟨g, i, none⟩ = some (.int .u8 (xs.getD i 0)))
    (h : ix (xs.drop f) = k) :
    Calls Try.prog 28 #[.slice (some ⟨g, 0, none⟩) n n, .int .i64 f, .bool true] w fun e w' => (∃ v, e = .returned (.tuple #[v, .int .i64 ((f : Int) + k + 1), .bool true, .bool true])) ∧ w' = w := by
  obtain ⟨z, hlast⟩ : ∃ z, w.cell? ⟨g, f + (k - 1), none⟩ = some (.int .u8 z) := ⟨_, hc _ (by omega)⟩
  have hcon := indexByte_any g f (n - f) (n - f) (xs.drop f) w (by simp [hx]) (fun i hi => by rw [hc (f + i) (by omega)]; simp)
  rw [h] at hcon
  clear hc h hx
  have hfn : f < n := by omega
  go_enter Try.func28, Try.ntmps28
  go_wp2_with fail
  refine hcon.mono ?_
  rintro e w' ⟨rfl, hw⟩
  subst hw
  clear hcon
  by_cases hk : k = 0
  · subst hk
    go_wp2
    all_goals exact bodyPost_ret (v := .tuple #[_, .int .i64 (f + 1), .bool true, .bool true]) (by simp [results, Try.results28, go_sem]; rfl) rfl ⟨⟨.slice (some ⟨g, f, none⟩) 0 (n - f), by simp⟩, rfl⟩
  · go_wp2
    all_goals exact bodyPost_ret (v := .tuple #[_, .int .i64 (f + k + 1), .bool true, .bool true]) (by simp [results, Try.results28, go_sem]; rfl) rfl ⟨⟨_, rfl⟩, rfl⟩

set_option maxHeartbeats 1000000 in
theorem zline_none (g n f : Nat) (xs : List Int) (w : World) (hx : xs.length = n) (hn : n ≤ 1048576) (hf : f < n) (hc : ∀ i, i < n → w.cell? ⟨g, i, none⟩ = some (.int .u8 (xs.getD i 0)))
    (h : ix (xs.drop f) = -1) :
    Calls Try.prog 16 #[.slice (some ⟨g, 0, none⟩) n n, .int .i64 f, .bool true] w fun e w' => (∃ v, e = .returned (.tuple #[v, .int .i64 n, .bool false, .bool true])) ∧ w' = w := by
  have hcon := line_none g n f xs w hx hn hf hc h
  clear hc h hx
  go_enter Try.func16, Try.ntmps16
  go_wp2_with fail
  refine hcon.mono ?_
  rintro e w' ⟨⟨v, rfl⟩, hw⟩
  subst hw
  clear hcon
  go_wp2
  all_goals exact bodyPost_ret (v := .tuple #[_, .int .i64 n, .bool false, .bool true]) (by simp [results, Try.results16, go_sem]; rfl) rfl ⟨⟨_, rfl⟩, rfl⟩

set_option maxHeartbeats 1000000 in
theorem zline_some (g n f k : Nat) (xs : List Int) (w : World) (hx : xs.length = n) (hn : n ≤ 1048576) (hf : f + k < n) (hc : ∀ i, i < n → w.cell? ⟨g, i, none⟩ = some (.int .u8 (xs.getD i 0)))
    (h : ix (xs.drop f) = k) :
    Calls Try.prog 16 #[.slice (some ⟨g, 0, none⟩) n n, .int .i64 f, .bool true] w fun e w' => (∃ v, e = .returned (.tuple #[v, .int .i64 ((f : Int) + k + 1), .bool true, .bool true])) ∧ w' = w := by
  have hcon := line_some g n f k xs w hx hn hf hc h
  clear hc h hx
  go_enter Try.func16, Try.ntmps16
  go_wp2_with fail
  refine hcon.mono ?_
  rintro e w' ⟨⟨v, rfl⟩, hw⟩
  subst hw
  clear hcon
  go_wp2
  all_goals exact bodyPost_ret (v := .tuple #[_, .int .i64 (f + k + 1), .bool true, .bool true]) (by simp [results, Try.results16, go_sem]; rfl) rfl ⟨⟨_, rfl⟩, rfl⟩

def cnt (xs : List Int) : Int := (xs.count 10 : Nat)
theorem cnt_le (xs : List Int) : 0 ≤ cnt xs ∧ cnt xs ≤ xs.length := by
  unfold cnt; have := List.count_le_length (a := (10 : Int)) (l := xs); omega
theorem cnt_take (xs : List Int) (k : Nat) (h : k < xs.length) : cnt (xs.take (k + 1)) = cnt (xs.take k) + if xs.getD k 0 = 10 then 1 else 0 := by
  unfold cnt
  rw [List.take_succ_eq_append_getElem h, List.count_append, List.count_cons, List.getD_eq_getElem?_getD, List.getElem?_eq_getElem h]
  simp
  split <;> simp_all

theorem ret_int {k : IntKind} {a b : Int} (h : a = b) : Ending.returned (.int k a) = .returned (.int k b) := by rw [h]

set_option maxHeartbeats 1000000 in
theorem count_any (g n : Nat) (xs : List Int) (w : World) (hx : xs.length = n) (hn : n ≤ 1048576) (hc : ∀ i, i < n → w.cell? ⟨g, i, none⟩ = some (.int .u8 (xs.getD i 0))) :
    Calls Try.prog 20 #[.slice (some ⟨g, 0, none⟩) n n] w fun e w' => e = .returned (.int .i64 (cnt xs)) ∧ w' = w := by
  have HC : Hid (∀ i, i < n → w.cell? ⟨g, i, none⟩ = some (.int .u8 (xs.getD i 0))) := hc
  have HX : Hid (xs.length = n) := hx
  clear hc hx
  go_enter Try.func20, Try.ntmps20
  go_wp2
  go_loop [3, 4] (fun m i => ∃ k : Nat, k ≤ n ∧ i = .int .i64 k ∧ m = .int .i64 (cnt (xs.take k))) (fun _ i => n - (intOf i).toNat)
  case atStart => exact ⟨0, Nat.zero_le _, rfl, rfl⟩
  case round =>
    obtain ⟨k, hk, rfl, rfl⟩ := hrel
    have hd := cnt_le (xs.take k)
    have hl : (xs.take k).length ≤ k := List.length_take_le _ _
    by_cases hlt : k < n
    · obtain ⟨z, hz⟩ : ∃ z, z = xs.getD k 0 := ⟨_, rfl⟩
      have hcell : w.cell? ⟨g, k, none⟩ = some (.int .u8 z) := by rw [hz]; exact HC.out k hlt
      have HS : Hid (cnt (xs.take (k + 1)) = cnt (xs.take k) + if z = 10 then 1 else 0) := by rw [hz]; exact cnt_take xs k (by rw [HX.out]; exact hlt)
      clear hz
      generalize cnt (xs.take k) = q at *
      go_wp2
      all_goals
        go_round
        case rel => exact ⟨k + 1, by omega, by go_num, by rw [HS.out]; first | (rw [if_pos (by simpa using ‹(z == 10) = true›)]) | (rw [if_neg (by simpa using ‹(z == 10) = false›)]; go_num)⟩
        case measure => simp [intOf]; omega
    · go_wp2
      go_ret
      exact ⟨ret_int (by rw [List.take_of_length_le (by rw [HX.out]; omega)]), rfl⟩

end Go.Proofs.Qxb6604140a.fnCsvLineTilesTheInput
