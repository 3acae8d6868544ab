/-
  DERIVED: THE SHELF's CONTRACTS AT THIS DUMP, IN PLAIN WORDS (tools/lay-plain.mjs out of 'TryShelf.lean', which tools/lay-shelf.mjs wrote): THE SAME DECLARATIONS UNDER THE SAME NAMES: 'import', 'namespace', 'open', 'def', 'theorem' AND NOTHING ELSE: no command of the shelf's: FOR A HAND-IN. Each laying: the table of numbers ('.._ren') and one theorem, a field a fact of the dump's own or the kernel's comparison; each contract: ONE APPLICATION.
-/
import Derived.Shelf.Strings.Search1
import Derived.Shelf.Bytes.SlIndexSmall
import Derived.Shelf.Bytes.SlIndexAt
import Derived.Shelf.Bytes.SlSearch0
import Derived.Shelf.Bytes.SlSearch1
import Derived.Shelf.Bytes.SlSearch2
import Derived.Shelf.Bytes.SlIndexWhole
import Derived.Shelf.LaysM
import Derived.Shelf.Bytes.SlSmallAll
import Derived.Ground.SlbtProg
import Derived.Shelf.Bytes.SlCut
import Derived.Shelf.Bytes.Small
import Derived.Shelf.Bytes.IndexByte
import Derived.Test.Qxb6604248aProg
namespace Go.Proofs
open Go.Shelf
def Try.laysM185_ren : Go.Shelf.Ren := ⟨fun | 185 => 35 | 187 => 37 | 115 => 38 | 253 => 39 | 224 => 40 | 254 => 41 | 255 => 42 | 291 => 43 | n => n, fun | 37 => 42 | 3 => 3 | 4 => 4 | 0 => 0 | 5 => 5 | 46 => 55 | 9 => 9 | 146 => 57 | 51 => 56 | n => n, fun | 1 => 0 | n => n⟩
theorem Try.laysM185 : Go.Proofs.LaysM.n185 Try.prog Try.laysM185_ren := {
  mixed := by kernel_rfl
  f115 := Try.func38.trans (congrArg some (by kernel_rfl))
  f185 := Try.func35.trans (congrArg some (by kernel_rfl))
  f187 := Try.func37.trans (congrArg some (by kernel_rfl))
  f224 := Try.func40.trans (congrArg some (by kernel_rfl))
  f253 := Try.func39.trans (congrArg some (by kernel_rfl))
  f254 := Try.func41.trans (congrArg some (by kernel_rfl))
  f255 := Try.func42.trans (congrArg some (by kernel_rfl))
  f291 := Try.func43.trans (congrArg some (by kernel_rfl))
  t0 := Try.underlying0
  a0 := Try.isAgg0
  z0 := Try.sizeOf0
  v0 := Try.zeroValue0
  t3 := Try.underlying3
  a3 := Try.isAgg3
  z3 := Try.sizeOf3
  v3 := Try.zeroValue3
  t4 := Try.underlying4
  a4 := Try.isAgg4
  z4 := Try.sizeOf4
  v4 := Try.zeroValue4
  t5 := Try.underlying5
  a5 := Try.isAgg5
  z5 := Try.sizeOf5
  v5 := Try.zeroValue5
  t9 := Try.underlying9
  a9 := Try.isAgg9
  z9 := Try.sizeOf9
  v9 := Try.zeroValue9
  t37 := Try.underlying42
  a37 := Try.isAgg42
  z37 := Try.sizeOf42
  v37 := Try.zeroValue42
  t46 := Try.underlying55
  a46 := Try.isAgg55
  z46 := Try.sizeOf55
  v46 := Try.zeroValue55
  t51 := Try.underlying56
  a51 := Try.isAgg56
  z51 := Try.sizeOf56
  v51 := Try.zeroValue56
  t146 := Try.underlying57
  a146 := Try.isAgg57
  z146 := Try.sizeOf57
  v146 := Try.zeroValue57
  g1 := by kernel_rfl
  i0 := by kernel_rfl
  i3 := by kernel_rfl
  i4 := by kernel_rfl
  i5 := by kernel_rfl
  i9 := by kernel_rfl
  i37 := by kernel_rfl
  i46 := by kernel_rfl
  i51 := by kernel_rfl
  i146 := by kernel_rfl
  m1 := by kernel_rfl
  s1_3 := fun w h => Go.Proofs.cell_of_shapedOpen_int (zero := #[.int .i64 0]) (t := 3) h (of_decide_eq_true (by kernel_rfl)) (by kernel_rfl) rfl (by kernel_rfl) (by kernel_rfl) Try.underlying3 }
def Try.laysnb140_ren : Go.Shelf.Ren := ⟨fun | 140 => 34 | 117 => 36 | 115 => 38 | n => n, fun | 37 => 42 | 4 => 4 | 3 => 3 | 9 => 9 | 5 => 5 | n => n, fun | n => n⟩
theorem Try.laysnb140 : Go.Proofs.Lays.nb140 Try.prog Try.laysnb140_ren := {
  mixed := by kernel_rfl
  f115 := Try.func38.trans (congrArg some (by kernel_rfl))
  f117 := Try.func36.trans (congrArg some (by kernel_rfl))
  f140 := Try.func34.trans (congrArg some (by kernel_rfl))
  t3 := Try.underlying3
  a3 := Try.isAgg3
  z3 := Try.sizeOf3
  v3 := Try.zeroValue3
  t4 := Try.underlying4
  a4 := Try.isAgg4
  z4 := Try.sizeOf4
  v4 := Try.zeroValue4
  t9 := Try.underlying9
  a9 := Try.isAgg9
  z9 := Try.sizeOf9
  v9 := Try.zeroValue9
  t37 := Try.underlying42
  a37 := Try.isAgg42
  z37 := Try.sizeOf42
  v37 := Try.zeroValue42
  t5 := Try.underlying5
  a5 := Try.isAgg5
  z5 := Try.sizeOf5
  v5 := Try.zeroValue5 }
/-- bytes.TrimSuffix: WHOLE. (LAID: no walk: one application.) -/
theorem Try.bytes_TrimSuffix_all (p1 p2 : Option Addr) (n c m d : Nat) (xs ys : List Int) (w : World) (hx : xs.length = n) (hy : ys.length = m) (hnc : n ≤ c) (hbig : n ≤ 9223372036854775807) (h1 : Lib.BytesIn w p1 n xs) (h2 : Lib.BytesIn w p2 m ys) :
    Calls Try.prog 34 #[.slice p1 n c, .slice p2 m d] w fun e w' => e = .returned (Lib.trimSuffixV p1 n c xs ys) ∧ w' = w := Any.bytes_TrimSuffix_all Try.laysnb140 p1 p2 n c m d xs ys w hx hy hnc hbig h1 h2
def Try.laysSlT4_ren : Go.Shelf.Ren := ⟨fun | 4 => 33 | 5 => 35 | 6 => 37 | 7 => 38 | 8 => 39 | 9 => 40 | 10 => 41 | 11 => 42 | 12 => 43 | n => n, fun | 22 => 42 | 4 => 4 | 3 => 3 | 0 => 0 | 5 => 5 | 29 => 55 | 9 => 9 | 31 => 57 | 30 => 56 | n => n, fun | 0 => 0 | n => n⟩
theorem Try.laysSlT4 : Go.Proofs.SlLaysT.n4 Try.prog Try.laysSlT4_ren := {
  mixed := by kernel_rfl
  f4 := Try.func33.trans (congrArg some (by kernel_rfl))
  f5 := Try.func35.trans (congrArg some (by kernel_rfl))
  f6 := Try.func37.trans (congrArg some (by kernel_rfl))
  f7 := Try.func38.trans (congrArg some (by kernel_rfl))
  f8 := Try.func39.trans (congrArg some (by kernel_rfl))
  f9 := Try.func40.trans (congrArg some (by kernel_rfl))
  f10 := Try.func41.trans (congrArg some (by kernel_rfl))
  f11 := Try.func42.trans (congrArg some (by kernel_rfl))
  f12 := Try.func43.trans (congrArg some (by kernel_rfl))
  t0 := Try.underlying0
  a0 := Try.isAgg0
  z0 := Try.sizeOf0
  v0 := Try.zeroValue0
  t3 := Try.underlying3
  a3 := Try.isAgg3
  z3 := Try.sizeOf3
  v3 := Try.zeroValue3
  t4 := Try.underlying4
  a4 := Try.isAgg4
  z4 := Try.sizeOf4
  v4 := Try.zeroValue4
  t5 := Try.underlying5
  a5 := Try.isAgg5
  z5 := Try.sizeOf5
  v5 := Try.zeroValue5
  t9 := Try.underlying9
  a9 := Try.isAgg9
  z9 := Try.sizeOf9
  v9 := Try.zeroValue9
  t22 := Try.underlying42
  a22 := Try.isAgg42
  z22 := Try.sizeOf42
  v22 := Try.zeroValue42
  t29 := Try.underlying55
  a29 := Try.isAgg55
  z29 := Try.sizeOf55
  v29 := Try.zeroValue55
  t30 := Try.underlying56
  a30 := Try.isAgg56
  z30 := Try.sizeOf56
  v30 := Try.zeroValue56
  t31 := Try.underlying57
  a31 := Try.isAgg57
  z31 := Try.sizeOf57
  v31 := Try.zeroValue57
  g0 := by kernel_rfl }
/-- **bytes.Cut, WHOLE UP TO THE MODEL's BOUND** ('hs': s shorter than 4294967281 bytes: bytes.Index's): each argument nil, or of no byte at whatever address, or at an address with its cells ('Lib.BytesIn': Derived/Shelf/Bytes/SlSmallAll.lean). 'hr1', 'hr2': each number a byte's (what '(Lit.int .u8 x).wf' says) · 'hm': internal/bytealg.MaxLen's cell holds some int, whatever · 'hp1': a nil slice has no capacity. (LAID: no walk: one application.) -/
theorem Try.bytes_Cut_all (p1 p2 : Option Addr) (n c1 k c2 : Nat) (xs ys : List Int) (m : Int) (w : World) (hx : xs.length = n) (hy : ys.length = k) (hr1 : ∀ x ∈ xs, 0 ≤ x ∧ x < 256) (hr2 : ∀ y ∈ ys, 0 ≤ y ∧ y < 256) (h1 : Lib.BytesIn w p1 n xs) (h2 : Lib.BytesIn w p2 k ys) (hp1 : p1 = none → c1 = 0) (hcap : n ≤ c1) (hs : n < 4294967281) (hk : k ≤ 9223372036854775807) (hm : w.cell? ⟨0, 0, none⟩ = some (.int .i64 m)) :
    Calls Try.prog 33 #[.slice p1 n c1, .slice p2 k c2] w fun e w' => e = .returned (Lib.cutV p1 n c1 k (Lib.index (Lib.bytesOf xs) (Lib.bytesOf ys))) ∧ ∃ q, w' = w.drewN q := Any.bytes_Cut_all Try.laysSlT4 p1 p2 n c1 k c2 xs ys m w hx hy hr1 hr2 h1 h2 hp1 hcap hs hk hm
end Go.Proofs
