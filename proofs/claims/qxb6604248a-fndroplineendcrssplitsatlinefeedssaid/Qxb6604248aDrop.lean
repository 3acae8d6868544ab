/-
  DERIVED (a prover's text, seat b6604248a). dropLineEndCRs, in place, over the contracts of bytes.Cut and bytes.TrimSuffix (taken as hypotheses here; paid by the shelf in Qxb6604248aLib.lean).
-/
import Derived.Test.Qxb6604248aSame
import Derived.Laws.CopyOwn
import Derived.Lib.SlBytesConst
namespace Go.Proofs.Qxb6604248a.Crs
open Go.ChangeShapes Go.WideShapes Go.ChangeAt Go.RowKit
set_option linter.unusedVariables false

def Bytes (xs : List Int) : Prop := ∀ z ∈ xs, 0 ≤ z ∧ z < 256

def lenOf : Value → Nat | .slice _ n _ => n | _ => 0

/-- bytes.Cut at CR LF. 'G': the block of internal/bytealg.MaxLen. -/
def CutSaid (G : Nat) : Prop := ∀ (p : Option Addr) (b n c : Nat) (xs : List Int) (m : Int) (w : World), In w p n xs → Bytes xs → (p = none → c = 0) → n ≤ c → n ≤ 9000000 →
  w.cell? ⟨b, 0, none⟩ = some (.int .u8 13) → w.cell? ⟨b, 1, none⟩ = some (.int .u8 10) → w.cell? ⟨G, 0, none⟩ = some (.int .i64 m) →
  Calls Try.prog 33 #[.slice p n c, .slice (some ⟨b, 0, none⟩) 2 2] w fun e w' =>
    ((idx xs = -1 ∧ e = .returned (.tuple #[.slice p n c, .slice none 0 0, .bool false])) ∨
     ∃ i : Nat, idx xs = i ∧ e = .returned (.tuple #[.slice p i c, .slice (if c = i + 2 then p else p.map (fun x => x.add (i + 2))) (n - (i + 2)) (c - (i + 2)), .bool true])) ∧ ∃ q, w' = w.drewN q

/-- bytes.TrimSuffix at CR. -/
def TrimSaid : Prop := ∀ (p : Option Addr) (b n c : Nat) (xs : List Int) (w : World), In w p n xs → Bytes xs → n ≤ c → n ≤ 9000000 →
  w.cell? ⟨b, 0, none⟩ = some (.int .u8 13) →
  Calls Try.prog 34 #[.slice p n c, .slice (some ⟨b, 0, none⟩) 1 1] w fun e w' => e = .returned (.slice p (trim13 xs).length c) ∧ w' = w

/-- 'append(out, src...)' WITHIN THE CAPACITY, out at the head of a row that is known whole: the row behind it is known whole. -/
theorem wpList_append_room {P : Program} {w : World} {ops : Array Oper} {rest : List Oper} {o : Oper} {a : Act} {Q : Exit → Act → World → Prop} (hgd : o.guard = none) (s x : Operand) (t : TypeId)
    (ho : o.op = .call { callee := .builtin .append, args := #[s, x], argTypes := #[t, t] }) (e : TypeId) (i : TypeInfo) (ht : P.underlying t = some (.slice e)) (hi : P.info? e = some i) (hsz : i.size = 1)
    (g sLen sCap : Nat) (cs : List Value) (hs : a.eval s = .slice (some ⟨g, 0, none⟩) sLen sCap) (hg : w.heap[g]? = some (.cells cs.toArray e (0, 0)))
    (ad : Addr) (m c : Nat) (hx : a.eval x = .slice (some ad) m c) (news : List Value) (hl : news.length = m) (hnews : ∀ j u, news[j]? = some u → w.cell? (ad.add j) = some u) (h1 : ∀ u ∈ news, u.oneCell' = true)
    (hroom : sLen + m ≤ sCap) (hfit : sLen + m ≤ cs.length)
    (h : ∀ w', Hid (w'.heap[g]? = some (.cells (splice cs sLen news).toArray e (0, 0))) → Below g w w' → wpList P ops Q rest (a.put o.dst (.slice (some ⟨g, 0, none⟩) (sLen + m) sCap)) w') :
    wpList P ops Q (o :: rest) a w := by
  refine wpList_plain hgd fun K hK => ?_
  have hrun := run_append_room (P := P) w t o.type e i ht hi g sLen sCap cs.toArray hg ad m c news (by rw [hsz]; omega) hnews h1 hroom (by rw [hsz]; simp; omega)
  unfold Oper.wp
  simp [execOp, ho, resolve, invoke, builtin, hs, hx, hrun, Result.andThen]
  refine hK _ _ (h _ ?_ (below_setRow (Below.refl _ _) (Nat.le_refl _) _))
  show _ = _
  rw [setRow_heap w g _ _ e _ hg]
  simp [splice, hsz]

theorem splice_take {α : Type} (L : List α) (off : Nat) (cs : List α) (h : off + cs.length ≤ L.length) : (splice L off cs).take (off + cs.length) = L.take off ++ cs := by
  unfold splice
  rw [← List.append_assoc, List.take_append_of_le_length (by simp; omega), List.take_of_length_le (by simp; omega)]

theorem splice_drop {α : Type} (L : List α) (off : Nat) (cs : List α) (q : Nat) (h : off + cs.length ≤ L.length) (hq : off + cs.length ≤ q) : (splice L off cs).drop q = L.drop q := by
  unfold splice
  rw [← List.append_assoc, List.drop_append]
  have : (L.take off ++ cs).length = off + cs.length := by simp; omega
  rw [List.drop_eq_nil_of_le (by omega), this, List.nil_append, List.drop_drop]
  congr 1; omega

/-- What holds of the row, of what has been put out and of what is still to be read. -/
structure Mid (xs acc : List Int) (p : Nat) (cs : List Value) : Prop where
  len : cs.length = xs.length
  le : p ≤ xs.length
  out : acc.length ≤ p
  head : cs.take acc.length = B8 acc
  tail : cs.drop p = B8 (xs.drop p)
  kept : keep xs = acc ++ keep (xs.drop p)
  last : acc.getLast? ≠ some 13
  by8 : Bytes xs → Bytes acc

theorem Mid.start (xs : List Int) : Mid xs [] 0 (B8 xs) :=
  ⟨by simp [B8], Nat.zero_le _, Nat.zero_le _, by simp [B8], by simp, by simp, by simp, fun _ z hz => by cases hz⟩

theorem B8_append (a b : List Int) : B8 (a ++ b) = B8 a ++ B8 b := by simp [B8]
theorem B8_take (a : List Int) (n : Nat) : B8 (a.take n) = (B8 a).take n := by simp [B8, List.map_take]
theorem B8_drop (a : List Int) (n : Nat) : B8 (a.drop n) = (B8 a).drop n := by simp [B8, List.map_drop]
theorem B8_length (a : List Int) : (B8 a).length = a.length := by simp [B8]

theorem Mid.step {xs acc : List Int} {p i : Nat} {cs : List Value} (h : Mid xs acc p cs) (hi : p + i + 2 ≤ xs.length)
    (hk : keep (xs.drop p) = (xs.drop p).take i ++ 10 :: keep ((xs.drop p).drop (i + 2))) :
    Mid xs (acc ++ (xs.drop p).take i ++ [10]) (p + i + 2) (splice (splice cs acc.length (B8 ((xs.drop p).take i))) (acc.length + i) [.int .u8 10]) := by
  have hil : ((xs.drop p).take i).length = i := by simp; omega
  have hB : (B8 ((xs.drop p).take i)).length = i := by rw [B8_length, hil]
  have ho := h.out
  have hl := h.len
  have hL1 : (splice cs acc.length (B8 ((xs.drop p).take i))).length = xs.length := by rw [length_splice _ _ _ (by rw [hB]; omega), hl]
  have ht1 : (splice cs acc.length (B8 ((xs.drop p).take i))).take (acc.length + i) = B8 acc ++ B8 ((xs.drop p).take i) := by
    have := splice_take cs acc.length (B8 ((xs.drop p).take i)) (by rw [hB]; omega)
    rw [hB, h.head] at this; exact this
  refine ⟨?_, by omega, by simp; omega, ?_, ?_, ?_, by simp, ?_⟩
  · rw [length_splice _ _ _ (by simp; omega), hL1]
  · have := splice_take (splice cs acc.length (B8 ((xs.drop p).take i))) (acc.length + i) [.int .u8 10] (by simp; omega)
    rw [ht1] at this
    have e : (acc ++ (xs.drop p).take i ++ [10]).length = acc.length + i + [Value.int .u8 10].length := by
      rw [List.length_append, List.length_append, hil]; rfl
    rw [e, this, B8_append, B8_append]; rfl
  · rw [splice_drop _ _ _ _ (by simp; omega) (by simp; omega), splice_drop _ _ _ _ (by rw [hB]; omega) (by rw [hB]; omega)]
    have e1 : cs.drop (p + i + 2) = (cs.drop p).drop (i + 2) := by rw [List.drop_drop]; congr 1
    have e2 : xs.drop (p + i + 2) = (xs.drop p).drop (i + 2) := by rw [List.drop_drop]; congr 1
    rw [e1, e2, h.tail, B8_drop (xs.drop p)]
  · rw [h.kept, hk, List.drop_drop]
    have : p + (i + 2) = p + i + 2 := by omega
    rw [this]; simp
  · intro hb z hz
    simp only [List.mem_append, List.mem_singleton] at hz
    rcases hz with (hz | hz) | rfl
    · exact h.by8 hb z hz
    · exact hb z (List.mem_of_mem_drop (List.mem_of_mem_take hz))
    · decide

theorem Mid.done {xs acc : List Int} {p : Nat} {cs : List Value} (h : Mid xs acc p cs) (hk : keep (xs.drop p) = trim13 (xs.drop p)) :
    trim13 (acc ++ xs.drop p) = keep xs ∧ (splice cs acc.length (B8 (xs.drop p))).take (acc.length + (xs.length - p)) = B8 (acc ++ xs.drop p) := by
  have hB : (B8 (xs.drop p)).length = xs.length - p := by rw [B8_length]; simp
  have ho := h.out
  have hl := h.len
  have hle := h.le
  constructor
  · rw [trim13_append _ _ h.last, h.kept, hk]
  · have := splice_take cs acc.length (B8 (xs.drop p)) (by rw [hB]; omega)
    rw [hB, h.head] at this
    rw [this, B8_append]

theorem byte_news {w : World} {g p : Nat} {cs : List Value} {ys : List Int} (h : Blk w g cs) (ht : cs.drop p = B8 ys) (k : Nat) :
    ∀ j u, (B8 (ys.take k))[j]? = some u → w.cell? ((⟨g, p, none⟩ : Addr).add j) = some u := by
  intro j u hj
  rw [add_plain, h.cell]
  rw [B8_take, List.getElem?_take] at hj
  split at hj
  · rw [← ht, List.getElem?_drop] at hj; exact hj
  · cases hj

theorem B8_one (ys : List Int) : ∀ u ∈ B8 ys, u.oneCell' = true := by
  intro u hu
  rw [B8, List.mem_map] at hu
  obtain ⟨q, _, rfl⟩ := hu; rfl

theorem in_rest {w : World} {g p n : Nat} {pa : Addr} {xs : List Int} {cs : List Value} (h : Blk w g cs) (hx : xs.length = n) (ht : cs.drop p = B8 (xs.drop p)) (hp : p < n → pa = ⟨g, p, none⟩) :
    In w (some pa) (n - p) (xs.drop p) := by
  refine ⟨by simp [hx], ?_⟩
  by_cases hlt : p < n
  · refine Or.inr ⟨g, p, by rw [hp hlt], fun j hj => ?_⟩
    rw [h.cell, ← List.getElem?_drop, ht, B8, List.getElem?_map, List.getD_eq_getElem?_getD, List.getElem?_eq_getElem (by simp; omega)]
    rfl
  · exact Or.inl (by omega)

theorem rest_news {w : World} {g p n : Nat} {pa : Addr} {xs : List Int} {cs : List Value} (h : Blk w g cs) (hx : xs.length = n) (ht : cs.drop p = B8 (xs.drop p)) (hp : p < n → pa = ⟨g, p, none⟩) (k : Nat) :
    ∀ j u, (B8 ((xs.drop p).take k))[j]? = some u → w.cell? (pa.add j) = some u := by
  intro j u hj
  have hlt : p < n := by
    by_cases hlt : p < n
    · exact hlt
    · rw [List.drop_eq_nil_of_le (by omega)] at hj; simp [B8] at hj
  rw [hp hlt]
  exact byte_news h ht k j u hj

theorem blk_prefix {w : World} {g k : Nat} {L : List Value} {ys : List Int} (h : Blk w g L) (ht : L.take k = B8 ys) : Blk w g (B8 ys ++ L.drop k) := by
  rw [← ht, List.take_append_drop]; exact h

theorem trim13_prefix (zs : List Int) : ∃ t, zs = trim13 zs ++ t := by
  rw [trim13_eq]
  split
  · exact ⟨zs.drop (zs.length - 1), (List.take_append_drop _ _).symm⟩
  · exact ⟨[], by simp⟩

set_option maxHeartbeats 2000000 in
theorem drop_some (G : Nat) (hcut : CutSaid G) (htrim : TrimSaid) (g n : Nat) (xs : List Int) (m : Int) (w : World) (hx : xs.length = n) (hn : n ≤ 8000000) (hby : Bytes xs)
    (hblk : Blk w g (B8 xs)) (hG : G < g) (hm : w.cell? ⟨G, 0, none⟩ = some (.int .i64 m)) :
    Calls Try.prog 31 #[.slice (some ⟨g, 0, none⟩) n n] w fun e w' =>
      e = .returned (.slice (some ⟨g, 0, none⟩) (keep xs).length n) ∧ (∃ cs, Blk w' g (B8 (keep xs) ++ cs)) ∧ Below g w w' := by
  have kc := fun (w : World) (C : Array Value) (n c : Nat) => Lib.run_convert_bytes_const (P := Try.prog) w 42 5 C n c Try.underlying42 Try.underlying5
  obtain ⟨i0, hi, hz0, hz1, hz2⟩ := info_parts info5
  have HX : Hid (xs.length = n) := hx
  have HBY : Hid (Bytes xs) := hby
  have HBL : Hid (Blk w g (B8 xs)) := hblk
  have HM : Hid (w.cell? ⟨G, 0, none⟩ = some (.int .i64 m)) := hm
  have HCUT : Hid (CutSaid G) := hcut
  have HTRIM : Hid (TrimSaid) := htrim
  clear hx hby hblk hm hcut htrim hz2
  go_enter Try.func31, Try.ntmps31
  go_wp2
  go_loopw [0, 3] (fun d o wr => ∃ (p : Nat) (pa : Addr) (acc : List Int) (cs : List Value), p ≤ n ∧ d = .slice (some pa) (n - p) (n - p) ∧ o = .slice (some ⟨g, 0, none⟩) acc.length n ∧ acc.length ≤ p ∧
      Hid (Mid xs acc p cs) ∧ Hid (p < n → pa = ⟨g, p, none⟩) ∧ Hid (Blk wr g cs) ∧ Below g w wr) (fun d _ _ => lenOf d)
  case atStart => exact ⟨0, ⟨g, 0, none⟩, [], _, Nat.zero_le _, rfl, rfl, Nat.zero_le _, Mid.start xs, fun _ => rfl, HBL, Below.refl _ _⟩
  case round =>
    obtain ⟨p, pa, acc, cs, hp, rfl, rfl, hap, HMid, Hpa, HB, hbel⟩ := hrel
    have hgs : g < wr.heap.size := HB.out.lt
    have hc13 : (wr.alloc (.cells #[.int .u8 13, .int .u8 10] 5 (2, 3))).cell? ⟨wr.heap.size, 0, none⟩ = some (.int .u8 13) := by rw [World.cell?_alloc_mark]; rfl
    have hc10 : (wr.alloc (.cells #[.int .u8 13, .int .u8 10] 5 (2, 3))).cell? ⟨wr.heap.size, 1, none⟩ = some (.int .u8 10) := by rw [World.cell?_alloc_mark]; rfl
    have hcm : (wr.alloc (.cells #[.int .u8 13, .int .u8 10] 5 (2, 3))).cell? ⟨G, 0, none⟩ = some (.int .i64 m) := Lib.cell?_alloc_marked _ (by rw [hbel.cell (p := ⟨G, 0, none⟩) hG]; exact HM.out)
    have hcon := HCUT.out (some pa) wr.heap.size (n - p) (n - p) (xs.drop p) m _ (in_rest (HB.out.alloc _) HX.out HMid.out.tail Hpa.out) (fun z hz => HBY.out z (List.mem_of_mem_drop hz)) (by intro h; cases h) (Nat.le_refl _) (by omega) hc13 hc10 hcm
    clear hc13 hc10 hcm
    have hal : acc.length ≤ n := by omega
    go_wp2_with fail
    refine hcon.mono ?_
    clear hcon
    rintro e w' ⟨hor, q, rfl⟩
    have HB1 : Hid (Blk ((wr.alloc (.cells #[.int .u8 13, .int .u8 10] 5 (2, 3))).drewN q) g cs) := HB.out.alloc _
    have hbel1 : Below g w ((wr.alloc (.cells #[.int .u8 13, .int .u8 10] 5 (2, 3))).drewN q) := below_drewN (hbel.alloc (by omega) _) q
    generalize hW : (wr.alloc (.cells #[.int .u8 13, .int .u8 10] 5 (2, 3))).drewN q = W1 at *
    clear hW hbel HB
    rcases hor with ⟨hix, rfl⟩ | ⟨i, hix, rfl⟩
    · have hsp := idx_spec (xs.drop p) (fun z hz => HBY.out z (List.mem_of_mem_drop hz))
      have hkk : keep (xs.drop p) = trim13 (xs.drop p) := by
        rcases hsp with ⟨_, h⟩ | ⟨i, h, _⟩
        · exact h
        · rw [h] at hix; omega
      obtain ⟨hd1, hd2⟩ := HMid.out.done hkk
      have HD1 : Hid (trim13 (acc ++ xs.drop p) = keep xs) := hd1
      rw [HX.out] at hd2
      have HD2 : Hid ((splice cs acc.length (B8 (xs.drop p))).take (acc.length + (n - p)) = B8 (acc ++ xs.drop p)) := hd2
      have hcl : cs.length = n := by rw [HMid.out.len]; exact HX.out
      have HCL : Hid (cs.length = n) := hcl
      have hnews : ∀ j u, (B8 (xs.drop p))[j]? = some u → W1.cell? (pa.add j) = some u := by
        have := rest_news HB1.out HX.out HMid.out.tail Hpa.out (n - p)
        rwa [List.take_of_length_le (by simp; rw [HX.out]; omega)] at this
      have HN : Hid (∀ j u, (B8 (xs.drop p))[j]? = some u → W1.cell? (pa.add j) = some u) := hnews
      have hbl : (B8 (xs.drop p)).length = n - p := by rw [B8_length]; simp; rw [HX.out]
      have HL : Hid ((B8 (xs.drop p)).length = n - p) := hbl
      clear hsp hkk hix hd1 hd2 hnews hcl hbl
      go_wp2_with (at_builtin; refine wpList_append_room rfl (.tmp 17) (.tmp 18) 42 rfl 5 i0 Try.underlying42 hi hz1 g acc.length n cs rfl HB1.out pa (n - p) (n - p) rfl (B8 (xs.drop p)) HL.out HN.out (B8_one _) (by omega) (by rw [HCL.out]; omega) ?_; intro w2 HG2 hB2)
      have HB2 : Hid (Blk (w2.alloc (.cells #[.int .u8 13] 5)) g (B8 (acc ++ xs.drop p) ++ (splice cs acc.length (B8 (xs.drop p))).drop (acc.length + (n - p)))) := (blk_prefix HG2.out HD2.out).alloc _
      have hin := In.of_blk HB2.out
      have hbb : Bytes (acc ++ xs.drop p) := by
        intro z hz
        rcases List.mem_append.1 hz with hz | hz
        · exact HMid.out.by8 HBY.out z hz
        · exact HBY.out z (List.mem_of_mem_drop hz)
      have hll : (acc ++ xs.drop p).length = acc.length + (n - p) := by simp; rw [HX.out]
      rw [hll] at hin
      have hcon := HTRIM.out (some ⟨g, 0, none⟩) w2.heap.size (acc.length + (n - p)) n (acc ++ xs.drop p) _ hin hbb (by omega) (by omega) (by simp)
      rw [HD1.out] at hcon
      clear hin hll
      refine hcon.mono ?_
      rintro e w' ⟨rfl, hw⟩
      subst hw
      clear hcon
      go_wp2
      go_ret
      refine ⟨rfl, ?_, (hbel1.trans hB2).alloc (by have := hB2.size; have := hbel1.size; have := HB1.out.lt; omega) _⟩
      obtain ⟨t, ht⟩ := trim13_prefix (acc ++ xs.drop p)
      rw [HD1.out] at ht
      refine ⟨B8 t ++ (splice cs acc.length (B8 (xs.drop p))).drop (acc.length + (n - p)), ?_⟩
      have h := HB2.out
      rw [ht, B8_append, List.append_assoc] at h
      exact h
    · have hsp := idx_spec (xs.drop p) (fun z hz => HBY.out z (List.mem_of_mem_drop hz))
      obtain ⟨hi2, hkk⟩ : i + 2 ≤ (xs.drop p).length ∧ keep (xs.drop p) = (xs.drop p).take i ++ 10 :: keep ((xs.drop p).drop (i + 2)) := by
        rcases hsp with ⟨h, _⟩ | ⟨i', h, h2, h3⟩
        · rw [h] at hix; omega
        · have : i' = i := by rw [h] at hix; omega
          subst this
          exact ⟨h2, h3⟩
      have hpi : p + i + 2 ≤ n := by simp at hi2; rw [HX.out] at hi2; omega
      have HMid2 : Hid (Mid xs (acc ++ (xs.drop p).take i ++ [10]) (p + i + 2) (splice (splice cs acc.length (B8 ((xs.drop p).take i))) (acc.length + i) [.int .u8 10])) := HMid.out.step (by rw [HX.out]; exact hpi) hkk
      obtain ⟨pa', hpa1, hpa2⟩ : ∃ pa' : Addr, (if n - p = i + 2 then some pa else Option.map (fun x => x.add (i + 2)) (some pa)) = some pa' ∧ (p + i + 2 < n → pa' = ⟨g, p + i + 2, none⟩) := by
        by_cases h : n - p = i + 2
        · exact ⟨pa, by rw [if_pos h], fun h' => by omega⟩
        · refine ⟨pa.add (i + 2), by rw [if_neg h]; rfl, fun _ => ?_⟩
          rw [Hpa.out (by omega), add_plain]
          congr 1
      rw [hpa1]
      have Hpa' : Hid (p + i + 2 < n → pa' = ⟨g, p + i + 2, none⟩) := hpa2
      have HCL : Hid (cs.length = n) := show cs.length = n by rw [HMid.out.len]; exact HX.out
      have HN : Hid (∀ j u, (B8 ((xs.drop p).take i))[j]? = some u → W1.cell? (pa.add j) = some u) := rest_news HB1.out HX.out HMid.out.tail Hpa.out i
      have hbl : (B8 ((xs.drop p).take i)).length = i := by rw [B8_length]; simp; rw [HX.out]; omega
      have HL : Hid ((B8 ((xs.drop p).take i)).length = i) := hbl
      clear hsp hkk hix hi2 hpa1 hpa2 hbl
      have hb1 : g < W1.heap.size := HB1.out.lt
      have hsz1 : acc.length + i + 1 ≤ n := by omega
      have hacc : (acc ++ (xs.drop p).take i ++ [10]).length = acc.length + i + 1 := by
        have := HL.out; rw [B8_length] at this
        rw [List.length_append, List.length_append, this]; rfl
      have HACC : Hid ((acc ++ (xs.drop p).take i ++ [10]).length = acc.length + i + 1) := hacc
      clear hacc
      go_wp2_with (first
        | (at_builtin; refine wpList_append_room rfl (.tmp 17) (.tmp 18) 42 rfl 5 i0 Try.underlying42 hi hz1 g acc.length n cs rfl HB1.out pa i (n - p) rfl (B8 ((xs.drop p).take i)) HL.out HN.out (B8_one _) (by omega) (by rw [HCL.out]; omega) ?_; intro w2 HG2 hB2)
        | (at_builtin; refine wpList_append_room rfl (.tmp 25) (.tmp 26) 42 rfl 5 i0 Try.underlying42 hi hz1 g (acc.length + i) n _ rfl (Blk.alloc HG2.out _) ⟨w2.heap.size, 0, none⟩ 1 1 rfl [.int .u8 10] rfl (by intro j u hj; match j, hj with | 0, hj => (simp at hj; subst hj; simp [Addr.add])) (by intro u hu; simp at hu; subst hu; rfl) (by omega) (by rw [length_splice _ _ _ (by rw [HL.out, HCL.out]; omega), HCL.out]; omega) ?_; intro w3 HG3 hB3))
      refine ⟨⟨p + i + 2, pa', _, _, hpi, by rw [Nat.sub_sub, Nat.add_assoc p i 2], by rw [HACC.out], by rw [HACC.out]; omega, HMid2, Hpa', HG3, ?_⟩, ?_⟩
      · refine Below.trans ((hbel1.trans hB2).alloc ?_ _) hB3
        have := hB2.size; omega
      · simp only [lenOf]; omega

end Go.Proofs.Qxb6604248a.Crs
