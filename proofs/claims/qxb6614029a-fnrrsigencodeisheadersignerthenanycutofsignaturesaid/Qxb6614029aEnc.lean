import Derived.Test.Qxb6614029aBase
namespace Go.Proofs.Qxb6614029a.B
open Go.ChangeShapes Go.WideShapes Go.ChangeAt Go.RowKit

/-- Two bytes, four bytes, as a function of the place. -/
def two (x y : Int) (j : Nat) : Int := if j = 0 then x else y
def four (x y z u : Int) (j : Nat) : Int := if j = 0 then x else if j = 1 then y else if j = 2 then z else u

theorem rd_two {X : World} {g : Nat} {x y : Int} (h : X.heap[g]? = some (.cells #[.int .u8 x, .int .u8 y] 5 (0, 0))) : Rd .u8 X (some ⟨g, 0, none⟩) 2 (two x y) := by
  refine ⟨fun e => by simp at e, fun j hj => ?_⟩
  show X.cell? ((⟨g, 0, none⟩ : Addr).add j) = _
  rw [add_plain, Nat.zero_add, cell_of_row X g j _ 5 (0, 0) h]
  match j, hj with
  | 0, _ => rfl
  | 1, _ => rfl
theorem rd_four {X : World} {g : Nat} {x y z u : Int} (h : X.heap[g]? = some (.cells #[.int .u8 x, .int .u8 y, .int .u8 z, .int .u8 u] 5 (0, 0))) : Rd .u8 X (some ⟨g, 0, none⟩) 4 (four x y z u) := by
  refine ⟨fun e => by simp at e, fun j hj => ?_⟩
  show X.cell? ((⟨g, 0, none⟩ : Addr).add j) = _
  rw [add_plain, Nat.zero_add, cell_of_row X g j _ 5 (0, 0) h]
  match j, hj with
  | 0, _ => rfl
  | 1, _ => rfl
  | 2, _ => rfl
  | 3, _ => rfl

theorem heap_second (w : World) (o1 o2 : Obj) : ((w.alloc o1).alloc o2).heap[w.heap.size + 1]? = some o2 := by
  show ((w.heap.push o1).push o2)[w.heap.size + 1]? = _
  simp only [Array.getElem?_push, Array.size_push]
  rw [if_pos trivial]

theorem Own.alloc {base : Nat} {w : World} {e : TypeId} {k : IntKind} {a : Option Addr} {n c : Nat} {f : Nat → Int} (h : Own base w e k a n c f) (o : Obj) : Own base (w.alloc o) e k a n c f := World.ownsRow.alloc h o
theorem Below.two {base : Nat} {w : World} (hB : base ≤ w.heap.size) (o1 o2 : Obj) : Below base w ((w.alloc o1).alloc o2) := ((Below.refl _ _).alloc hB o1).alloc (by simp; omega) o2

set_option maxHeartbeats 1000000 in
theorem au16 (base : Nat) (a : Option Addr) (n c : Nat) (f : Nat → Int) (v : Int) (hv0 : 0 ≤ v) (hv1 : v ≤ 65535) (w : World) (ho : Own base w 5 .u8 a n c f) (hn : n ≤ 2097152) (hB : base ≤ w.heap.size) :
    Calls Try.prog 14 #[.agg #[], .slice a n c, .int .u16 v] w fun e w' => ∃ a' c', e = .returned (.slice a' (n + 2) c') ∧ Own base w' 5 .u8 a' (n + 2) c' (app n f (two (v / 256) (v % 256))) ∧ Below base w w' := by
  obtain ⟨i5, hi5, hz5, hs5, hb5⟩ := info_parts info5
  have hX : base ≤ ((w.alloc (.cells #[] 41)).alloc (.cells #[.int .u8 (v / 256), .int .u8 (v % 256)] 5)).heap.size := (Below.two hB _ _).size |> Nat.le_trans hB
  have hsrc : Rd .u8 ((w.alloc (.cells #[] 41)).alloc (.cells #[.int .u8 (v / 256), .int .u8 (v % 256)] 5)) (some ⟨w.heap.size + 1, 0, none⟩) 2 (two (v / 256) (v % 256)) := rd_two (heap_second _ _ _)
  have ho2 : Own base ((w.alloc (.cells #[] 41)).alloc (.cells #[.int .u8 (v / 256), .int .u8 (v % 256)] 5)) 5 .u8 a n c f := (ho.alloc _).alloc _
  have hb2 := Below.two hB (.cells #[] 41) (.cells #[.int .u8 (v / 256), .int .u8 (v % 256)] 5)
  go_enter Try.func14, Try.ntmps14
  go_wp2_with (at_builtin; refine wpList_append_any _ rfl _ _ 24 rfl base 5 i5 .u8 1 Try.underlying24 hi5 hz5 hs5 hb5 a n c f rfl ho2 (some ⟨w.heap.size + 1, 0, none⟩) 2 2 (two (v / 256) (v % 256)) rfl hsrc (fun e => by simp at e) ?c1 ?c2 hX ?_)
  case c1 => unfold maxLen; omega
  case c2 => omega
  intro a1 c1 w1 _ ho1 hg1
  have hb3 : Below base w w1 := hb2.grown hg1 hX (fun k hk => (ho2.lt k hk).1)
  clear hsrc ho2 hb2 hX ho hg1
  go_wp2
  go_ret
  exact ⟨a1, c1, rfl, ho1, hb3⟩

set_option maxHeartbeats 1000000 in
theorem au32 (base : Nat) (a : Option Addr) (n c : Nat) (f : Nat → Int) (v : Int) (hv0 : 0 ≤ v) (hv1 : v ≤ 4294967295) (w : World) (ho : Own base w 5 .u8 a n c f) (hn : n ≤ 2097152) (hB : base ≤ w.heap.size) :
    Calls Try.prog 15 #[.agg #[], .slice a n c, .int .u32 v] w fun e w' => ∃ a' c', e = .returned (.slice a' (n + 4) c') ∧ Own base w' 5 .u8 a' (n + 4) c' (app n f (four (v / 16777216) (v / 65536 % 256) (v / 256 % 256) (v % 256))) ∧ Below base w w' := by
  obtain ⟨i5, hi5, hz5, hs5, hb5⟩ := info_parts info5
  have hX : base ≤ ((w.alloc (.cells #[] 41)).alloc (.cells #[.int .u8 (v / 16777216), .int .u8 (v / 65536 % 256), .int .u8 (v / 256 % 256), .int .u8 (v % 256)] 5)).heap.size := (Below.two hB _ _).size |> Nat.le_trans hB
  have hsrc : Rd .u8 ((w.alloc (.cells #[] 41)).alloc (.cells #[.int .u8 (v / 16777216), .int .u8 (v / 65536 % 256), .int .u8 (v / 256 % 256), .int .u8 (v % 256)] 5)) (some ⟨w.heap.size + 1, 0, none⟩) 4 (four (v / 16777216) (v / 65536 % 256) (v / 256 % 256) (v % 256)) := rd_four (heap_second _ _ _)
  have ho2 : Own base ((w.alloc (.cells #[] 41)).alloc (.cells #[.int .u8 (v / 16777216), .int .u8 (v / 65536 % 256), .int .u8 (v / 256 % 256), .int .u8 (v % 256)] 5)) 5 .u8 a n c f := (ho.alloc _).alloc _
  have hb2 := Below.two hB (.cells #[] 41) (.cells #[.int .u8 (v / 16777216), .int .u8 (v / 65536 % 256), .int .u8 (v / 256 % 256), .int .u8 (v % 256)] 5)
  go_enter Try.func15, Try.ntmps15
  go_wp2_with (at_builtin; refine wpList_append_any _ rfl _ _ 24 rfl base 5 i5 .u8 1 Try.underlying24 hi5 hz5 hs5 hb5 a n c f rfl ho2 (some ⟨w.heap.size + 1, 0, none⟩) 4 4 (four (v / 16777216) (v / 65536 % 256) (v / 256 % 256) (v % 256)) rfl hsrc (fun e => by simp at e) ?c1 ?c2 hX ?_)
  case c1 => unfold maxLen; omega
  case c2 => omega
  intro a1 c1 w1 _ ho1 hg1
  have hb3 : Below base w w1 := hb2.grown hg1 hX (fun k hk => (ho2.lt k hk).1)
  clear hsrc ho2 hb2 hX ho hg1
  go_wp2
  go_ret
  exact ⟨a1, c1, rfl, ho1, hb3⟩


/-- .. the length said by the caller. -/
theorem au16' (base : Nat) (a : Option Addr) (n c : Nat) (f : Nat → Int) (v : Int) (hv0 : 0 ≤ v) (hv1 : v ≤ 65535) (m : Nat) (hm : n + 2 = m) (w : World) (ho : Own base w 5 .u8 a n c f) (hn : n ≤ 2097152) (hB : base ≤ w.heap.size) :
    Calls Try.prog 14 #[.agg #[], .slice a n c, .int .u16 v] w fun e w' => ∃ a' c', e = .returned (.slice a' m c') ∧ Own base w' 5 .u8 a' m c' (app n f (two (v / 256) (v % 256))) ∧ Below base w w' := by
  subst hm; exact au16 base a n c f v hv0 hv1 w ho hn hB
theorem au32' (base : Nat) (a : Option Addr) (n c : Nat) (f : Nat → Int) (v : Int) (hv0 : 0 ≤ v) (hv1 : v ≤ 4294967295) (m : Nat) (hm : n + 4 = m) (w : World) (ho : Own base w 5 .u8 a n c f) (hn : n ≤ 2097152) (hB : base ≤ w.heap.size) :
    Calls Try.prog 15 #[.agg #[], .slice a n c, .int .u32 v] w fun e w' => ∃ a' c', e = .returned (.slice a' m c') ∧ Own base w' 5 .u8 a' m c' (app n f (four (v / 16777216) (v / 65536 % 256) (v / 256 % 256) (v % 256))) ∧ Below base w w' := by
  subst hm; exact au32 base a n c f v hv0 hv1 w ho hn hB

/-- A string's bytes by their places. -/
def sb (s : ByteArray) (j : Nat) : Int := ((s.data.toList.getD j 0).toNat : Int)
theorem strCells_eq (s : ByteArray) : Lib.strCells s = cs .u8 s.size (sb s) := by
  apply List.ext_getElem?
  intro j
  by_cases hj : j < s.size
  · have hj' : j < s.data.toList.length := by simpa using hj
    rw [cs_get _ _ _ _ hj]
    unfold Lib.strCells sb
    rw [List.getElem?_map, List.getElem?_eq_getElem hj']
    simp [List.getD, List.getElem?_eq_getElem hj']
  · rw [List.getElem?_eq_none (by rw [Lib.strCells_length]; omega), List.getElem?_eq_none (by rw [cs_length]; omega)]

set_option maxHeartbeats 1000000 in
theorem appendWire (base : Nat) (a : Option Addr) (n c : Nat) (f : Nat → Int) (s : ByteArray) (hs : s.size ≤ 2097152) (w : World) (ho : Own base w 5 .u8 a n c f) (hn : n ≤ 2097152) (hB : base ≤ w.heap.size) :
    Calls Try.prog 16 #[.agg #[.string s], .slice a n c] w fun e w' => ∃ a' c', e = .returned (.slice a' (n + s.size) c') ∧ Own base w' 5 .u8 a' (n + s.size) c' (app n f (sb s)) ∧ Below base w w' := by
  obtain ⟨i5, hi5, hz5, hs5, hb5⟩ := info_parts info5
  have ho2 : Own base (w.alloc (.cells #[.string s] 29)) 5 .u8 a n c f := ho.alloc _
  have hb2 : Below base w (w.alloc (.cells #[.string s] 29)) := (Below.refl _ _).alloc hB _
  have hX : base ≤ (w.alloc (.cells #[.string s] 29)).heap.size := Nat.le_trans hB hb2.size
  go_enter Try.func16, Try.ntmps16
  go_wp2_with (at_builtin; refine Lib.wpList_append_own_string _ rfl _ _ 24 9 rfl base 5 i5 Try.underlying24 Try.underlying9 hi5 hz5 hs5 hb5 (.slice a n c) n (cs .u8 n f) rfl ho2 s rfl ?c1 ?c2 hX ?_)
  case c1 => unfold maxLen; omega
  case c2 => omega
  intro v1 w1 ho1 hg1 _
  have hb3 : Below base w w1 := hb2.grown hg1 hX (fun k hk => (ho2.lt k hk).1)
  obtain ⟨a1, c1, hv, _⟩ := own_shape ho1
  rw [strCells_eq, cs_app] at ho1
  rw [hv] at ho1 ⊢
  clear hv ho2 hb2 hX ho hg1
  go_wp2
  go_ret
  exact ⟨a1, c1, rfl, ho1, hb3⟩

/-- The eighteen octets ahead of the signer's name. -/
def hdr (tc al lb t e i kt : Int) : Nat → Int :=
  app 16 (app 12 (app 8 (app 4 (app 2 (app 0 (fun _ => 0) (two (tc / 256) (tc % 256))) (two al lb)) (four (t / 16777216) (t / 65536 % 256) (t / 256 % 256) (t % 256)))
    (four (e / 16777216) (e / 65536 % 256) (e / 256 % 256) (e % 256))) (four (i / 16777216) (i / 65536 % 256) (i / 256 % 256) (i % 256))) (two (kt / 256) (kt % 256))

/-- The two boxes that appendFields makes are read as they were laid. -/
theorem boxes {w X : World} {tc al lb t ex ic kt : Int} {x s : ByteArray} {v8 : Value} {o : Obj} (ho : o = .cells #[.int .u16 tc, .int .u8 al, .int .u8 lb, .int .u32 t, .int .u32 ex, .int .u32 ic, .int .u16 kt, .string x, v8] 32)
    (hX : Below (w.heap.size + 2) ((w.alloc o).alloc (.cells #[.string s] 29)) X) :
    X.cell? ⟨w.heap.size, 1, none⟩ = some (.int .u8 al) ∧ X.cell? ⟨w.heap.size, 2, none⟩ = some (.int .u8 lb) ∧ X.cell? ⟨w.heap.size, 3, none⟩ = some (.int .u32 t) ∧ X.cell? ⟨w.heap.size, 4, none⟩ = some (.int .u32 ex) ∧
    X.cell? ⟨w.heap.size, 5, none⟩ = some (.int .u32 ic) ∧ X.cell? ⟨w.heap.size, 6, none⟩ = some (.int .u16 kt) ∧ X.cell? ⟨w.heap.size + 1, 0, none⟩ = some (.string s) := by
  subst ho
  have h1 : X.heap[w.heap.size]? = some (.cells #[.int .u16 tc, .int .u8 al, .int .u8 lb, .int .u32 t, .int .u32 ex, .int .u32 ic, .int .u16 kt, .string x, v8] 32 (0, 0)) := by
    rw [hX.block _ (by omega)]
    show ((w.heap.push _).push _)[w.heap.size]? = _
    simp only [Array.getElem?_push, Array.size_push]
    rw [if_neg (by omega), if_pos trivial]
  have h2 : X.heap[w.heap.size + 1]? = some (.cells #[.string s] 29 (0, 0)) := by
    rw [hX.block _ (by omega)]
    exact heap_second _ _ _
  refine ⟨?_, ?_, ?_, ?_, ?_, ?_, ?_⟩
  · rw [cell_of_row X _ 1 _ 32 (0, 0) h1]; rfl
  · rw [cell_of_row X _ 2 _ 32 (0, 0) h1]; rfl
  · rw [cell_of_row X _ 3 _ 32 (0, 0) h1]; rfl
  · rw [cell_of_row X _ 4 _ 32 (0, 0) h1]; rfl
  · rw [cell_of_row X _ 5 _ 32 (0, 0) h1]; rfl
  · rw [cell_of_row X _ 6 _ 32 (0, 0) h1]; rfl
  · rw [cell_of_row X _ 0 _ 29 (0, 0) h2]; rfl

theorem size_two (w : World) (o1 o2 : Obj) : ((w.alloc o1).alloc o2).heap.size = w.heap.size + 2 := by simp

set_option maxRecDepth 100000 in
set_option maxHeartbeats 2000000 in
theorem appendFields (tc al lb t ex ic kt : Int) (x : ByteArray) (sa : Option Addr) (sn sc : Nat) (s : ByteArray) (hs : s.size ≤ 1048576) (w : World)
    (t0 : 0 ≤ tc) (t1 : tc ≤ 65535) (u0 : 0 ≤ t) (u1 : t ≤ 4294967295) (v0 : 0 ≤ ex) (v1 : ex ≤ 4294967295) (y0 : 0 ≤ ic) (y1 : ic ≤ 4294967295) (z0 : 0 ≤ kt) (z1 : kt ≤ 65535) :
    Calls Try.prog 13 #[.agg #[.int .u16 tc, .int .u8 al, .int .u8 lb, .int .u32 t, .int .u32 ex, .int .u32 ic, .int .u16 kt, .string x, .slice sa sn sc], .slice none 0 0, .agg #[.string s]] w fun e w' =>
      ∃ a' c', e = .returned (.slice a' (18 + s.size) c') ∧ Own w.heap.size w' 5 .u8 a' (18 + s.size) c' (app 18 (hdr tc al lb t ex ic kt) (sb s)) ∧ Below w.heap.size w w' := by
  obtain ⟨i5, hi5, hz5, hs5, hb5⟩ := info_parts info5
  go_enter Try.func13, Try.ntmps13
  go_wp2_with fail
  refine (au16' (w.heap.size + 2) none 0 0 (fun _ => 0) tc t0 t1 2 rfl _ (World.ownsRow_nil _ _ _ _) (by omega) (by rw [size_two]; exact Nat.le_refl _)).mono ?_
  rintro e w1 ⟨a1, c1, rfl, o1, b1⟩
  obtain ⟨k1, k2, k3, k4, k5, k6, k7⟩ := boxes rfl b1
  have hsz : w.heap.size + 2 ≤ w1.heap.size := by have := b1.size; rw [size_two] at this; exact this
  have hb2 : Below (w.heap.size + 2) w1 (w1.alloc (.cells #[.int .u8 al, .int .u8 lb] 5)) := (Below.refl _ _).alloc hsz _
  have hsrc : Rd .u8 (w1.alloc (.cells #[.int .u8 al, .int .u8 lb] 5)) (some ⟨w1.heap.size, 0, none⟩) 2 (two al lb) := rd_two (heap_alloc_new _ _)
  have o1' := o1.alloc (.cells #[.int .u8 al, .int .u8 lb] 5)
  have hX := Nat.le_trans hsz hb2.size
  go_wp2_with (at_builtin; refine wpList_append_any _ rfl _ _ 24 rfl (w.heap.size + 2) 5 i5 .u8 1 Try.underlying24 hi5 hz5 hs5 hb5 a1 2 c1 _ rfl o1' (some ⟨w1.heap.size, 0, none⟩) 2 2 (two al lb) rfl hsrc (fun e => by simp at e) ?c1 ?c2 hX ?_)
  case c1 => unfold maxLen; omega
  case c2 => omega
  intro a2 c2 w2 _ o2 g2
  replace b1 := b1.trans ((hb2.grown g2 hX (fun k hk => (o1'.lt k hk).1)))
  clear k1 k2 k3 k4 k5 k6 k7 hb2 hsrc o1' hX hsz o1 g2
  obtain ⟨k1, k2, k3, k4, k5, k6, k7⟩ := boxes rfl b1
  have hsz : w.heap.size + 2 ≤ w2.heap.size := by have := b1.size; rw [size_two] at this; exact this
  go_wp2_with fail
  refine (au32' (w.heap.size + 2) a2 4 c2 _ t u0 u1 8 rfl _ o2 (by omega) hsz).mono ?_
  rintro e w3 ⟨a3, c3, rfl, o3, b3⟩
  replace b1 := b1.trans b3
  clear k1 k2 k3 k4 k5 k6 k7 hsz o2 b3
  obtain ⟨k1, k2, k3, k4, k5, k6, k7⟩ := boxes rfl b1
  have hsz : w.heap.size + 2 ≤ w3.heap.size := by have := b1.size; rw [size_two] at this; exact this
  go_wp2_with fail
  refine (au32' (w.heap.size + 2) a3 8 c3 _ ex v0 v1 12 rfl _ o3 (by omega) hsz).mono ?_
  rintro e w4 ⟨a4, c4, rfl, o4, b4⟩
  replace b1 := b1.trans b4
  clear k1 k2 k3 k4 k5 k6 k7 hsz o3 b4
  obtain ⟨k1, k2, k3, k4, k5, k6, k7⟩ := boxes rfl b1
  have hsz : w.heap.size + 2 ≤ w4.heap.size := by have := b1.size; rw [size_two] at this; exact this
  go_wp2_with fail
  refine (au32' (w.heap.size + 2) a4 12 c4 _ ic y0 y1 16 rfl _ o4 (by omega) hsz).mono ?_
  rintro e w5 ⟨a5, c5, rfl, o5, b5⟩
  replace b1 := b1.trans b5
  clear k1 k2 k3 k4 k5 k6 k7 hsz o4 b5
  obtain ⟨k1, k2, k3, k4, k5, k6, k7⟩ := boxes rfl b1
  have hsz : w.heap.size + 2 ≤ w5.heap.size := by have := b1.size; rw [size_two] at this; exact this
  go_wp2_with fail
  refine (au16' (w.heap.size + 2) a5 16 c5 _ kt z0 z1 18 rfl _ o5 (by omega) hsz).mono ?_
  rintro e w6 ⟨a6, c6, rfl, o6, b6⟩
  replace b1 := b1.trans b6
  clear k1 k2 k3 k4 k5 k6 k7 hsz o5 b6
  obtain ⟨k1, k2, k3, k4, k5, k6, k7⟩ := boxes rfl b1
  have hsz : w.heap.size + 2 ≤ w6.heap.size := by have := b1.size; rw [size_two] at this; exact this
  go_wp2_with fail
  refine (appendWire (w.heap.size + 2) a6 18 c6 _ s (by omega) _ o6 (by omega) hsz).mono ?_
  rintro e w7 ⟨a7, c7, rfl, o7, b7⟩
  replace b1 := b1.trans b7
  clear k1 k2 k3 k4 k5 k6 k7 hsz o6 b7
  go_wp2_with fail
  go_ret
  exact ⟨a7, c7, rfl, o7.mono (by omega), (Below.two (Nat.le_refl _) _ _).trans (b1.mono (by omega))⟩
end Go.Proofs.Qxb6614029a.B
