import Derived.Test.Qxb6614029aEnc
namespace Go.Proofs.Qxb6614029a.B
open Go.ChangeShapes Go.WideShapes Go.ChangeAt Go.RowKit

/-- Behind appendFields the receiver's box and the signature read as they did. -/
theorem behind {w w1 : World} {o : Obj} {a : Array Value} {v8 : Value} (ho : o = .cells a 32) (ha : a[8]? = some v8) (b : Below (w.alloc o).drew.heap.size (w.alloc o).drew w1) :
    w1.cell? ⟨w.heap.size, 8, none⟩ = some v8 ∧ (∀ {sa : Option Addr} {sn : Nat} {g : Nat → Int}, Rd .u8 w sa sn g → Rd .u8 w1 sa sn g) ∧ Below w.heap.size w w1 ∧ w.heap.size ≤ (w.alloc o).drew.heap.size ∧ (w.alloc o).drew.heap.size ≤ w1.heap.size := by
  have h0 : Below w.heap.size w (w.alloc o).drew := ((Below.refl _ _).alloc (Nat.le_refl _) o).drew
  have h1 : Below w.heap.size w w1 := h0.trans (b.mono h0.size)
  refine ⟨?_, fun h => h.below h1 (Nat.le_refl _), h1, h0.size, b.size⟩
  subst ho
  have h2 : w1.heap[w.heap.size]? = some (.cells a 32 (0, 0)) := by
    rw [b.block _ (by show _ < (w.heap.push _).size; simp)]
    exact heap_alloc_new w _
  rw [cell_of_row w1 _ 8 _ 32 (0, 0) h2]
  exact ha

set_option maxRecDepth 100000 in
set_option maxHeartbeats 4000000 in
theorem encode (tc al lb t ex ic kt : Int) (s : ByteArray) (sa : Option Addr) (sn sc : Nat) (g : Nat → Int) (hs : s.size ≤ 1048576) (hsn : sn ≤ 1048576) (w : World) (hsig : Rd .u8 w sa sn g) (hsc : sa = none → sc = 0)
    (t0 : 0 ≤ tc) (t1 : tc ≤ 65535) (u0 : 0 ≤ t) (u1 : t ≤ 4294967295) (v0 : 0 ≤ ex) (v1 : ex ≤ 4294967295) (y0 : 0 ≤ ic) (y1 : ic ≤ 4294967295) (z0 : 0 ≤ kt) (z1 : kt ≤ 65535) :
    Calls Try.prog 8 #[.agg #[.int .u16 tc, .int .u8 al, .int .u8 lb, .int .u32 t, .int .u32 ex, .int .u32 ic, .int .u16 kt, .string s, .slice sa sn sc]] w fun e w' =>
      ∃ a' c', e = .returned (.slice a' (18 + s.size + sn) c') ∧ Own w.heap.size w' 5 .u8 a' (18 + s.size + sn) c' (app (18 + s.size) (app 18 (hdr tc al lb t ex ic kt) (sb s)) g) ∧ Below w.heap.size w w' := by
  obtain ⟨i5, hi5, hz5, hs5, hb5⟩ := info_parts info5
  go_enter Try.func8, Try.ntmps8
  go_wp2_with fail
  go_region_law (first | (refine step_append_any rfl (.tmp 6) (.tmp 8) 24 rfl _ 5 i5 .u8 1 Try.underlying24 hi5 hz5 hs5 hb5 a1 (18 + s.size) c1 _ (by simp [Act.eval]) o1 sa sn sc g (by simp [Act.eval]) hsig1 hsc (by unfold maxLen; omega) (by omega) hX1 ?_; intro a2 c2 w2 _ o2 g2) | (go_simp; go_at_call 13; refine (appendFields tc al lb t ex ic kt s sa sn sc s hs _ t0 t1 u0 u1 v0 v1 y0 y1 z0 z1).mono ?_; rintro e w1 ⟨a1, c1, rfl, o1, b1⟩; obtain ⟨k8, hsg, b2, hX0, hX1⟩ := behind rfl rfl b1; have hsig1 := hsg hsig; clear hsg))
  all_goals
    have b3 : Below w.heap.size w w2 := b2.grown g2 (Nat.le_trans hX0 hX1) (fun k hk => Nat.le_trans hX0 (o1.lt k hk).1)
    replace o2 := o2.mono hX0
    clear o1 b1 k8 b2 hX0 hX1 hsig1 g2
    go_wp2
    go_ret
    exact ⟨a2, c2, rfl, o2, b3⟩
end Go.Proofs.Qxb6614029a.B
