import Derived.Test.Qxb6613217aAdd
namespace Go.Proofs.Qxb6613217a.B
open Go.ChangeShapes Go.WideShapes Go.ChangeAt Go.RowKit

set_option maxHeartbeats 1000000 in
theorem addField (base r : Nat) (a : Option Addr) (n c : Nat) (f : Nat → Int) (a' : Option Addr) (n' c' : Nat) (g : Nat → Int) (b : Option Addr) (m cb : Nat) (h : Nat → Int) (w : World)
    (hr : base ≤ r) (hR : Rdr w r (.slice a n c) (.slice a' n' c')) (hf : Own base w 5 .u8 a n c f) (he : Own base w 3 .i64 a' n' c' g) (hs : Rd .u8 w b m h) (hcb : b = none → cb = 0)
    (h1 : n + m ≤ 2097152) (h2 : n' ≤ 2097152) (hB : base ≤ w.heap.size) :
    Calls Try.prog 16 #[.pointer (some ⟨r, 0, none⟩), .slice b m cb] w fun e w' => e = .returned (.tuple #[]) ∧ ∃ a1 c1 a2 c2, Rdr w' r (.slice a1 (n + m) c1) (.slice a2 (n' + 1) c2) ∧
      Own base w' 5 .u8 a1 (n + m) c1 (app n f h) ∧ Own base w' 3 .i64 a2 (n' + 1) c2 (app n' g (fun _ => (n : Int) + (m : Int))) ∧ Below base w w' := by
  obtain ⟨i5, hi5, hz5, hs5, hb5⟩ := info_parts info5
  obtain ⟨i3, hi3, hz3, hs3, hb3⟩ := info_parts info3
  have c9 := hR.cell9
  go_enter Try.func16, Try.ntmps16
  go_wp2_with (at_builtin; refine wpList_append_any _ rfl _ _ 22 rfl base 5 i5 .u8 1 Try.underlying22 hi5 hz5 hs5 hb5 a n c f rfl hf b m cb h rfl hs hcb ?c1 ?c2 hB ?_)
  case c1 => unfold maxLen; omega
  case c2 => omega
  intro a1 c1 w1 hc1 ho1 hg1
  have hR1 : Rdr w1 r (.slice a n c) (.slice a' n' c') := hR.same (hg1.block r hR.lt (hR.ne hf (by decide)))
  have he1 : Own base w1 3 .i64 a' n' c' g := he.kept hg1 (own_ne hf he (by decide))
  have hb1 : Below base w w1 := (Below.refl _ _).grown hg1 hB (fun k hk => (hf.lt k hk).1)
  have d9 := hR1.cell9
  have e9 := hR1.frozen 9
  have hR2 := hR1.set9 (.slice a1 (n + m) c1)
  have he2 := own_store (j := 9) he1 (hR1.ne he1 (by decide)) (.slice a1 (n + m) c1)
  have ho2 := own_store (j := 9) ho1 (hR1.ne ho1 (by decide)) (.slice a1 (n + m) c1)
  have hb2 : Below base w (w1.setCell ⟨r, 9, none⟩ (.slice a1 (n + m) c1)) := hb1.setCell hr _
  clear c9 hf he hs hR hg1 hR1 he1 ho1 hb1 hcb hc1
  go_wp2
  generalize w1.setCell ⟨r, 9, none⟩ (.slice a1 (n + m) c1) = W at *
  have k9 := hR2.cell9
  have k10 := hR2.cell10
  have f10 := hR2.frozen 10
  have src : ∀ X : World, X.heap = W.heap.push (.cells #[.int .i64 ((n : Int) + (m : Int))] 3) → Rd .i64 X (some ⟨W.heap.size, 0, none⟩) 1 (fun _ => (n : Int) + (m : Int)) := by
    intro X hX
    refine ⟨fun h => by simp at h, fun j hj => ?_⟩
    obtain rfl : j = 0 := by omega
    show X.cell? ⟨W.heap.size, 0, none⟩ = _
    rw [cell_of_row X W.heap.size 0 #[.int .i64 ((n : Int) + (m : Int))] 3 (0, 0) (by rw [hX]; simp)]
    rfl
  have fin : ∀ X : World, X.heap = W.heap.push (.cells #[.int .i64 ((n : Int) + (m : Int))] 3) → X.os = W.os → X.tape = W.tape → X.output = W.output → Own base X 3 .i64 a' n' c' g ∧ Below base w X ∧ Rdr X r (.slice a1 (n + m) c1) (.slice a' n' c') ∧ Own base X 5 .u8 a1 (n + m) c1 (app n f h) := by
    intro X hX h1 h2 h3
    have hb : Below W.heap.size W X := ⟨h1, h2, h3, by rw [hX]; simp, fun k hk => by rw [hX, Array.getElem?_push, if_neg (by omega)]⟩
    have hg : W.grownBy X none := ⟨h1, h2, h3, by rw [hX]; simp, fun k hk _ => hb.block k hk⟩
    have hBW : base ≤ W.heap.size := Nat.le_trans hB hb2.size
    exact ⟨he2.kept hg (by cases h : (Value.slice a' n' c').ownBlock <;> simp), hb2.trans (hb.mono hBW), hR2.below hb (Nat.le_refl _), ho2.kept hg (by cases h : (Value.slice a1 (n + m) c1).ownBlock <;> simp)⟩
  have hBW : base ≤ W.heap.size := Nat.le_trans hB hb2.size
  have fin' := fin ((W.alloc (.cells #[.int .i64 ((n : Int) + (m : Int))] 3)).drew) rfl rfl rfl rfl
  have src' := src ((W.alloc (.cells #[.int .i64 ((n : Int) + (m : Int))] 3)).drew) rfl
  have hBX : base ≤ ((W.alloc (.cells #[.int .i64 ((n : Int) + (m : Int))] 3)).drew).heap.size := Nat.le_trans hB fin'.2.1.size
  clear fin src
  generalize hX : ((W.alloc (.cells #[.int .i64 ((n : Int) + (m : Int))] 3)).drew) = X at fin' src' hBX
  obtain ⟨x1, x2, x3, x4⟩ := fin'
  have HX : Hid (((W.alloc (.cells #[.int .i64 ((n : Int) + (m : Int))] 3)).drew) = X) := hX
  clear hX
  have k10a : ∀ o, (W.alloc o).cell? ⟨r, 10, none⟩ = some (.slice a' n' c') := fun o => (hR2.below ((Below.refl _ W).alloc (Nat.le_refl W.heap.size) o) (Nat.le_refl _)).cell10
  go_region_law (rw [HX.out]; refine step_append_any rfl (.tmp 17) (.tmp 23) 23 rfl base 3 i3 .i64 8 Try.underlying23 hi3 hz3 hs3 hb3 a' n' c' g (by simp [Act.eval]) x1 (some ⟨W.heap.size, 0, none⟩) 1 1 (fun _ => (n : Int) + (m : Int)) (by simp [Act.eval]) src' (by simp) (by unfold maxLen; omega) (by omega) hBX ?_; intro a2 c2 w2 hc2 ho2' hg2; have y3 := x3.same (hg2.block r x3.lt (x3.ne x1 (by decide))); have k10' := y3.cell10; have f10' := y3.frozen 10)
  all_goals
    go_end0
    have z4 := x4.kept hg2 (own_ne x1 x4 (by decide))
    exact ⟨rfl, a1, c1, a2, c2, y3.set10 _, own_store (j := 10) z4 (y3.ne z4 (by decide)) _, own_store (j := 10) ho2' (y3.ne ho2' (by decide)) _, (x2.trans ((Below.refl _ _).grown hg2 hBX (fun k hk => (x1.lt k hk).1))).setCell hr _⟩
end Go.Proofs.Qxb6613217a.B
