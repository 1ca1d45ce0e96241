import Derived.Test.Qxb6613217aWalksB
namespace Go.Proofs.Qxb6613217a.B
open Go.ChangeShapes Go.WideShapes Go.ChangeAt Go.RowKit

theorem Own.mono {base base' : Nat} {w : World} {e : TypeId} {k : IntKind} {a : Option Addr} {n c : Nat} {f : Nat → Int} (h : Own base' w e k a n c f) (hb : base ≤ base') : Own base w e k a n c f := by
  refine ⟨h.1, ?_⟩
  rcases h.2 with h2 | ⟨g, cap, cur, hv, hg, r⟩
  · exact Or.inl h2
  · exact Or.inr ⟨g, cap, cur, hv, by omega, r⟩
theorem Own.below {base B : Nat} {w w' : World} {e : TypeId} {k : IntKind} {a : Option Addr} {n c : Nat} {f : Nat → Int} (h : Own base w e k a n c f) (hb : Below B w w') (hB : w.heap.size ≤ B) : Own base w' e k a n c f :=
  World.ownsRow.kept (row := none) h ⟨hb.os, hb.tape, hb.output, hb.size, fun i hi _ => hb.block i (by omega)⟩ (by cases h : (Value.slice a n c).ownBlock <;> simp)

/-- Two clones, then a reader over them: all of it lies behind what was there. -/
theorem ready {w3 w4 w5 w6 : World} {a4 a5 : Option Addr} {n0 n1 : Nat} {f0 f1 : Nat → Int} (o4 : Own w3.heap.size w4 5 .u8 a4 n0 n0 f0) (b4 : Below w3.heap.size w3 w4) (o5 : Own w4.heap.size w5 3 .i64 a5 n1 n1 f1) (b5 : Below w4.heap.size w4 w5)
    (b6 : Below w5.heap.size w5 w6) :
    w3.heap.size ≤ w5.heap.size ∧ Own w3.heap.size w6 5 .u8 a4 n0 n0 f0 ∧ Own w3.heap.size w6 3 .i64 a5 n1 n1 f1 ∧ Below w3.heap.size w3 w6 ∧ w3.heap.size ≤ w6.heap.size := by
  have h1 := b4.size
  have h2 := b5.size
  have h3 := b6.size
  exact ⟨by omega, (o4.below b5 (Nat.le_refl _)).below b6 (Nat.le_refl _), (o5.below b6 (Nat.le_refl _)).mono h1, (b4.trans (b5.mono h1)).trans (b6.mono (by omega)), by omega⟩

theorem Rd.take {k : IntKind} {w : World} {a : Option Addr} {n t : Nat} {f : Nat → Int} (h : Rd k w a n f) (ht : t ≤ n) : Rd k w a t f :=
  ⟨fun e => by have := h.1 e; omega, fun j hj => h.2 j (by omega)⟩

theorem Rd.drewN {k : IntKind} {w : World} {a : Option Addr} {n : Nat} {f : Nat → Int} (h : Rd k w a n f) (q : Nat) : Rd k (w.drewN q) a n f := ⟨h.1, fun j hj => h.2 j hj⟩

/-- What the split reader's rows come to. -/
theorem split_fields {k : IntKind} {w : World} {a : Option Addr} {n0 n2 t : Nat} {f0 f2 : Nat → Int} (ht : t ≤ n2) (h : Rd k w a (n0 + t + (n2 - t)) (app (n0 + t) (app n0 f0 f2) (fun j => f2 (t + j)))) : Rd k w a (n0 + n2) (app n0 f0 f2) := by
  have e : n0 + t + (n2 - t) = n0 + n2 := by omega
  rw [e] at h
  refine ⟨h.1, fun j hj => ?_⟩
  rw [h.2 j hj]
  have : app (n0 + t) (app n0 f0 f2) (fun j => f2 (t + j)) j = app n0 f0 f2 j := by
    unfold app
    by_cases h1 : j < n0 + t
    · simp [h1]
    · simp only [if_neg h1, if_neg (show ¬ j < n0 by omega)]
      rw [show t + (j - (n0 + t)) = j - n0 by omega]
  rw [this]

/-- 's[t:]'. -/
theorem slice_from (a : Option Addr) (n t : Nat) (ht : t ≤ n) : ∃ b : Option Addr, (∀ w : World, (Instr.slice 22 (.slice a n n) (some (.int .i64 (t : Int))) none none).run Try.prog w = .ok (.slice b (n - t) (n - t)) w) ∧
    (b = none → a = none) ∧ ∀ (w : World) (f : Nat → Int), Rd .u8 w a n f → Rd .u8 w b (n - t) (fun j => f (t + j)) := by
  obtain ⟨i5, hi5, hz5, hs5, hb5⟩ := info_parts info5
  refine ⟨if n = t then a else a.map (·.add t), fun w => ?_, ?_, ?_⟩
  · have := run_slice_l (P := Try.prog) w 22 a n n (by kernel_rfl) .i64 (t : Int) (by omega) (by omega)
    rw [this]
    have e : Try.prog.elem 22 = 5 := by kernel_rfl
    simp [sizeOf, typeInfo, e, hi5, hs5, sliced]
  · split
    · exact id
    · cases a <;> simp
  · intro w f hf
    by_cases hnt : n = t
    · rw [if_pos hnt]
      exact ⟨fun _ => by omega, fun j hj => by omega⟩
    · rw [if_neg hnt]
      cases a with
      | none => have := hf.1 rfl; omega
      | some x =>
        refine ⟨fun h => by simp at h, fun j hj => ?_⟩
        have := hf.2 (t + j) (by omega)
        rw [← this]
        congr 1
        simp only [ad, Option.map_some, Option.getD_some, Addr.add]
        split <;> split <;> simp_all <;> omega

set_option maxRecDepth 100000 in
set_option maxHeartbeats 2000000 in
theorem four_main (a0 : Option Addr) (n0 c0 : Nat) (f0 : Nat → Int) (a1 : Option Addr) (n1 c1 : Nat) (f1 : Nat → Int) (a2 : Option Addr) (n2 c2 : Nat) (f2 : Nat → Int) (t : Nat) (w : World)
    (r0 : Rd .u8 w a0 n0 f0) (r1 : Rd .i64 w a1 n1 f1) (r2 : Rd .u8 w a2 n2 f2) (h : n0 + n1 + n2 ≤ 1048576) (h1 : n1 ≤ 131072) (h2 : n0 + 8 * n1 + n2 ≤ 1048576) (h3 : t ≤ n2) :
    Calls Try.prog 4 #[.slice a0 n0 c0, .slice a1 n1 c1, .slice a2 n2 c2, .int .i64 (t : Int)] w fun e w' => e = .returned (.bool true) ∧ Below w.heap.size w w' := by
  go_enter Try.func4, Try.ntmps4
  go_wp2_with fail
  refine (bytes4_yes _ _ _ _ _ _ _ _ _ _ h _).mono ?_
  rintro e wx ⟨rfl, hw⟩
  replace hw := hw.symm; subst hw
  go_wp2_with fail
  refine (reachable _ _ _ _ _ _ _ _ (by omega) r1).mono ?_
  rintro e wx ⟨rfl | rfl, hw⟩
  · replace hw := hw.symm; subst hw
    go_wp2_with fail
    go_ret
    exact ⟨rfl, Below.refl _ _⟩
  replace hw := hw.symm; subst hw
  go_wp2_with fail
  refine (clone_bytes a0 n0 c0 f0 (by omega) _ r0).mono ?_
  rintro e w1 ⟨a0', rfl, o0, b1⟩
  replace o0 := o0.rd
  replace r1 := r1.below b1 (Nat.le_refl _)
  replace r2 := r2.below b1 (Nat.le_refl _)
  clear r0
  go_wp2_with fail
  refine (clone_ints a1 n1 c1 f1 (by omega) _ r1).mono ?_
  rintro e w2 ⟨a1', rfl, o1, b2⟩
  replace o0 := o0.below b2 (Nat.le_refl _)
  replace o1 := o1.rd
  replace r2 := r2.below b2 (Nat.le_refl _)
  replace b2 := b1.trans (b2.mono b1.size)
  clear r1 b1
  go_wp2_with fail
  refine (clone_bytes a2 n2 c2 f2 (by omega) _ r2).mono ?_
  rintro e w3 ⟨a2', rfl, o2, b3⟩
  replace o0 := o0.below b3 (Nat.le_refl _)
  replace o1 := o1.below b3 (Nat.le_refl _)
  replace o2 := o2.rd
  replace b3 := b2.trans (b3.mono b2.size)
  clear r2 b2
  -- the whole reader
  go_wp2_with fail
  refine (clone_bytes a0' n0 n0 f0 (by omega) _ o0).mono ?_
  rintro e w4 ⟨a4, rfl, o4, b4⟩
  go_wp2_with fail
  refine (clone_ints a1' n1 n1 f1 (by omega) _ (o1.below b4 (Nat.le_refl _))).mono ?_
  rintro e w5 ⟨a5, rfl, o5, b5⟩
  go_wp2_with fail
  refine (newReader a4 n0 n0 a5 n1 n1 _).mono ?_
  rintro e w6 ⟨rfl, R6, b6, s6⟩
  obtain ⟨g1, o4', o5', b6', g2⟩ := ready o4 b4 o5 b5 b6
  clear o4 o5 b4 b5 b6 s6
  go_wp2_with fail
  refine (zzAdd w3.heap.size w5.heap.size a4 n0 n0 f0 a5 n1 n1 f1 a2' n2 n2 f2 _ g1 R6 o4' o5' (o2.below b6' (Nat.le_refl _)) o2.1 (by omega) (by omega) g2).mono ?_
  rintro e w7 ⟨rfl, aw, cw, ae, ce, R7, p7, q7, b7⟩
  replace b7 := b6'.trans b7
  replace o0 := o0.below b7 (Nat.le_refl _)
  replace o1 := o1.below b7 (Nat.le_refl _)
  replace o2 := o2.below b7 (Nat.le_refl _)
  replace b7 := b3.trans (b7.mono b3.size)
  replace p7 := p7.rd
  replace q7 := q7.rd
  clear b3 R6 o4' o5' b6' g1 g2
  -- the split reader
  go_wp2_with fail
  refine (clone_bytes a0' n0 n0 f0 (by omega) _ o0).mono ?_
  rintro e w8 ⟨a8, rfl, o8, b8⟩
  go_wp2_with fail
  refine (clone_ints a1' n1 n1 f1 (by omega) _ (o1.below b8 (Nat.le_refl _))).mono ?_
  rintro e w9 ⟨a9, rfl, o9, b9⟩
  go_wp2_with fail
  refine (newReader a8 n0 n0 a9 n1 n1 _).mono ?_
  rintro e w10 ⟨rfl, R10, b10, s10⟩
  obtain ⟨g1, o8', o9', b10', g2⟩ := ready o8 b8 o9 b9 b10
  clear o8 o9 b8 b9 b10 s10
  obtain ⟨x2, hx2, hxn, hxr⟩ := slice_from a2' n2 t h3
  go_wp2_with fail
  refine (zzAdd w7.heap.size w9.heap.size a8 n0 n0 f0 a9 n1 n1 f1 a2' t n2 f2 _ g1 R10 o8' o9' ((o2.below b10' (Nat.le_refl _)).take h3) o2.1 (by omega) (by omega) g2).mono ?_
  rintro e w11 ⟨rfl, ax, cx, ay, cy, R11, p11, q11, b11⟩
  replace b11 := b10'.trans b11
  clear R10 o8' o9' b10' g2
  go_wp2_with fail
  refine (zzAdd w7.heap.size w9.heap.size ax (n0 + t) cx (app n0 f0 f2) ay (n1 + 1) cy (app n1 f1 (fun _ => (n0 : Int) + (t : Int))) x2 (n2 - t) (n2 - t) (fun j => f2 (t + j)) _ g1 R11 p11 q11 (hxr _ _ (o2.below b11 (Nat.le_refl _))) (fun e => by have := o2.1 (hxn e); omega) (by omega) (by omega) b11.size).mono ?_
  rintro e w12 ⟨rfl, au, cu, at', ct, R12, p12, q12, b12⟩
  replace b12 := b11.trans b12
  replace p12 := split_fields h3 p12.rd
  replace q12 := q12.rd
  replace o0 := o0.below b12 (Nat.le_refl _)
  replace o1 := o1.below b12 (Nat.le_refl _)
  replace o2 := o2.below b12 (Nat.le_refl _)
  replace p7 := p7.below b12 (Nat.le_refl _)
  replace q7 := q7.below b12 (Nat.le_refl _)
  replace R7 := R7.below b12 (Nat.le_refl _)
  replace b12 := b7.trans (b12.mono b7.size)
  rw [show n0 + t + (n2 - t) = n0 + n2 from by omega] at R12
  clear R11 p11 q11 b11 b7 g1 hx2 hxn hxr
  go_wp2_with fail
  refine (csvFields _ _ _ _ _ _ rfl _ R7).mono ?_
  rintro e wx ⟨rfl, hw⟩
  replace hw := hw.symm; subst hw
  go_wp2_with fail
  refine (csvEnds _ _ _ _ _ _ rfl _ R7).mono ?_
  rintro e wx ⟨rfl, hw⟩
  replace hw := hw.symm; subst hw
  go_wp2_with fail
  refine (csvFields _ _ _ _ _ _ rfl _ R12).mono ?_
  rintro e wx ⟨rfl, hw⟩
  replace hw := hw.symm; subst hw
  go_wp2_with fail
  refine (csvEnds _ _ _ _ _ _ rfl _ R12).mono ?_
  rintro e wx ⟨rfl, hw⟩
  replace hw := hw.symm; subst hw
  clear R7 R12
  -- the ends' last entries
  have i1 := ix23 ae (n1 + 1) ce n1 q7.1 (by omega)
  have i2 := ix23 at' (n1 + 1 + 1) ct n1 q12.1 (by omega)
  have i3 := ix23 at' (n1 + 1 + 1) ct (n1 + 1) q12.1 (by omega)
  rw [show ((n1 + 1 : Nat) : Int) = (n1 : Int) + 1 from by omega] at i3
  have k1 : w12.cell? (ad ae n1) = some (.int .i64 ((n0 : Int) + (n2 : Int))) := by rw [q7.2 n1 (by omega)]; simp [app]
  have k2 : w12.cell? (ad at' n1) = some (.int .i64 ((n0 : Int) + (t : Int))) := by rw [q12.2 n1 (by omega)]; simp [app]
  have k3 : w12.cell? (ad at' (n1 + 1)) = some (.int .i64 ((n0 : Int) + (n2 : Int))) := by rw [q12.2 (n1 + 1) (by omega)]; simp [app]; omega
  go_wp2_with fail
  clear i1 i2 i3 k1 k2 k3
  go_loopw [17] (fun i wr => ∃ k q : Nat, k ≤ n1 ∧ i = .int .i64 k ∧ wr = w12.drewN q) (fun i _ => n1 - (intOf i).toNat)
  case atStart => exact ⟨0, 0, Nat.zero_le _, rfl, rfl⟩
  case round =>
    obtain ⟨k, q, hk, rfl, rfl⟩ := hrel
    by_cases hlt : k < n1
    · have i1 := ix23 ae (n1 + 1) ce k q7.1 (by omega)
      have i2 := ix23 at' (n1 + 1 + 1) ct k q12.1 (by omega)
      have i3 := ix23 a1' n1 n1 k o1.1 (by omega)
      have k1 : w12.cell? (ad ae k) = some (.int .i64 (f1 k)) := by rw [q7.2 k (by omega)]; simp [app, hlt]
      have k2 : w12.cell? (ad at' k) = some (.int .i64 (f1 k)) := by rw [q12.2 k (by omega)]; simp [app, hlt]; omega
      have k3 := o1.2 k hlt
      generalize f1 k = z at *
      go_wp2_with fail
      go_quiet (fail)
      go_wp2
      go_roundw
      case rel => exact ⟨k + 1, _, by omega, by go_num, rfl⟩
      case measure => simp [intOf]; omega
    · go_wp2_with fail
      refine (sameBytes aw (n0 + n2) cw (app n0 f0 f2) au cu (app n0 f0 f2) _ (by omega) (p7.drewN q) (p12.drewN q) (fun _ _ => rfl)).mono ?_
      rintro e wy ⟨rfl, q', rfl⟩
      clear q7 q12 o1
      go_wp2_with fail
      go_loopw [18] (fun i wr => ∃ k q : Nat, k ≤ n0 ∧ i = .int .i64 k ∧ wr = w12.drewN q) (fun i _ => n0 - (intOf i).toNat)
      case atStart => exact ⟨0, _, Nat.zero_le _, rfl, rfl⟩
      case round =>
        clear hlt hk
        obtain ⟨k2, q2, hk, rfl, rfl⟩ := hrel
        by_cases hlt : k2 < n0
        · have i1 := ix22 aw (n0 + n2) cw k2 p7.1 (by omega)
          have i2 := ix22 a0' n0 n0 k2 o0.1 (by omega)
          have k1 : w12.cell? (ad aw k2) = some (.int .u8 (f0 k2)) := by rw [p7.2 k2 (by omega)]; simp [app, hlt]
          have kc2 := o0.2 k2 hlt
          generalize f0 k2 = z at *
          go_wp2_with fail
          go_quiet (fail)
          go_wp2
          go_roundw
          case rel => exact ⟨k2 + 1, _, by omega, by go_num, rfl⟩
          case measure => simp [intOf]; omega
        · go_wp2_with fail
          go_loopw [19] (fun i wr => ∃ k q : Nat, k ≤ n2 ∧ i = .int .i64 k ∧ wr = w12.drewN q) (fun i _ => n2 - (intOf i).toNat)
          case atStart => exact ⟨0, _, Nat.zero_le _, rfl, rfl⟩
          case round =>
            clear hlt hk
            obtain ⟨k3, q3, hk, rfl, rfl⟩ := hrel
            by_cases hlt : k3 < n2
            · have i1 := ix22 aw (n0 + n2) cw (n0 + k3) p7.1 (by omega)
              rw [show ((n0 + k3 : Nat) : Int) = (n0 : Int) + (k3 : Int) from by omega] at i1
              have i2 := ix22 a2' n2 n2 k3 o2.1 (by omega)
              have k1 : w12.cell? (ad aw (n0 + k3)) = some (.int .u8 (f2 k3)) := by rw [p7.2 (n0 + k3) (by omega)]; simp [app]; omega
              have kc2 := o2.2 k3 hlt
              generalize f2 k3 = z at *
              go_wp2_with fail
              go_quiet (fail)
              go_wp2
              go_roundw
              case rel => exact ⟨k3 + 1, _, by omega, by go_num, rfl⟩
              case measure => simp [intOf]; omega
            · go_wp2_with fail
              go_ret
              exact ⟨rfl, below_drewN b12 _⟩
end Go.Proofs.Qxb6613217a.B
