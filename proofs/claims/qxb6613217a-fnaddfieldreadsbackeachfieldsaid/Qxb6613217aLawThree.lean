import Derived.Test.Qxb6613217aParts
namespace Go.Proofs.Qxb6613217a.B
open Go.ChangeShapes Go.WideShapes Go.ChangeAt Go.RowKit

/-- The bytes of the first k parts. -/
def S (pn : Nat → Nat) : Nat → Nat
  | 0 => 0
  | k + 1 => S pn k + pn k
/-- What the row's bytes are after k adds. -/
def Fk (n0 : Nat) (f0 : Nat → Int) (pn : Nat → Nat) (pf : Nat → Nat → Int) : Nat → Nat → Int
  | 0 => f0
  | k + 1 => app (n0 + S pn k) (Fk n0 f0 pn pf k) (pf k)
/-- What the row's ends are after k adds. -/
def Ek (n0 n1 : Nat) (f1 : Nat → Int) (pn : Nat → Nat) : Nat → Nat → Int
  | 0 => f1
  | k + 1 => app (n1 + k) (Ek n0 n1 f1 pn k) (fun _ => ((n0 + S pn k : Nat) : Int) + (pn k : Int))

theorem S_mono (pn : Nat → Nat) {i k : Nat} (h : i ≤ k) : S pn i ≤ S pn k := by
  induction k with
  | zero => obtain rfl : i = 0 := by omega
            exact Nat.le_refl _
  | succ k ih =>
    by_cases e : i = k + 1
    · rw [e]; exact Nat.le_refl _
    · have := ih (by omega)
      show S pn i ≤ S pn k + pn k
      omega
theorem Fk_base (n0 : Nat) (f0 : Nat → Int) (pn : Nat → Nat) (pf : Nat → Nat → Int) (k j : Nat) (h : j < n0) : Fk n0 f0 pn pf k j = f0 j := by
  induction k with
  | zero => rfl
  | succ k ih =>
    show app (n0 + S pn k) (Fk n0 f0 pn pf k) (pf k) j = _
    unfold app
    rw [if_pos (by omega)]
    exact ih
theorem Fk_part (n0 : Nat) (f0 : Nat → Int) (pn : Nat → Nat) (pf : Nat → Nat → Int) (k i j : Nat) (hi : i < k) (hj : j < pn i) : Fk n0 f0 pn pf k (n0 + S pn i + j) = pf i j := by
  induction k with
  | zero => omega
  | succ k ih =>
    show app (n0 + S pn k) (Fk n0 f0 pn pf k) (pf k) _ = _
    unfold app
    by_cases e : i = k
    · subst e
      rw [if_neg (by omega), show n0 + S pn i + j - (n0 + S pn i) = j by omega]
    · have h1 : S pn (i + 1) ≤ S pn k := S_mono pn (by omega)
      have h2 : S pn (i + 1) = S pn i + pn i := rfl
      rw [if_pos (by omega)]
      exact ih (by omega)
theorem Ek_base (n0 n1 : Nat) (f1 : Nat → Int) (pn : Nat → Nat) (k j : Nat) (h : j < n1) : Ek n0 n1 f1 pn k j = f1 j := by
  induction k with
  | zero => rfl
  | succ k ih =>
    show app (n1 + k) (Ek n0 n1 f1 pn k) _ j = _
    unfold app
    rw [if_pos (by omega)]
    exact ih
theorem Ek_at (n0 n1 : Nat) (f1 : Nat → Int) (pn : Nat → Nat) (k i : Nat) (hi : i < k) : Ek n0 n1 f1 pn k (n1 + i) = ((n0 + S pn i + pn i : Nat) : Int) := by
  induction k with
  | zero => omega
  | succ k ih =>
    show app (n1 + k) (Ek n0 n1 f1 pn k) _ (n1 + i) = _
    unfold app
    by_cases e : i = k
    · subst e
      rw [if_neg (by omega)]
      simp
    · rw [if_pos (by omega)]
      exact ih (by omega)

/-- 's[u:v]'. -/
theorem slice_mid (a : Option Addr) (n c u m : Nat) (h1 : u + m ≤ n) (h2 : n ≤ c) : ∃ b : Option Addr, (∀ w : World, (Instr.slice 22 (.slice a n c) (some (.int .i64 (u : Int))) (some (.int .i64 ((u + m : Nat) : Int))) none).run Try.prog w = .ok (.slice b m (c - u)) w) ∧
    ∀ (w : World) (f : Nat → Int), Rd .u8 w a n f → Rd .u8 w b m (fun j => f (u + j)) := by
  obtain ⟨i5, hi5, hz5, hs5, hb5⟩ := info_parts info5
  refine ⟨if c = u then a else a.map (·.add u), fun w => ?_, ?_⟩
  · have := run_slice_lh (P := Try.prog) w 22 a n c (by kernel_rfl) .i64 .i64 (u : Int) ((u + m : Nat) : Int) (by omega) (by omega) (by omega)
    rw [this]
    have e : Try.prog.elem 22 = 5 := by kernel_rfl
    simp [sizeOf, typeInfo, e, hi5, hs5, sliced]
    omega
  · intro w f hf
    by_cases hnt : c = u
    · rw [if_pos hnt]
      exact ⟨fun _ => by omega, fun j hj => by omega⟩
    · rw [if_neg hnt]
      cases a with
      | none =>
        have := hf.1 rfl
        exact ⟨fun _ => by omega, fun j hj => by omega⟩
      | some x =>
        refine ⟨fun h => by simp at h, fun j hj => ?_⟩
        have := hf.2 (u + j) (by omega)
        rw [← this]
        congr 1
        simp only [ad, Option.map_some, Option.getD_some, Addr.add]
        split <;> split <;> simp_all <;> omega

theorem Own.cap_ge {base : Nat} {w : World} {e : TypeId} {k : IntKind} {a : Option Addr} {n c : Nat} {f : Nat → Int} (h : Own base w e k a n c f) : n ≤ c := by
  rcases h.2 with ⟨hv, hn⟩ | ⟨g, cap, cur, hv, _, _, h1, _⟩
  · omega
  · simp only [Value.slice.injEq] at hv
    obtain ⟨_, _, rfl⟩ := hv
    exact h1

theorem Rd.sameHeap {k : IntKind} {w X : World} {a : Option Addr} {n : Nat} {f : Nat → Int} (h : Rd k w a n f) (hX : X.heap = w.heap) : Rd k X a n f :=
  ⟨h.1, fun j hj => (World.cell?_of_block (by rw [hX])).trans (h.2 j hj)⟩

set_option maxRecDepth 100000 in
set_option maxHeartbeats 4000000 in
theorem three_main (a0 : Option Addr) (n0 c0 : Nat) (f0 : Nat → Int) (a1 : Option Addr) (n1 c1 : Nat) (f1 : Nat → Int) (a2 : Option Addr) (n2 c2 : Nat) (pa : Nat → Option Addr) (pn pc : Nat → Nat) (pf : Nat → Nat → Int) (w : World)
    (r0 : Rd .u8 w a0 n0 f0) (r1 : Rd .i64 w a1 n1 f1) (r2 : RdP w a2 n2 pa pn pc pf) (hm : ∀ i, i < n2 → pn i ≤ maxLen) (h : n0 + n1 + n2 ≤ 1048576) (h1 : n1 ≤ 131072) (h2 : n2 ≤ 131072) (h3 : n0 + 8 * n1 + 8 * n2 ≤ 1048576) :
    Calls Try.prog 3 #[.slice a0 n0 c0, .slice a1 n1 c1, .slice a2 n2 c2] w fun e w' => e = .returned (.bool true) ∧ Below w.heap.size w w' := by
  go_enter Try.func3, Try.ntmps3
  go_wp2_with fail
  refine (bytes3_yes _ _ _ _ _ _ _ _ _ _ _ _ _ _ r2 hm h).mono ?_
  rintro e wx ⟨rfl | ⟨rfl, hp⟩, hw⟩
  · replace hw := hw.symm; subst hw
    go_wp2_with fail
    go_ret
    exact ⟨rfl, Below.refl _ _⟩
  replace hw := hw.symm; subst hw
  have HP : Hid (∀ i, i < n2 → pn i ≤ 1048576) := hp
  clear hp hm
  go_wp2_with fail
  go_loop [7, 8] (fun s i => ∃ k q : Nat, k ≤ n2 ∧ s = .int .i64 q ∧ q ≤ 1048576 ∧ i = .int .i64 k ∧ Hid (q = n0 + 8 * n1 + 8 * n2 + S pn k)) (fun _ i => n2 - (intOf i).toNat)
  case atStart => exact ⟨0, n0 + 8 * n1 + 8 * n2, Nat.zero_le _, by go_num, h3, rfl, rfl⟩
  case round =>
    obtain ⟨k, q, hk, rfl, hq, rfl, HQ⟩ := hrel
    by_cases hlt : k < n2
    · have hx := ix24 a2 n2 c2 k r2.1 hlt
      have hc := (r2.2 k hlt).1
      have hpk := HP.out k hlt
      have HN : Hid (q + pn k = n0 + 8 * n1 + 8 * n2 + S pn (k + 1)) := by
        have := HQ.out
        show q + pn k = n0 + 8 * n1 + 8 * n2 + (S pn k + pn k)
        omega
      clear HQ
      generalize pn k = p at hc hpk HN
      by_cases g2 : q + p ≤ 1048576
      · go_wp2_with fail
        go_round
        case rel => exact ⟨k + 1, q + p, by omega, by go_num, g2, by go_num, HN⟩
        case measure => simp [intOf]; omega
      · go_wp2_with fail
        go_ret
        exact ⟨rfl, Below.refl _ _⟩
    · have hN : n0 + S pn n2 ≤ 1048576 := by
        obtain rfl : k = n2 := by omega
        have := HQ.out
        omega
      clear HQ
      go_wp2_with fail
      refine (reachable _ _ _ _ _ _ _ _ (by omega) r1).mono ?_
      rintro e wx ⟨rfl | rfl, hw⟩
      · replace hw := hw.symm; subst hw
        go_wp2_with fail
        go_ret
        exact ⟨rfl, Below.refl _ _⟩
      replace hw := hw.symm; subst hw
      go_wp2_with fail
      refine (clone_bytes a0 n0 c0 f0 (by omega) _ r0).mono ?_
      rintro e w1 ⟨a0', rfl, o0, b1⟩
      replace o0 := o0.rd
      replace r1 := r1.below b1 (Nat.le_refl _)
      replace r2 := r2.below b1 (Nat.le_refl _)
      clear r0
      go_wp2_with fail
      refine (clone_ints a1 n1 c1 f1 (by omega) _ r1).mono ?_
      rintro e w2 ⟨a1', rfl, o1, b2⟩
      replace o0 := o0.below b2 (Nat.le_refl _)
      replace o1 := o1.rd
      replace r2 := r2.below b2 (Nat.le_refl _)
      replace b2 := b1.trans (b2.mono b1.size)
      clear r1 b1
      go_wp2_with fail
      refine (clone_parts a2 n2 c2 pa pn pc pf (by omega) (fun i hi => by have := HP.out i hi; omega) _ r2).mono ?_
      rintro e w3 ⟨a2', pb, rfl, o2, b3⟩
      replace o0 := o0.below b3 (Nat.le_refl _)
      replace o1 := o1.below b3 (Nat.le_refl _)
      replace b3 := b2.trans (b3.mono b2.size)
      clear r2 b2
      go_wp2_with fail
      refine (clone_bytes a0' n0 n0 f0 (by omega) _ o0).mono ?_
      rintro e w4 ⟨a4, rfl, o4, b4⟩
      go_wp2_with fail
      refine (clone_ints a1' n1 n1 f1 (by omega) _ (o1.below b4 (Nat.le_refl _))).mono ?_
      rintro e w5 ⟨a5, rfl, o5, b5⟩
      go_wp2_with fail
      refine (newReader a4 n0 n0 a5 n1 n1 _).mono ?_
      rintro e w6 ⟨rfl, R6, b6, s6⟩
      obtain ⟨g1, o4', o5', b6', g2⟩ := ready o4 b4 o5 b5 b6
      clear o4 o5 b4 b5 b6 s6
      go_wp2_with fail
      go_loopw [12] (fun i wr => ∃ (k : Nat) (af : Option Addr) (cf : Nat) (ae : Option Addr) (ce : Nat), k ≤ n2 ∧ i = .int .i64 k ∧ Rdr wr w5.heap.size (.slice af (n0 + S pn k) cf) (.slice ae (n1 + k) ce) ∧
          Own w3.heap.size wr 5 .u8 af (n0 + S pn k) cf (Fk n0 f0 pn pf k) ∧ Own w3.heap.size wr 3 .i64 ae (n1 + k) ce (Ek n0 n1 f1 pn k) ∧ Below w3.heap.size w3 wr) (fun i _ => n2 - (intOf i).toNat)
      case atStart => exact ⟨0, a4, n0, a5, n1, Nat.zero_le _, rfl, R6, o4', o5', b6'⟩
      case round =>
        clear R6 o4' o5' b6' hlt hk
        obtain ⟨k2, af, cf, ae, ce, hk2, rfl, R7, p7, q7, b7⟩ := hrel
        by_cases hlt2 : k2 < n2
        · have hx := ix24 a2' n2 n2 k2 o2.1 hlt2
          obtain ⟨hc, hrd⟩ := (o2.below b7 (Nat.le_refl _)).2 k2 hlt2
          have hpk := HP.out k2 hlt2
          have hS : S pn (k2 + 1) ≤ S pn n2 := S_mono pn (by omega)
          have hS1 : S pn (k2 + 1) = S pn k2 + pn k2 := rfl
          have hbd : n0 + S pn k2 + pn k2 ≤ 2097152 := by omega
          clear hS hS1
          go_wp2_with fail
          refine (zzAdd w3.heap.size w5.heap.size af (n0 + S pn k2) cf (Fk n0 f0 pn pf k2) ae (n1 + k2) ce (Ek n0 n1 f1 pn k2) (pb k2) (pn k2) (pn k2) (pf k2) _ g1 R7 p7 q7 hrd hrd.1 hbd (by omega) b7.size).mono ?_
          rintro e w8 ⟨rfl, af', cf', ae', ce', R8, p8, q8, b8⟩
          replace b8 := b7.trans b8
          rw [show n0 + S pn k2 + pn k2 = n0 + S pn (k2 + 1) from by show _ = n0 + (S pn k2 + pn k2); omega] at R8 p8
          clear R7 p7 q7 b7 hrd hc hpk hbd hx
          go_wp2_with fail
          go_roundw
          case rel => exact ⟨k2 + 1, af', cf', ae', ce', by omega, by go_num, R8, p8, q8, b8⟩
          case measure => simp [intOf]; omega
        · have e2 : k2 = n2 := by omega
          rw [e2] at R7 p7 q7
          clear e2
          have hcap := p7.cap_ge
          replace p7 := p7.rd
          replace q7 := q7.rd
          replace o0 := o0.below b7 (Nat.le_refl _)
          replace o1 := o1.below b7 (Nat.le_refl _)
          replace o2 := o2.below b7 (Nat.le_refl _)
          replace b7 := b3.trans (b7.mono b3.size)
          have HE0 : Hid (∀ j, j < n1 → Ek n0 n1 f1 pn n2 j = f1 j) := fun j hj => Ek_base n0 n1 f1 pn n2 j hj
          have HE1 : Hid (∀ i, i < n2 → Ek n0 n1 f1 pn n2 (n1 + i) = ((n0 + S pn i + pn i : Nat) : Int)) := fun i hi => Ek_at n0 n1 f1 pn n2 i hi
          have HF0 : Hid (∀ j, j < n0 → Fk n0 f0 pn pf n2 j = f0 j) := fun j hj => Fk_base n0 f0 pn pf n2 j hj
          have HF1 : Hid (∀ i j, i < n2 → j < pn i → Fk n0 f0 pn pf n2 (n0 + S pn i + j) = pf i j) := fun i j hi hj => Fk_part n0 f0 pn pf n2 i j hi hj
          have HS : Hid (∀ i, i < n2 → n0 + S pn i + pn i ≤ n0 + S pn n2) := fun i hi => by
            have hS : S pn (i + 1) ≤ S pn n2 := S_mono pn (by omega)
            have hS1 : S pn (i + 1) = S pn i + pn i := rfl
            omega
          have hn0N : n0 ≤ n0 + S pn n2 := by omega
          have HNe : Hid (n0 + S pn n2 = n0 + S pn n2) := rfl
          generalize Ek n0 n1 f1 pn n2 = E at *
          generalize Fk n0 f0 pn pf n2 = F at *
          generalize hN0 : n0 + S pn n2 = N at hN R7 p7 hcap HS hn0N
          clear HNe
          have HN : Hid (n0 + S pn n2 = N) := hN0
          clear hN0 b3 g1 g2
          have hdN : decide (N < n0) = false := decide_eq_false (by omega)
          have hdZ : decide ((N : Int) < (n0 : Int)) = false := decide_eq_false (by omega)
          go_wp2_with fail
          refine (csvFields _ _ _ _ _ _ rfl _ R7).mono ?_
          rintro e wx ⟨rfl, hw⟩
          replace hw := hw.symm; subst hw
          go_wp2_with fail
          refine (csvEnds _ _ _ _ _ _ rfl _ R7).mono ?_
          rintro e wx ⟨rfl, hw⟩
          replace hw := hw.symm; subst hw
          clear R7
          obtain ⟨wo, rfl⟩ : ∃ wo : World, wo = wr := ⟨_, rfl⟩
          go_wp2_with fail
          go_loopw [15] (fun i wz => ∃ k q : Nat, k ≤ n1 ∧ i = .int .i64 k ∧ wz = wo.drewN q) (fun i _ => n1 - (intOf i).toNat)
          case atStart => exact ⟨0, 0, Nat.zero_le _, rfl, rfl⟩
          case round =>
            obtain ⟨k3, q3, hk3, rfl, rfl⟩ := hrel
            by_cases hlt3 : k3 < n1
            · have i1 := ix23 ae (n1 + n2) ce k3 q7.1 (by omega)
              have i2 := ix23 a1' n1 n1 k3 o1.1 (by omega)
              have kc1 : wo.cell? (ad ae k3) = some (.int .i64 (f1 k3)) := by rw [q7.2 k3 (by omega), HE0.out k3 hlt3]
              have kc2 := o1.2 k3 hlt3
              generalize f1 k3 = z at *
              go_wp2_with fail
              go_quiet (fail)
              go_wp2
              go_roundw
              case rel => exact ⟨k3 + 1, _, by omega, by go_num, rfl⟩
              case measure => simp [intOf]; omega
            · go_wp2_with fail
              go_loopw [16] (fun i wz => ∃ k q : Nat, k ≤ n0 ∧ i = .int .i64 k ∧ wz = wo.drewN q) (fun i _ => n0 - (intOf i).toNat)
              case atStart => exact ⟨0, _, Nat.zero_le _, rfl, rfl⟩
              case round =>
                clear hlt3 hk3
                obtain ⟨k4, q4, hk4, rfl, rfl⟩ := hrel
                by_cases hlt4 : k4 < n0
                · have i1 := ix22 af N cf k4 p7.1 (by omega)
                  have i2 := ix22 a0' n0 n0 k4 o0.1 (by omega)
                  have kc1 : wo.cell? (ad af k4) = some (.int .u8 (f0 k4)) := by rw [p7.2 k4 (by omega), HF0.out k4 hlt4]
                  have kc2 := o0.2 k4 hlt4
                  generalize f0 k4 = z at *
                  go_wp2_with fail
                  go_quiet (fail)
                  go_wp2
                  go_roundw
                  case rel => exact ⟨k4 + 1, _, by omega, by go_num, rfl⟩
                  case measure => simp [intOf]; omega
                · clear o0 o1
                  go_wp2_with fail
                  go_loopw [17, 18, 19] (fun p i _ wz => ∃ k q u : Nat, k ≤ n2 ∧ p = .int .i64 u ∧ i = .int .i64 k ∧ Hid (u = n0 + S pn k) ∧ u ≤ N ∧ wz = wo.drewN q) (fun _ i _ _ => n2 - (intOf i).toNat)
                  case atStart => exact ⟨0, _, n0, Nat.zero_le _, rfl, rfl, rfl, hn0N, rfl⟩
                  case round =>
                    clear hlt4 hk4
                    obtain ⟨k5, q5, u, hk5, rfl, rfl, HU, huN, rfl⟩ := hrel
                    by_cases hlt5 : k5 < n2
                    · have i1 := ix23 ae (n1 + n2) ce (n1 + k5) q7.1 (by omega)
                      rw [show ((n1 + k5 : Nat) : Int) = (n1 : Int) + (k5 : Int) from by omega] at i1
                      have i2 := ix24 a2' n2 n2 k5 o2.1 hlt5
                      obtain ⟨hc, hrd⟩ := o2.2 k5 hlt5
                      have hsum := HS.out k5 hlt5
                      obtain ⟨b, hb, hbr⟩ := slice_mid af N cf u (pn k5) (by rw [HU.out]; exact hsum) hcap
                      have kc1 : wo.cell? (ad ae (n1 + k5)) = some (.int .i64 ((u + pn k5 : Nat) : Int)) := by rw [q7.2 (n1 + k5) (by omega), HE1.out k5 hlt5, HU.out]
                      have HU2 : Hid (u + pn k5 = n0 + S pn (k5 + 1)) := by
                        have := HU.out
                        show u + pn k5 = n0 + (S pn k5 + pn k5)
                        omega
                      have hle : ∀ j, j < pn k5 → F (u + j) = pf k5 j := fun j hj => by rw [HU.out]; exact HF1.out k5 j hlt5 hj
                      have hpk := HP.out k5 hlt5
                      have HC : Hid (∀ X : World, X.heap = wo.heap → Calls Try.prog 14 #[.slice b (pn k5) (cf - u), .slice (pb k5) (pn k5) (pn k5)] X fun e w' => e = .returned (.bool true) ∧ ∃ m, w' = X.drewN m) :=
                        fun X hX => sameBytes b (pn k5) (cf - u) (fun j => F (u + j)) (pb k5) (pn k5) (pf k5) X (by omega) ((hbr _ _ p7).sameHeap hX) (hrd.sameHeap hX) hle
                      have huv : u ≤ u + pn k5 := by omega
                      have hvN : u + pn k5 ≤ N := by rw [HU.out]; exact hsum
                      clear hle hbr hrd hpk HU hsum
                      generalize pn k5 = m at hb hc HC huv hvN kc1 HU2
                      generalize u + m = v at hb huv hvN kc1 HU2
                      generalize pb k5 = x at hc HC
                      have hcX : (wo.drewN q5).cell? (ad a2' k5) = some (.slice x m m) := hc
                      go_wp2_with fail
                      generalize hX0 : wo.drewN q5 = X0 at hcX ⊢
                      have HX : Hid (wo.drewN q5 = X0) := hX0
                      clear hX0 hc
                      go_quiet ((go_at_call 14; exact Calls.quiet_of (HC.out _ (by rw [World.heap_drewN, ← HX.out, World.heap_drewN]))))
                      go_wp2_with fail
                      go_roundw
                      case rel =>
                        exact ⟨k5 + 1, q5 + nq, v, by omega, rfl, by go_num, HU2, hvN, by rw [← HX.out, World.drewN_drewN]⟩
                      case measure => simp [intOf]; omega
                    · have huN' : ((u : Int) == (N : Int)) = true := by
                        have h1 := HU.out
                        have h2 := HN.out
                        obtain rfl : k5 = n2 := by omega
                        rw [beq_iff_eq]
                        omega
                      go_wp2_with fail
                      go_ret
                      exact ⟨rfl, below_drewN b7 _⟩
end Go.Proofs.Qxb6613217a.B
