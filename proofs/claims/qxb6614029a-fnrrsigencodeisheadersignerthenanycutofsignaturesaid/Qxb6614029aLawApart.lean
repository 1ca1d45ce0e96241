import Derived.Test.Qxb6614029aPlain
namespace Go.Proofs.Qxb6614029a.B
open Go.ChangeShapes Go.WideShapes Go.ChangeAt Go.RowKit

set_option maxRecDepth 100000 in
set_option maxHeartbeats 1000000 in
theorem bytes11_yes (v0 v1 v2 v3 v4 v5 v6 : Value) (s1 : ByteArray) (a1 : Option Addr) (n1 c1 : Nat) (s2 : ByteArray) (a2 : Option Addr) (n2 c2 : Nat) (w : World) (h : s1.size + n1 + s2.size + n2 ≤ 1048576) :
    Calls Try.prog 11 #[v0, v1, v2, v3, v4, v5, v6, .string s1, .slice a1 n1 c1, .string s2, .slice a2 n2 c2] w fun e w' => e = .returned (.bool true) ∧ w' = w := by
  go_enter Try.func11, Try.ntmps11
  go_wp2
  go_ret
  exact ⟨rfl, rfl⟩

set_option maxRecDepth 100000 in
set_option maxHeartbeats 4000000 in
theorem bytes11_no (v0 v1 v2 v3 v4 v5 v6 : Value) (s1 : ByteArray) (a1 : Option Addr) (n1 c1 : Nat) (s2 : ByteArray) (a2 : Option Addr) (n2 c2 : Nat) (w : World) (h1 : s1.size ≤ maxLen) (h2 : n1 ≤ maxLen) (h3 : s2.size ≤ maxLen) (h4 : n2 ≤ maxLen) (h : ¬ s1.size + n1 + s2.size + n2 ≤ 1048576) :
    Calls Try.prog 11 #[v0, v1, v2, v3, v4, v5, v6, .string s1, .slice a1 n1 c1, .string s2, .slice a2 n2 c2] w fun e w' => e = .returned (.bool false) ∧ w' = w := by
  unfold maxLen at h1 h2 h3 h4
  have hc : (1048576 < s1.size) ∨ (s1.size ≤ 1048576 ∧ 1048576 < n1) ∨ (s1.size ≤ 1048576 ∧ n1 ≤ 1048576 ∧ 1048576 < s1.size + n1) ∨ (s1.size + n1 ≤ 1048576 ∧ 1048576 < s2.size) ∨ (s1.size + n1 ≤ 1048576 ∧ s2.size ≤ 1048576 ∧ 1048576 < s1.size + n1 + s2.size) ∨
      (s1.size + n1 + s2.size ≤ 1048576 ∧ 1048576 < n2) ∨ (s1.size + n1 + s2.size ≤ 1048576 ∧ n2 ≤ 1048576 ∧ 1048576 < s1.size + n1 + s2.size + n2) := by omega
  clear h
  rcases hc with g | ⟨g, g'⟩ | ⟨g, g', g''⟩ | ⟨g, g'⟩ | ⟨g, g', g''⟩ | ⟨g, g'⟩ | ⟨g, g', g''⟩
  all_goals
    go_enter Try.func11, Try.ntmps11
    go_wp2
    go_ret
    exact ⟨rfl, rfl⟩

theorem four_below (w : World) (o1 o2 o3 o4 : Obj) : Below w.heap.size w ((((w.alloc o1).alloc o2).alloc o3).alloc o4) :=
  ((((Below.refl _ _).alloc (Nat.le_refl _) o1).alloc (by simp) o2).alloc (by simp; omega) o3).alloc (by simp; omega) o4
theorem four_third {w X : World} {o1 o2 o3 o4 : Obj} (b : Below ((((w.alloc o1).alloc o2).alloc o3).alloc o4).heap.size ((((w.alloc o1).alloc o2).alloc o3).alloc o4) X) : X.heap[w.heap.size + 1 + 1]? = some o3 := by
  rw [b.block _ (by simp)]
  show ((((w.heap.push _).push _).push _).push _)[w.heap.size + 1 + 1]? = _
  simp only [Array.getElem?_push, Array.size_push]
  rw [if_neg (by omega), if_pos trivial]
theorem nine {X : World} {b : Nat} {v0 v1 v2 v3 v4 v5 v6 v7 v8 : Value} (h : X.heap[b]? = some (.cells #[v0, v1, v2, v3, v4, v5, v6, v7, v8] 32 (0, 0))) :
    X.cell? ⟨b, 0, none⟩ = some v0 ∧ X.cell? ⟨b, 1, none⟩ = some v1 ∧ X.cell? ⟨b, 2, none⟩ = some v2 ∧ X.cell? ⟨b, 3, none⟩ = some v3 ∧ X.cell? ⟨b, 4, none⟩ = some v4 ∧
    X.cell? ⟨b, 5, none⟩ = some v5 ∧ X.cell? ⟨b, 6, none⟩ = some v6 ∧ X.cell? ⟨b, 7, none⟩ = some v7 ∧ X.cell? ⟨b, 8, none⟩ = some v8 := by
  refine ⟨?_, ?_, ?_, ?_, ?_, ?_, ?_, ?_, ?_⟩ <;> (rw [cell_of_row X b _ _ 32 (0, 0) h]; rfl)

theorem bytes_ext {s1 s2 : ByteArray} (h : s1.toList = s2.toList) : s1 = s2 := by
  rw [ByteArray.toList_eq, ByteArray.toList_eq] at h
  exact WideShapes.bytes_inj h

theorem be_true' (a : Option Addr) (n c : Nat) (f : Nat → Int) (b : Option Addr) (m cb : Nat) (g : Nat → Int) (w : World) (hn : n ≤ 8388608) (hf : Rd .u8 w a n f) (hg : Rd .u8 w b m g) (hnm : n = m) (he : ∀ j, j < n → f j = g j) :
    Calls Try.prog 12 #[.slice a n c, .slice b m cb] w fun e w' => e = .returned (.bool true) ∧ ∃ q, w' = w.drewN q := by
  subst hnm; exact be_true a n c f b cb g w hn hf hg he

set_option maxRecDepth 100000 in
set_option maxHeartbeats 4000000 in
theorem apart_main (tc al lb t ex ic kt : Int) (s1 : ByteArray) (a1 : Option Addr) (n1 c1 : Nat) (g1 : Nat → Int) (s2 : ByteArray) (a2 : Option Addr) (n2 c2 : Nat) (g2 : Nat → Int) (w : World)
    (t0 : 0 ≤ tc) (t1 : tc ≤ 65535) (u0 : 0 ≤ t) (u1 : t ≤ 4294967295) (v0 : 0 ≤ ex) (v1 : ex ≤ 4294967295) (y0 : 0 ≤ ic) (y1 : ic ≤ 4294967295) (z0 : 0 ≤ kt) (z1 : kt ≤ 65535)
    (r1 : Rd .u8 w a1 n1 g1) (d1 : a1 = none → c1 = 0) (r2 : Rd .u8 w a2 n2 g2) (d2 : a2 = none → c2 = 0) (h : s1.size + n1 + s2.size + n2 ≤ 1048576) (h1 : s1.size ≤ 262144) (h2 : n1 ≤ 262144) (h3 : s2.size ≤ 262144) (h4 : n2 ≤ 262144) :
    Calls Try.prog 4 #[.int .u16 tc, .int .u8 al, .int .u8 lb, .int .u32 t, .int .u32 ex, .int .u32 ic, .int .u16 kt, .string s1, .slice a1 n1 c1, .string s2, .slice a2 n2 c2] w fun e w' => e = .returned (.bool true) ∧ Below w.heap.size w w' := by
  go_enter Try.func4, Try.ntmps4
  go_wp2_with fail
  refine (bytes11_yes _ _ _ _ _ _ _ _ _ _ _ _ _ _ _ _ h).mono ?_
  rintro e wx ⟨rfl, hw⟩
  replace hw := hw.symm; subst hw
  go_wp2_with fail
  refine (wellFormed s1 (by unfold maxLen; omega) _).mono ?_
  rintro e wx ⟨rfl | ⟨rfl, f1, _⟩, hw⟩
  · replace hw := hw.symm; subst hw
    go_wp2_with fail
    go_ret
    exact ⟨rfl, Below.refl _ _⟩
  replace hw := hw.symm; subst hw
  go_wp2_with fail
  refine (wellFormed s2 (by unfold maxLen; omega) _).mono ?_
  rintro e wx ⟨rfl | ⟨rfl, f2, _⟩, hw⟩
  · replace hw := hw.symm; subst hw
    go_wp2_with fail
    go_ret
    exact ⟨rfl, Below.refl _ _⟩
  replace hw := hw.symm; subst hw
  go_wp2_with fail
  refine (nameFrom s1 _).mono ?_
  rintro e wx ⟨rfl, rfl⟩
  go_wp2_with fail
  refine (nameFrom s2 _).mono ?_
  rintro e wx ⟨rfl, rfl⟩
  go_wp2_with fail
  refine (encode tc al lb t ex ic kt s1 a1 n1 c1 g1 (by omega) (by omega) _ (r1.below (four_below _ _ _ _ _) (Nat.le_refl _)) d1 t0 t1 u0 u1 v0 v1 y0 y1 z0 z1).mono ?_
  rintro e w5 ⟨aa, ca, rfl, oa, ba⟩
  obtain ⟨k0, k1, k2, k3, k4, k5, k6, k7, k8⟩ := nine (four_third ba)
  replace ba := (four_below w _ _ _ _).trans (ba.mono (four_below w _ _ _ _).size)
  replace oa := oa.rd
  replace r1 := r1.below ba (Nat.le_refl _)
  replace r2 := r2.below ba (Nat.le_refl _)
  go_wp2_with fail
  refine (encode tc al lb t ex ic kt s2 a2 n2 c2 g2 (by omega) (by omega) _ r2 d2 t0 t1 u0 u1 v0 v1 y0 y1 z0 z1).mono ?_
  rintro e w6 ⟨ab, cb, rfl, ob, bb⟩
  replace oa := oa.below bb (Nat.le_refl _)
  replace ob := ob.rd
  replace r1 := r1.below bb (Nat.le_refl _)
  replace r2 := r2.below bb (Nat.le_refl _)
  replace ba := ba.trans (bb.mono ba.size)
  clear k0 k1 k2 k3 k4 k5 k6 k7 k8 bb
  change Rd .u8 w6 aa _ (enc (hdr tc al lb t ex ic kt) s1 g1) at oa
  change Rd .u8 w6 ab _ (enc (hdr tc al lb t ex ic kt) s2 g2) at ob
  generalize hdr tc al lb t ex ic kt = H at oa ob
  by_cases hss : s1.toList = s2.toList
  · have HS : Hid (s1 = s2) := bytes_ext hss
    go_wp2_with fail
    by_cases hg : n1 = n2 ∧ ∀ j, j < n1 → g1 j = g2 j
    · have HG : Hid (n1 = n2 ∧ ∀ j, j < n1 → g1 j = g2 j) := hg
      clear hg
      refine (be_true' a1 n1 c1 g1 a2 n2 c2 g2 _ (by omega) r1 r2 HG.out.1 HG.out.2).mono ?_
      rintro e w7 ⟨rfl, q, rfl⟩
      go_wp2_with fail
      refine (be_true' aa _ ca _ ab _ cb _ _ (by omega) (oa.drewN q) (ob.drewN q) (by rw [HS.out, HG.out.1]) (fun j hj => ?_)).mono ?_
      · have e1 := HS.out
        subst e1
        exact tells_same H s1 n1 g1 g2 HG.out.2 j hj
      rintro e w8 ⟨rfl, q', rfl⟩
      go_wp2_with fail
      go_ret
      exact ⟨rfl, below_drewN ba _⟩
    · have HG : Hid (¬ (n1 = n2 ∧ ∀ j, j < n1 → g1 j = g2 j)) := hg
      clear hg
      refine (be_false a1 n1 c1 g1 a2 n2 c2 g2 _ (by omega) r1 r2 HG.out).mono ?_
      rintro e w7 ⟨rfl, q, rfl⟩
      go_wp2_with fail
      refine (be_false aa _ ca _ ab _ cb _ _ (by omega) (oa.drewN q) (ob.drewN q) (fun hh => HG.out (tells H s1 s2 n1 n2 g1 g2 f1 f2 hh.1 hh.2).2)).mono ?_
      rintro e w8 ⟨rfl, q', rfl⟩
      go_wp2_with fail
      go_ret
      exact ⟨rfl, below_drewN ba _⟩
  · have HS : Hid (¬ s1 = s2) := fun e => hss (by rw [e])
    go_wp2_with fail
    refine (be_false aa _ ca _ ab _ cb _ _ (by omega) oa ob (fun hh => HS.out (tells H s1 s2 n1 n2 g1 g2 f1 f2 hh.1 hh.2).1)).mono ?_
    rintro e w8 ⟨rfl, q', rfl⟩
    go_wp2_with fail
    go_ret
    exact ⟨rfl, below_drewN ba _⟩
end Go.Proofs.Qxb6614029a.B
