import Derived.Test.Qxb6614029aRead
namespace Go.Proofs.Qxb6614029a.B
open Go.ChangeShapes Go.WideShapes Go.ChangeAt Go.RowKit

set_option maxRecDepth 100000 in
set_option maxHeartbeats 1000000 in
theorem bytes5_yes (v0 v1 v2 v3 v4 v5 v6 v9 : Value) (s1 : ByteArray) (a1 : Option Addr) (n1 c1 : Nat) (w : World) (h : s1.size + n1 ≤ 1048576) :
    Calls Try.prog 5 #[v0, v1, v2, v3, v4, v5, v6, .string s1, .slice a1 n1 c1, v9] w fun e w' => e = .returned (.bool true) ∧ w' = w := by
  go_enter Try.func5, Try.ntmps5
  go_wp2
  go_ret
  exact ⟨rfl, rfl⟩

set_option maxRecDepth 100000 in
set_option maxHeartbeats 4000000 in
theorem bytes5_no (v0 v1 v2 v3 v4 v5 v6 v9 : Value) (s1 : ByteArray) (a1 : Option Addr) (n1 c1 : Nat) (w : World) (h1 : s1.size ≤ maxLen) (h2 : n1 ≤ maxLen) (h : ¬ s1.size + n1 ≤ 1048576) :
    Calls Try.prog 5 #[v0, v1, v2, v3, v4, v5, v6, .string s1, .slice a1 n1 c1, v9] w fun e w' => e = .returned (.bool false) ∧ w' = w := by
  unfold maxLen at h1 h2
  have hc : (1048576 < s1.size) ∨ (s1.size ≤ 1048576 ∧ 1048576 < n1) ∨ (s1.size ≤ 1048576 ∧ n1 ≤ 1048576 ∧ 1048576 < s1.size + n1) := by omega
  clear h
  rcases hc with g | ⟨g, g'⟩ | ⟨g, g', g''⟩
  all_goals
    go_enter Try.func5, Try.ntmps5
    go_wp2
    go_ret
    exact ⟨rfl, rfl⟩

theorem readU16' (a : Option Addr) (n c : Nat) (f : Nat → Int) (z : Int) (i : Nat) (hz : (i : Int) = z) (v : Int) (w : World) (hf : Rd .u8 w a n f) (hi : i + 1 < n) (hn : n ≤ 8388608) (hv0 : 0 ≤ v) (hv1 : v ≤ 65535) (e0 : f i = v / 256) (e1 : f (i + 1) = v % 256) :
    Calls Try.prog 9 #[.slice a n c, .int .i64 z] w fun e w' => e = .returned (.int .u16 v) ∧ ∃ q, w' = w.drewN q := by
  subst hz; exact readU16 a n c f i v w hf hi hn hv0 hv1 e0 e1
theorem readU32' (a : Option Addr) (n c : Nat) (f : Nat → Int) (z : Int) (i : Nat) (hz : (i : Int) = z) (v : Int) (w : World) (hf : Rd .u8 w a n f) (hi : i + 3 < n) (hn : n ≤ 8388608) (hv0 : 0 ≤ v) (hv1 : v ≤ 4294967295) (e0 : f i = v / 16777216) (e1 : f (i + 1) = v / 65536 % 256) (e2 : f (i + 2) = v / 256 % 256) (e3 : f (i + 3) = v % 256) :
    Calls Try.prog 10 #[.slice a n c, .int .i64 z] w fun e w' => e = .returned (.int .u32 v) ∧ ∃ q, w' = w.drewN q := by
  subst hz; exact readU32 a n c f i v w hf hi hn hv0 hv1 e0 e1 e2 e3

theorem hdr_at (tc al lb t e i kt : Int) : (hdr tc al lb t e i kt 0 = tc / 256 ∧ hdr tc al lb t e i kt (0 + 1) = tc % 256 ∧ hdr tc al lb t e i kt 2 = al ∧ hdr tc al lb t e i kt 3 = lb) ∧
    (hdr tc al lb t e i kt 4 = t / 16777216 ∧ hdr tc al lb t e i kt (4 + 1) = t / 65536 % 256 ∧ hdr tc al lb t e i kt (4 + 2) = t / 256 % 256 ∧ hdr tc al lb t e i kt (4 + 3) = t % 256) ∧
    (hdr tc al lb t e i kt 8 = e / 16777216 ∧ hdr tc al lb t e i kt (8 + 1) = e / 65536 % 256 ∧ hdr tc al lb t e i kt (8 + 2) = e / 256 % 256 ∧ hdr tc al lb t e i kt (8 + 3) = e % 256) ∧
    (hdr tc al lb t e i kt 12 = i / 16777216 ∧ hdr tc al lb t e i kt (12 + 1) = i / 65536 % 256 ∧ hdr tc al lb t e i kt (12 + 2) = i / 256 % 256 ∧ hdr tc al lb t e i kt (12 + 3) = i % 256) ∧
    (hdr tc al lb t e i kt 16 = kt / 256 ∧ hdr tc al lb t e i kt (16 + 1) = kt % 256) := by
  simp [hdr, app, two, four]

theorem two_second {w X : World} {o1 o2 : Obj} (b : Below ((w.alloc o1).alloc o2).heap.size ((w.alloc o1).alloc o2) X) : X.heap[w.heap.size + 1]? = some o2 := by
  rw [b.block _ (by simp)]
  exact heap_second w o1 o2

set_option maxRecDepth 100000 in
set_option maxHeartbeats 4000000 in
theorem cut_main (tc al lb t ex ic kt : Int) (s1 : ByteArray) (a1 : Option Addr) (n1 c1 : Nat) (g1 : Nat → Int) (u : Nat) (w : World)
    (t0 : 0 ≤ tc) (t1 : tc ≤ 65535) (u0 : 0 ≤ t) (u1 : t ≤ 4294967295) (v0 : 0 ≤ ex) (v1 : ex ≤ 4294967295) (y0 : 0 ≤ ic) (y1 : ic ≤ 4294967295) (z0 : 0 ≤ kt) (z1 : kt ≤ 65535)
    (r1 : Rd .u8 w a1 n1 g1) (d1 : a1 = none → c1 = 0) (hc : n1 ≤ c1) (h : s1.size + n1 ≤ 1048576) (h1 : s1.size ≤ 524288) (h2 : n1 ≤ 524288) (hu : u ≤ n1) :
    Calls Try.prog 3 #[.int .u16 tc, .int .u8 al, .int .u8 lb, .int .u32 t, .int .u32 ex, .int .u32 ic, .int .u16 kt, .string s1, .slice a1 n1 c1, .int .i64 (u : Int)] w fun e w' => e = .returned (.bool true) ∧ Below w.heap.size w w' := by
  go_enter Try.func3, Try.ntmps3
  go_wp2_with fail
  refine (bytes5_yes _ _ _ _ _ _ _ _ _ _ _ _ _ h).mono ?_
  rintro e wx ⟨rfl, hw⟩
  replace hw := hw.symm; subst hw
  go_wp2_with fail
  refine (wellFormed s1 (by unfold maxLen; omega) _).mono ?_
  rintro e wx ⟨rfl | ⟨rfl, _, _⟩, hw⟩
  · replace hw := hw.symm; subst hw
    go_wp2_with fail
    go_ret
    exact ⟨rfl, Below.refl _ _⟩
  replace hw := hw.symm; subst hw
  go_wp2_with fail
  refine (nameFrom s1 _).mono ?_
  rintro e wx ⟨rfl, rfl⟩
  go_wp2_with fail
  refine (encode tc al lb t ex ic kt s1 a1 n1 c1 g1 (by omega) (by omega) _ (r1.below (Below.two (Nat.le_refl _) _ _) (Nat.le_refl _)) d1 t0 t1 u0 u1 v0 v1 y0 y1 z0 z1).mono ?_
  rintro e w5 ⟨aa, ca, rfl, oa, ba⟩
  obtain ⟨k0, k1, k2, k3, k4, k5, k6, k7, k8⟩ := nine (two_second ba)
  replace ba := (Below.two (Nat.le_refl w.heap.size) _ _).trans (ba.mono (Below.two (Nat.le_refl w.heap.size) _ _).size)
  replace oa := oa.rd
  replace r1 := r1.below ba (Nat.le_refl _)
  have hl5 : w.heap.size + 1 < w5.heap.size := World.block_lt_of_cell? w5 _ k0
  go_wp2_with fail
  have hb6 : Below w5.heap.size w5 (w5.alloc (.cells #[.int .u16 tc, .int .u8 al, .int .u8 lb, .int .u32 t, .int .u32 ex, .int .u32 ic, .int .u16 kt, .string s1, .slice a1 u c1] 32)) := (Below.refl _ _).alloc (Nat.le_refl _) _
  refine (encode tc al lb t ex ic kt s1 a1 u c1 g1 (by omega) (by omega) _ ((r1.take hu).below hb6 (Nat.le_refl _)) d1 t0 t1 u0 u1 v0 v1 y0 y1 z0 z1).mono ?_
  rintro e w6 ⟨ab, cb, rfl, ob, bb⟩
  replace bb := hb6.trans (bb.mono hb6.size)
  replace oa := oa.below bb (Nat.le_refl _)
  replace ob := ob.rd
  replace r1 := r1.below bb (Nat.le_refl _)
  replace ba := ba.trans (bb.mono ba.size)
  clear k0 k1 k2 k3 k4 k5 k6 k7 k8 bb hb6 hl5
  change Rd .u8 w6 aa _ (enc (hdr tc al lb t ex ic kt) s1 g1) at oa
  change Rd .u8 w6 ab _ (enc (hdr tc al lb t ex ic kt) s1 g1) at ob
  obtain ⟨⟨e0, e1, e2, e3⟩, ⟨e4, e5, e6, e7⟩, ⟨e8, e9, e10, e11⟩, ⟨e12, e13, e14, e15⟩, ⟨e16, e17⟩⟩ := hdr_at tc al lb t ex ic kt
  generalize hdr tc al lb t ex ic kt = H at *
  have E : ∀ {j : Nat} {z : Int}, H j = z → j < 18 → enc H s1 g1 j = z := fun hj hl => (enc_head H s1 g1 _ hl).trans hj
  have HE0 : Hid (enc H s1 g1 0 = tc / 256 ∧ enc H s1 g1 (0 + 1) = tc % 256) := ⟨E e0 (by omega), E e1 (by omega)⟩
  have HE4 : Hid (enc H s1 g1 4 = t / 16777216 ∧ enc H s1 g1 (4 + 1) = t / 65536 % 256 ∧ enc H s1 g1 (4 + 2) = t / 256 % 256 ∧ enc H s1 g1 (4 + 3) = t % 256) := ⟨E e4 (by omega), E e5 (by omega), E e6 (by omega), E e7 (by omega)⟩
  have HE8 : Hid (enc H s1 g1 8 = ex / 16777216 ∧ enc H s1 g1 (8 + 1) = ex / 65536 % 256 ∧ enc H s1 g1 (8 + 2) = ex / 256 % 256 ∧ enc H s1 g1 (8 + 3) = ex % 256) := ⟨E e8 (by omega), E e9 (by omega), E e10 (by omega), E e11 (by omega)⟩
  have HE12 : Hid (enc H s1 g1 12 = ic / 16777216 ∧ enc H s1 g1 (12 + 1) = ic / 65536 % 256 ∧ enc H s1 g1 (12 + 2) = ic / 256 % 256 ∧ enc H s1 g1 (12 + 3) = ic % 256) := ⟨E e12 (by omega), E e13 (by omega), E e14 (by omega), E e15 (by omega)⟩
  have HE16 : Hid (enc H s1 g1 16 = kt / 256 ∧ enc H s1 g1 (16 + 1) = kt % 256) := ⟨E e16 (by omega), E e17 (by omega)⟩
  have i2 : ∀ w : World, (Instr.indexAt 24 (.slice aa (18 + s1.size + n1) ca) (.int .i64 2)).run Try.prog w = .ok (.pointer (some (ad aa 2))) w := ix24 aa (18 + s1.size + n1) ca 2 oa.1 (by omega)
  have i3 : ∀ w : World, (Instr.indexAt 24 (.slice aa (18 + s1.size + n1) ca) (.int .i64 3)).run Try.prog w = .ok (.pointer (some (ad aa 3))) w := ix24 aa (18 + s1.size + n1) ca 3 oa.1 (by omega)
  have m2 : w6.cell? (ad aa 2) = some (.int .u8 al) := by rw [oa.2 2 (by omega), E e2 (by omega)]
  have m3 : w6.cell? (ad aa 3) = some (.int .u8 lb) := by rw [oa.2 3 (by omega), E e3 (by omega)]
  clear E e0 e1 e2 e3 e4 e5 e6 e7 e8 e9 e10 e11 e12 e13 e14 e15 e16 e17
  go_wp2_with fail
  refine (readU16' aa (18 + s1.size + n1) ca (enc H s1 g1) 0 0 rfl tc _ oa (by omega) (by omega) t0 t1 HE0.out.1 HE0.out.2).mono ?_
  rintro e wx ⟨rfl, q1, rfl⟩
  go_wp2_with fail
  clear i2 i3 m2 m3
  refine (readU32' aa (18 + s1.size + n1) ca (enc H s1 g1) 4 4 rfl t _ (oa.drewN _) (by omega) (by omega) u0 u1 HE4.out.1 HE4.out.2.1 HE4.out.2.2.1 HE4.out.2.2.2).mono ?_
  rintro e wx ⟨rfl, q2, rfl⟩
  go_wp2_with fail
  refine (readU32' aa (18 + s1.size + n1) ca (enc H s1 g1) 8 8 rfl ex _ (oa.drewN _) (by omega) (by omega) v0 v1 HE8.out.1 HE8.out.2.1 HE8.out.2.2.1 HE8.out.2.2.2).mono ?_
  rintro e wx ⟨rfl, q3, rfl⟩
  go_wp2_with fail
  refine (readU32' aa (18 + s1.size + n1) ca (enc H s1 g1) 12 12 rfl ic _ (oa.drewN _) (by omega) (by omega) y0 y1 HE12.out.1 HE12.out.2.1 HE12.out.2.2.1 HE12.out.2.2.2).mono ?_
  rintro e wx ⟨rfl, q4, rfl⟩
  go_wp2_with fail
  refine (readU16' aa (18 + s1.size + n1) ca (enc H s1 g1) 16 16 rfl kt _ (oa.drewN _) (by omega) (by omega) z0 z1 HE16.out.1 HE16.out.2).mono ?_
  rintro e wx ⟨rfl, q5, rfl⟩
  go_wp2_with fail
  clear HE0 HE4 HE8 HE12 HE16
  go_loopw [26] (fun i wz => ∃ k q : Nat, k ≤ s1.size ∧ i = .int .i64 k ∧ wz = w6.drewN q) (fun i _ => s1.size - (intOf i).toNat)
  case atStart => exact ⟨0, _, Nat.zero_le _, rfl, rfl⟩
  case round =>
    obtain ⟨ka, qa, hka, rfl, rfl⟩ := hrel
    by_cases hla : ka < s1.size
    · have i1 := ix24 aa (18 + s1.size + n1) ca (18 + ka) oa.1 (by omega)
      rw [show ((18 + ka : Nat) : Int) = 18 + (ka : Int) from by omega] at i1
      have i2 := run_index_string s1 ka hla
      have m1 : w6.cell? (ad aa (18 + ka)) = some (.int .u8 (sb s1 ka)) := by rw [oa.2 (18 + ka) (by omega), enc_name H s1 g1 ka hla]
      generalize sb s1 ka = z at i2 m1
      go_wp2_with fail
      go_quiet (fail)
      go_wp2
      go_roundw
      case rel => exact ⟨ka + 1, _, by omega, by go_num, rfl⟩
      case measure => simp [intOf]; omega
    · go_wp2_with fail
      go_loopw [27] (fun i wz => ∃ k q : Nat, k ≤ n1 ∧ i = .int .i64 k ∧ wz = w6.drewN q) (fun i _ => n1 - (intOf i).toNat)
      case atStart => exact ⟨0, _, Nat.zero_le _, rfl, rfl⟩
      case round =>
        clear hla hka
        obtain ⟨kb, qb, hkb, rfl, rfl⟩ := hrel
        by_cases hlb : kb < n1
        · have i1 := ix24 aa (18 + s1.size + n1) ca (18 + s1.size + kb) oa.1 (by omega)
          rw [show ((18 + s1.size + kb : Nat) : Int) = 18 + (s1.size : Int) + (kb : Int) from by omega] at i1
          have i2 := ix24 a1 n1 c1 kb r1.1 hlb
          have m1 : w6.cell? (ad aa (18 + s1.size + kb)) = some (.int .u8 (g1 kb)) := by rw [oa.2 (18 + s1.size + kb) (by omega), enc_sig H s1 g1 kb]
          have m2 := r1.2 kb hlb
          generalize g1 kb = z at m1 m2
          go_wp2_with fail
          go_quiet (fail)
          go_wp2
          go_roundw
          case rel => exact ⟨kb + 1, _, by omega, by go_num, rfl⟩
          case measure => simp [intOf]; omega
        · go_wp2_with fail
          go_loopw [28] (fun i wz => ∃ k q : Nat, k ≤ 18 + s1.size + u ∧ i = .int .i64 k ∧ wz = w6.drewN q) (fun i _ => 18 + s1.size + u - (intOf i).toNat)
          case atStart => exact ⟨0, _, Nat.zero_le _, rfl, rfl⟩
          case round =>
            clear hlb hkb
            obtain ⟨kc, qc, hkc, rfl, rfl⟩ := hrel
            by_cases hlc : kc < 18 + s1.size + u
            · have i1 := ix24 ab (18 + s1.size + u) cb kc ob.1 hlc
              have i2 := ix24 aa (18 + s1.size + n1) ca kc oa.1 (by omega)
              have m1 := ob.2 kc hlc
              have m2 := oa.2 kc (by omega)
              generalize enc H s1 g1 kc = z at m1 m2
              go_wp2_with fail
              go_quiet (fail)
              go_wp2
              go_roundw
              case rel => exact ⟨kc + 1, _, by omega, by go_num, rfl⟩
              case measure => simp [intOf]; omega
            · go_wp2_with fail
              go_ret
              exact ⟨rfl, below_drewN ba _⟩
end Go.Proofs.Qxb6614029a.B
