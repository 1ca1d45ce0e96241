import Derived.Test.Qxb6614029aLawApart
namespace Go.Proofs.Qxb6614029a.B
open Go.ChangeShapes Go.WideShapes Go.ChangeAt Go.RowKit

theorem or16 (p y : Nat) (hy : y < 256) (h : 256 * p + y < 65536) : bits .or .u16 ((256 * p : Nat) : Int) (y : Int) = ((256 * p + y : Nat) : Int) := by
  rw [u16_or_nat _ _ (by omega) (by omega)]
  rw [Nat.two_pow_add_eq_or_of_lt (i := 8) hy p]
theorem or32 (k p y : Nat) (hy : y < 2 ^ k) (h : 2 ^ k * p + y < 4294967296) : bits .or .u32 ((2 ^ k * p : Nat) : Int) (y : Int) = ((2 ^ k * p + y : Nat) : Int) := by
  rw [u32_or_nat _ _ (by omega) (by omega)]
  rw [Nat.two_pow_add_eq_or_of_lt hy p]
theorem back16 (v : Int) (h0 : 0 ≤ v) (h1 : v ≤ 65535) : bits .or .u16 (v / 256 * 256) (v % 256) = v := by
  obtain ⟨m, rfl⟩ := Int.eq_ofNat_of_zero_le h0
  have := or16 (m / 256) (m % 256) (by omega) (by omega)
  rw [show (m : Int) / 256 * 256 = ((256 * (m / 256) : Nat) : Int) by omega, show (m : Int) % 256 = ((m % 256 : Nat) : Int) by omega, this]
  omega
theorem back32 (v : Int) (h0 : 0 ≤ v) (h1 : v ≤ 4294967295) : bits .or .u32 (bits .or .u32 (bits .or .u32 (v / 16777216 * 16777216) (v / 65536 % 256 * 65536)) (v / 256 % 256 * 256)) (v % 256) = v := by
  obtain ⟨m, rfl⟩ := Int.eq_ofNat_of_zero_le h0
  have a1 := or32 24 (m / 16777216) (65536 * (m / 65536 % 256)) (by omega) (by omega)
  have a2 := or32 16 (256 * (m / 16777216) + m / 65536 % 256) (256 * (m / 256 % 256)) (by omega) (by omega)
  have a3 := or32 8 (65536 * (m / 16777216) + 256 * (m / 65536 % 256) + m / 256 % 256) (m % 256) (by omega) (by omega)
  rw [show (m : Int) / 16777216 * 16777216 = ((2 ^ 24 * (m / 16777216) : Nat) : Int) by omega, show (m : Int) / 65536 % 256 * 65536 = ((65536 * (m / 65536 % 256) : Nat) : Int) by omega, a1,
    show ((2 ^ 24 * (m / 16777216) + 65536 * (m / 65536 % 256) : Nat) : Int) = ((2 ^ 16 * (256 * (m / 16777216) + m / 65536 % 256) : Nat) : Int) by omega, show (m : Int) / 256 % 256 * 256 = ((256 * (m / 256 % 256) : Nat) : Int) by omega, a2,
    show ((2 ^ 16 * (256 * (m / 16777216) + m / 65536 % 256) + 256 * (m / 256 % 256) : Nat) : Int) = ((2 ^ 8 * (65536 * (m / 16777216) + 256 * (m / 65536 % 256) + m / 256 % 256) : Nat) : Int) by omega, show (m : Int) % 256 = ((m % 256 : Nat) : Int) by omega, a3]
  omega

theorem ret_int {k : IntKind} {a b : Int} (h : a = b) : Ending.returned (.int k a) = .returned (.int k b) := by rw [h]

set_option maxHeartbeats 1000000 in
theorem readU16 (a : Option Addr) (n c : Nat) (f : Nat → Int) (i : Nat) (v : Int) (w : World) (hf : Rd .u8 w a n f) (hi : i + 1 < n) (hn : n ≤ 8388608) (hv0 : 0 ≤ v) (hv1 : v ≤ 65535) (e0 : f i = v / 256) (e1 : f (i + 1) = v % 256) :
    Calls Try.prog 9 #[.slice a n c, .int .i64 (i : Int)] w fun e w' => e = .returned (.int .u16 v) ∧ ∃ q, w' = w.drewN q := by
  have x0 := ix24 a n c i hf.1 (by omega)
  have x1 := ix24 a n c (i + 1) hf.1 hi
  rw [show ((i + 1 : Nat) : Int) = (i : Int) + 1 from by omega] at x1
  have k0 := hf.2 i (by omega)
  have k1 := hf.2 (i + 1) hi
  rw [e0] at k0
  rw [e1] at k1
  clear e0 e1
  go_enter Try.func9, Try.ntmps9
  go_wp2
  go_quiet (fail)
  go_wp2
  go_ret
  exact ⟨ret_int (back16 v hv0 hv1), _, rfl⟩

set_option maxHeartbeats 1000000 in
theorem readU32 (a : Option Addr) (n c : Nat) (f : Nat → Int) (i : Nat) (v : Int) (w : World) (hf : Rd .u8 w a n f) (hi : i + 3 < n) (hn : n ≤ 8388608) (hv0 : 0 ≤ v) (hv1 : v ≤ 4294967295) (e0 : f i = v / 16777216) (e1 : f (i + 1) = v / 65536 % 256) (e2 : f (i + 2) = v / 256 % 256) (e3 : f (i + 3) = v % 256) :
    Calls Try.prog 10 #[.slice a n c, .int .i64 (i : Int)] w fun e w' => e = .returned (.int .u32 v) ∧ ∃ q, w' = w.drewN q := by
  have x0 := ix24 a n c i hf.1 (by omega)
  have x1 := ix24 a n c (i + 1) hf.1 (by omega)
  have x2 := ix24 a n c (i + 2) hf.1 (by omega)
  have x3 := ix24 a n c (i + 3) hf.1 hi
  rw [show ((i + 1 : Nat) : Int) = (i : Int) + 1 from by omega] at x1
  rw [show ((i + 2 : Nat) : Int) = (i : Int) + 2 from by omega] at x2
  rw [show ((i + 3 : Nat) : Int) = (i : Int) + 3 from by omega] at x3
  have k0 := hf.2 i (by omega)
  have k1 := hf.2 (i + 1) (by omega)
  have k2 := hf.2 (i + 2) (by omega)
  have k3 := hf.2 (i + 3) hi
  rw [e0] at k0
  rw [e1] at k1
  rw [e2] at k2
  rw [e3] at k3
  clear e0 e1 e2 e3
  go_enter Try.func10, Try.ntmps10
  go_wp2
  go_quiet (fail)
  go_wp2
  go_ret
  exact ⟨ret_int (back32 v hv0 hv1), _, rfl⟩
end Go.Proofs.Qxb6614029a.B
