import Derived.Test.Qxb6614050aRows
import Derived.WalkKit
import Derived.ProofKit
import Derived.OpenShut
import Derived.ShutString
import Derived.WalkSpells
import Derived.WalkLawsBesides
import Derived.Outline
import Derived.LaidEqlPtr
namespace Go.Proofs.Qxb6614050a.fnDamagedFreshEachCall
open Go.ChangeShapes Go.WideShapes Go.ChangeAt Go.RowKit

set_option maxHeartbeats 400000 in
theorem bytes_yes (a0 : ByteArray) (a1 : Int) (a2 : ByteArray) (h : a0.size + a2.size ≤ 1048576) (w : World) :
    Calls Try.prog 4 #[.string a0, .int .i64 a1, .string a2] w fun e w' => e = .returned (.bool true) ∧ w' = w := by
  go_enter Try.func4, Try.ntmps4
  go_wp2
  go_ret
  exact ⟨rfl, rfl⟩

set_option maxHeartbeats 400000 in
theorem bytes_no (a0 : ByteArray) (a1 : Int) (a2 : ByteArray) (h0 : a0.size ≤ maxLen) (h2 : a2.size ≤ maxLen) (h : ¬ a0.size + a2.size ≤ 1048576) (w : World) :
    Calls Try.prog 4 #[.string a0, .int .i64 a1, .string a2] w fun e w' => e = .returned (.bool false) ∧ w' = w := by
  unfold maxLen at h0 h2
  by_cases g0 : a0.size ≤ 1048576
  · by_cases g2 : a2.size ≤ 1048576
    all_goals
      go_enter Try.func4, Try.ntmps4
      go_wp2
      go_ret
      exact ⟨rfl, rfl⟩
  · go_enter Try.func4, Try.ntmps4
    go_wp2
    go_ret
    exact ⟨rfl, rfl⟩

set_option maxHeartbeats 400000 in
theorem damaged_any (a0 : ByteArray) (a1 : Int) (a2 : ByteArray) (w : World) :
    Calls Try.prog 6 #[.string a0, .int .i64 a1, .string a2] w fun e w' => e = .returned (.iface 23 (.pointer (some ⟨w.heap.size, 0, none⟩))) ∧ w' = w.alloc (.cells #[.string a0, .int .i64 a1, .string a2] 26) := by
  go_enter Try.func6, Try.ntmps6
  go_wp2
  go_ret
  exact ⟨rfl, rfl⟩

theorem assert23 (a : Addr) (w : World) : (Instr.typeAssert (.iface 23 (.pointer (some a))) 29 23 true).run Try.prog w = .ok (.tuple #[.pointer (some a), .bool true]) w := by kernel_rfl

set_option maxHeartbeats 400000 in
theorem zzdamaged_any (a0 : ByteArray) (a1 : Int) (a2 : ByteArray) (w : World) :
    Calls Try.prog 5 #[.string a0, .int .i64 a1, .string a2] w fun e w' => e = .returned (.pointer (some ⟨w.heap.size, 0, none⟩)) ∧ w' = w.alloc (.cells #[.string a0, .int .i64 a1, .string a2] 26) := by
  have ha := assert23
  go_enter Try.func5, Try.ntmps5
  go_wp2_with (go_at_call 6; refine (damaged_any _ _ _ _).mono ?_; rintro e w' ⟨rfl, rfl⟩)
  go_ret
  exact ⟨rfl, rfl⟩

theorem ptr_other (w : World) (x y z : Value) : (binOp .eql 23 (.pointer (some ⟨w.heap.size, 0, none⟩)) (.pointer (some ⟨w.heap.size + 1, 0, none⟩))).run Try.prog ((w.alloc (.cells #[x, y, z] 26)).alloc (.cells #[x, y, z] 26)) = .ok (.bool false) ((w.alloc (.cells #[x, y, z] 26)).alloc (.cells #[x, y, z] 26)) := by
  refine run_eql_ptr_other (ca := #[x, y, z]) (cb := #[x, y, z]) (ta := 26) (tb := 26) (te := 26) (j := (Try.prog.info? 26).getD default) _ Try.underlying23 (by kernel_rfl) (by decide +kernel) (by simp) ?_ ?_
  · show ((w.heap.push _).push _)[w.heap.size]? = _
    simp only [Array.getElem?_push, Array.size_push]; rw [if_neg (by omega), if_pos trivial]
  · show ((w.heap.push _).push _)[w.heap.size + 1]? = _
    simp only [Array.getElem?_push, Array.size_push]; rw [if_pos trivial]

set_option maxHeartbeats 400000 in
theorem law_no (a0 : ByteArray) (a1 : Int) (a2 : ByteArray) (h0 : a0.size ≤ maxLen) (h2 : a2.size ≤ maxLen) (h : ¬ a0.size + a2.size ≤ 1048576) (w : World) :
    Calls Try.prog 3 #[.string a0, .int .i64 a1, .string a2] w fun e w' => e = .returned (.bool true) ∧ w' = w := by
  go_enter Try.func3, Try.ntmps3
  go_wp2_with (go_at_call 4; refine (bytes_no _ _ _ h0 h2 h _).mono ?_; rintro e w' ⟨rfl, rfl⟩)
  go_ret
  exact ⟨rfl, rfl⟩

set_option maxHeartbeats 400000 in
theorem law_long (a0 : ByteArray) (a1 : Int) (a2 : ByteArray) (h : a0.size + a2.size ≤ 1048576) (g : 262144 < a0.size ∨ (a0.size ≤ 262144 ∧ 262144 < a2.size)) (w : World) :
    Calls Try.prog 3 #[.string a0, .int .i64 a1, .string a2] w fun e w' => e = .returned (.bool true) ∧ w' = w := by
  rcases g with g | ⟨g, g'⟩
  all_goals
    go_enter Try.func3, Try.ntmps3
    go_wp2_with (go_at_call 4; refine (bytes_yes _ _ _ h _).mono ?_; rintro e w' ⟨rfl, rfl⟩)
    go_ret
    exact ⟨rfl, rfl⟩

set_option maxHeartbeats 400000 in
theorem law_yes (a0 : ByteArray) (a1 : Int) (a2 : ByteArray) (h : a0.size + a2.size ≤ 1048576) (g0 : a0.size ≤ 262144) (g2 : a2.size ≤ 262144) (w : World) :
    Calls Try.prog 3 #[.string a0, .int .i64 a1, .string a2] w fun e w' => e = .returned (.bool true) ∧ Grown w w' := by
  have hp := ptr_other w (.string a0) (.int .i64 a1) (.string a2)
  go_enter Try.func3, Try.ntmps3
  go_wp2_with (first | (go_at_call 4; refine (bytes_yes _ _ _ h _).mono ?_; rintro e w' ⟨rfl, rfl⟩) | (go_at_call 5; refine (zzdamaged_any _ _ _ _).mono ?_; rintro e w' ⟨rfl, rfl⟩))
  go_ret
  exact ⟨rfl, by repeat (first | exact Grown.refl _ | apply Grown.drew | apply Grown.alloc)⟩

theorem walk (a0 : ByteArray) (a1 : Int) (a2 : ByteArray) (w0 : a0.size ≤ maxLen) (_w1 : (Lit.int .i64 a1).wf = true) (w2 : a2.size ≤ maxLen) (w : World) :
    Calls Try.prog 3 #[.string a0, .int .i64 a1, .string a2] w fun e w' => e = .returned (.bool true) ∧ Grown w w' := by
  by_cases h : a0.size + a2.size ≤ 1048576
  · by_cases g0 : a0.size ≤ 262144
    · by_cases g2 : a2.size ≤ 262144
      · exact law_yes a0 a1 a2 h g0 g2 w
      · refine (law_long a0 a1 a2 h (Or.inr ⟨g0, by omega⟩) w).mono ?_
        rintro e w' ⟨rfl, rfl⟩
        exact ⟨rfl, Grown.refl _⟩
    · refine (law_long a0 a1 a2 h (Or.inl (by omega)) w).mono ?_
      rintro e w' ⟨rfl, rfl⟩
      exact ⟨rfl, Grown.refl _⟩
  · refine (law_no a0 a1 a2 w0 w2 h w).mono ?_
    rintro e w' ⟨rfl, rfl⟩
    exact ⟨rfl, Grown.refl _⟩
end Go.Proofs.Qxb6614050a.fnDamagedFreshEachCall
