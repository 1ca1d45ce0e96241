import Derived.Test.Qxb6613217aWalksA
namespace Go.Proofs.Qxb6613217a.B
open Go.ChangeShapes Go.WideShapes Go.ChangeAt Go.RowKit

set_option maxHeartbeats 400000 in
theorem clone_ints (a : Option Addr) (n c : Nat) (f : Nat → Int) (hn : n ≤ 2097152) (w : World) (hr : Rd .i64 w a n f) :
    Calls Try.prog 8 #[.slice a n c] w fun e w' => ∃ a', e = .returned (.slice a' n n) ∧ Own w.heap.size w' 3 .i64 a' n n f ∧ Below w.heap.size w w' := by
  have q23 : ∀ (w : World) (a : Option Addr) (n c n' c' : Nat), (binOp .eql 23 (.slice a n c) (.slice none n' c')).run Try.prog w = .ok (.bool a.isNone) w := fun w a n c n' c' => Lib.run_eql_slice_nil w _ _ a n c n' c' Try.underlying23
  obtain ⟨i0, hi, hz0, hz1, hz2⟩ := info_parts info3
  cases a with
  | none =>
    obtain rfl := hr.1 rfl
    go_enter Try.func8, Try.ntmps8
    go_wp2
    go_ret
    exact ⟨none, rfl, World.ownsRow_nil _ _ _ _, Below.refl _ _⟩
  | some x =>
    go_enter Try.func8, Try.ntmps8
    go_wp2_with (at_make; refine wpList_make_full _ rfl _ _ 23 rfl w.heap.size 3 i0 (.int .i64 0) 1 Try.underlying23 hi hz0 hz1 _ _ _ _ n rfl rfl (by omega) (by omega) ?c1 ?c2 ?c3 ?_)
    case c1 => rw [hz2]; omega
    case c2 => unfold maxLen; omega
    case c3 => exact Nat.le_refl _
    intro w1 hown hgrow
    rw [cs_made .i64 n f] at hown
    have hb1 : Below w.heap.size w w1 := (Below.refl _ _).grown hgrow (Nat.le_refl _) (by simp)
    clear hgrow
    go_wp2
    go_loopw [4] (fun i wr => ∃ k : Nat, k ≤ n ∧ i = .int .i64 k ∧ wr.ownsRow w.heap.size 3 1 (.slice (some ⟨w.heap.size, 0, none⟩) n n) n (cs .i64 n (mix f k)) ∧ Below w.heap.size w wr) (fun i _ => n - (intOf i).toNat)
    case atStart => exact ⟨0, Nat.zero_le _, rfl, hown, hb1⟩
    case round =>
      obtain ⟨k, hk, rfl, ho, hb⟩ := hrel
      clear hown hb1
      by_cases hlt : k < n
      · have hc : wr.cell? (x.add k) = some (.int .i64 (f k)) := (hr.below hb (Nat.le_refl _)).2 k hlt
        have hfz := ho.frozenAt k
        have hct : wr.cell? ⟨w.heap.size, k, none⟩ = some (.int .i64 (mix f k k)) := (ho.cellAt k (by omega)).trans (cs_get _ _ _ _ hlt)
        have R := (ho.stored k (.int .i64 (f k)))
        rw [cs_set] at R
        have hb2 : Below w.heap.size w (wr.setCell ⟨w.heap.size, k, none⟩ (.int .i64 (f k))) := hb.setCell (Nat.le_refl _) _
        have R1 := R.1
        clear R ho hb
        go_wp2
        go_roundw
        case rel => exact ⟨k + 1, by omega, by go_num, R1, hb2⟩
        case measure => simp [intOf]; omega
      · go_wp2
        go_ret
        obtain rfl : k = n := by omega
        refine ⟨some ⟨w.heap.size, 0, none⟩, rfl, ?_, hb⟩
        unfold Own
        rw [cs_congr .i64 k f (mix f k) (fun j hj => by simp [mix, hj])]
        exact ho

set_option maxHeartbeats 400000 in
theorem bytes4_yes (a0 : Option Addr) (n0 c0 : Nat) (a1 : Option Addr) (n1 c1 : Nat) (a2 : Option Addr) (n2 c2 : Nat) (cut : Int) (h : n0 + n1 + n2 ≤ 1048576) (w : World) :
    Calls Try.prog 15 #[.slice a0 n0 c0, .slice a1 n1 c1, .slice a2 n2 c2, .int .i64 cut] w fun e w' => e = .returned (.bool true) ∧ w' = w := by
  go_enter Try.func15, Try.ntmps15
  go_wp2
  go_ret
  exact ⟨rfl, rfl⟩

set_option maxHeartbeats 1000000 in
theorem bytes4_no (a0 : Option Addr) (n0 c0 : Nat) (a1 : Option Addr) (n1 c1 : Nat) (a2 : Option Addr) (n2 c2 : Nat) (cut : Int) (h0 : n0 ≤ maxLen) (h1 : n1 ≤ maxLen) (h2 : n2 ≤ maxLen) (h : ¬ n0 + n1 + n2 ≤ 1048576) (w : World) :
    Calls Try.prog 15 #[.slice a0 n0 c0, .slice a1 n1 c1, .slice a2 n2 c2, .int .i64 cut] w fun e w' => e = .returned (.bool false) ∧ w' = w := by
  unfold maxLen at h0 h1 h2
  by_cases g0 : n0 ≤ 1048576
  · by_cases g1 : n1 ≤ 1048576
    · by_cases g3 : n0 + n1 ≤ 1048576
      · by_cases g2 : n2 ≤ 1048576
        all_goals
          go_enter Try.func15, Try.ntmps15
          go_wp2
          go_ret
          exact ⟨rfl, rfl⟩
      · go_enter Try.func15, Try.ntmps15
        go_wp2
        go_ret
        exact ⟨rfl, rfl⟩
    · go_enter Try.func15, Try.ntmps15
      go_wp2
      go_ret
      exact ⟨rfl, rfl⟩
  · go_enter Try.func15, Try.ntmps15
    go_wp2
    go_ret
    exact ⟨rfl, rfl⟩

/-- The test on the ends: it answers one way or the other, and turns nothing. -/
theorem ix23 (a : Option Addr) (n c k : Nat) (ha : a = none → n = 0) (hk : k < n) (w : World) : (Instr.indexAt 23 (.slice a n c) (.int .i64 (k : Int))).run Try.prog w = .ok (.pointer (some (ad a k))) w := by
  obtain ⟨i3, hi3, hz3, hs3, hb3⟩ := info_parts info3
  exact run_index 23 3 i3 Try.underlying23 hi3 hs3 a n c k ha hk w
theorem ix22 (a : Option Addr) (n c k : Nat) (ha : a = none → n = 0) (hk : k < n) (w : World) : (Instr.indexAt 22 (.slice a n c) (.int .i64 (k : Int))).run Try.prog w = .ok (.pointer (some (ad a k))) w := by
  obtain ⟨i3, hi3, hz3, hs3, hb3⟩ := info_parts info5
  exact run_index 22 5 i3 Try.underlying22 hi3 hs3 a n c k ha hk w

set_option maxHeartbeats 1000000 in
theorem reachable (a0 : Option Addr) (n0 c0 : Nat) (a1 : Option Addr) (n1 c1 : Nat) (f : Nat → Int) (w : World) (h1 : n1 ≤ 2097152) (hr : Rd .i64 w a1 n1 f) :
    Calls Try.prog 6 #[.slice a0 n0 c0, .slice a1 n1 c1] w fun e w' => (e = .returned (.bool false) ∨ e = .returned (.bool true)) ∧ w' = w := by
  go_enter Try.func6, Try.ntmps6
  go_wp2
  go_loop [5, 6, 7] (fun p i _ => ∃ (k : Nat) (q : Int), k ≤ n1 ∧ p = .int .i64 q ∧ i = .int .i64 k) (fun _ i _ => n1 - (intOf i).toNat)
  case atStart => exact ⟨0, 0, Nat.zero_le _, rfl, rfl⟩
  case round =>
    obtain ⟨k, q, hk, rfl, rfl⟩ := hrel
    by_cases hlt : k < n1
    · have hx := ix23 a1 n1 c1 k hr.1 hlt
      have hc := hr.2 k hlt
      generalize f k = z at *
      by_cases g1 : z < q
      · go_wp2
        go_ret
        exact ⟨Or.inl rfl, rfl⟩
      · by_cases g2 : (n0 : Int) < z
        · go_wp2
          go_ret
          exact ⟨Or.inl rfl, rfl⟩
        · go_wp2
          go_round
          case rel => exact ⟨k + 1, _, by omega, rfl, by go_num⟩
          case measure => simp [intOf]; omega
    · go_wp2
      go_ret
      exact ⟨Or.inr rfl, rfl⟩

set_option maxHeartbeats 1000000 in
theorem sameBytes (a : Option Addr) (n c : Nat) (f : Nat → Int) (b : Option Addr) (cb : Nat) (g : Nat → Int) (w : World) (hn : n ≤ 2097152) (hf : Rd .u8 w a n f) (hg : Rd .u8 w b n g) (he : ∀ j, j < n → f j = g j) :
    Calls Try.prog 14 #[.slice a n c, .slice b n cb] w fun e w' => e = .returned (.bool true) ∧ ∃ q, w' = w.drewN q := by
  go_enter Try.func14, Try.ntmps14
  go_wp2
  go_loopw [5] (fun i wr => ∃ k q : Nat, k ≤ n ∧ i = .int .i64 k ∧ wr = w.drewN q) (fun i _ => n - (intOf i).toNat)
  case atStart => exact ⟨0, 0, Nat.zero_le _, rfl, rfl⟩
  case round =>
    obtain ⟨k, q, hk, rfl, rfl⟩ := hrel
    by_cases hlt : k < n
    · have hx := ix22 a n c k hf.1 hlt
      have hy := ix22 b n cb k hg.1 hlt
      have hc := hf.2 k hlt
      have hd := hg.2 k hlt
      rw [he k hlt] at hc
      generalize g k = z at *
      go_wp2
      go_quiet (fail)
      go_wp2
      go_roundw
      case rel => exact ⟨k + 1, _, by omega, by go_num, rfl⟩
      case measure => simp [intOf]; omega
    · go_wp2
      go_ret
      exact ⟨rfl, _, rfl⟩

set_option maxHeartbeats 400000 in
theorem newReader (a : Option Addr) (n c : Nat) (a' : Option Addr) (n' c' : Nat) (w : World) :
    Calls Try.prog 10 #[.slice a n c, .slice a' n' c'] w fun e w' => e = .returned (.pointer (some ⟨w.heap.size, 0, none⟩)) ∧ Rdr w' w.heap.size (.slice a n c) (.slice a' n' c') ∧ Below w.heap.size w w' ∧ w'.heap.size = w.heap.size + 1 := by
  go_enter Try.func10, Try.ntmps10
  go_wp2
  go_ret
  exact ⟨rfl, ⟨_, heap_alloc_new _ _, rfl, rfl⟩, (Below.refl _ _).alloc (Nat.le_refl _) _, by simp⟩

set_option maxHeartbeats 400000 in
theorem csvFields (r : Nat) (vf ve : Value) (a : Option Addr) (n c : Nat) (hv : vf = .slice a n c) (w : World) (hR : Rdr w r vf ve) :
    Calls Try.prog 12 #[.pointer (some ⟨r, 0, none⟩)] w fun e w' => e = .returned (.slice a n c) ∧ w' = w := by
  subst hv
  have h := hR.cell9
  go_enter Try.func12, Try.ntmps12
  go_wp2
  go_ret
  exact ⟨rfl, rfl⟩

set_option maxHeartbeats 400000 in
theorem csvEnds (r : Nat) (vf ve : Value) (a : Option Addr) (n c : Nat) (hv : ve = .slice a n c) (w : World) (hR : Rdr w r vf ve) :
    Calls Try.prog 13 #[.pointer (some ⟨r, 0, none⟩)] w fun e w' => e = .returned (.slice a n c) ∧ w' = w := by
  subst hv
  have h := hR.cell10
  go_enter Try.func13, Try.ntmps13
  go_wp2
  go_ret
  exact ⟨rfl, rfl⟩

set_option maxHeartbeats 400000 in
theorem zzAdd (base r : Nat) (a : Option Addr) (n c : Nat) (f : Nat → Int) (a' : Option Addr) (n' c' : Nat) (g : Nat → Int) (b : Option Addr) (m cb : Nat) (h : Nat → Int) (w : World)
    (hr : base ≤ r) (hR : Rdr w r (.slice a n c) (.slice a' n' c')) (hf : Own base w 5 .u8 a n c f) (he : Own base w 3 .i64 a' n' c' g) (hs : Rd .u8 w b m h) (hcb : b = none → cb = 0)
    (h1 : n + m ≤ 2097152) (h2 : n' ≤ 2097152) (hB : base ≤ w.heap.size) :
    Calls Try.prog 11 #[.pointer (some ⟨r, 0, none⟩), .slice b m cb] w fun e w' => e = .returned (.tuple #[]) ∧ ∃ a1 c1 a2 c2, Rdr w' r (.slice a1 (n + m) c1) (.slice a2 (n' + 1) c2) ∧
      Own base w' 5 .u8 a1 (n + m) c1 (app n f h) ∧ Own base w' 3 .i64 a2 (n' + 1) c2 (app n' g (fun _ => (n : Int) + (m : Int))) ∧ Below base w w' := by
  go_enter Try.func11, Try.ntmps11
  go_wp2_with fail
  refine (addField base r a n c f a' n' c' g b m cb h w hr hR hf he hs hcb h1 h2 hB).mono ?_
  rintro e w1 ⟨rfl, H⟩
  go_wp2
  go_end0
  exact ⟨rfl, H⟩
end Go.Proofs.Qxb6613217a.B
