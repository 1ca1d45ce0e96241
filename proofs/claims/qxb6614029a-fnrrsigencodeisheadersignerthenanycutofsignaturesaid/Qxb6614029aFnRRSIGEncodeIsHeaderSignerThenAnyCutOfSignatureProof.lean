import Derived.Test.Qxb6614029aRows
import Derived.Test.Qxb6614029aLawCut
import Derived.WalkKit
import Derived.ProofKit
import Derived.OpenShut
import Derived.ShutString
import Derived.ChangeOld
import Derived.Below
namespace Go.Proofs.Qxb6614029a.fnRRSIGEncodeIsHeaderSignerThenAnyCutOfSignature
open Go.ChangeShapes Go.WideShapes Go.ChangeAt Go.RowKit
open Go.ChangeMaps (open_string shut_string)
set_option linter.unusedVariables false

theorem own : ownKnob Try.prog.godebug = none := by kernel_rfl
theorem laidOut : laidOutB Try.prog = true := by kernel_rfl

/-- WHAT THE WALK IS TOLD OF A SLICE OF INTEGERS THAT CAME IN: it is nil; or it leads to a row of 'cap' cells, the numbers 'zs' (the first 'len' are its elements, the rest its spare room), each fitting its kind. -/
def IsRow (k : IntKind) (w : World) (a : Option Addr) (len cap : Nat) (zs : List Int) : Prop :=
  (a = none ∧ len = 0 ∧ cap = 0 ∧ zs = []) ∨
  ∃ x, a = some x ∧ len ≤ cap ∧ cap ≤ maxLen ∧ zs.length = cap ∧ (∀ i, i < zs.length → w.cell? (x.add i) = some (.int k (zs.getD i 0))) ∧ ∀ n ∈ zs, (Lit.int k n).wf = true

open Go.Proofs.Qxb6614029a.B in
theorem IsRow.rd {k : IntKind} {w : World} {a : Option Addr} {len cap : Nat} {zs : List Int} (h : IsRow k w a len cap zs) : Rd k w a len (fun j => zs.getD j 0) ∧ len ≤ maxLen ∧ (a = none → cap = 0) ∧ len ≤ cap := by
  rcases h with ⟨rfl, rfl, rfl, rfl⟩ | ⟨x, rfl, h1, h2, h3, h4, _⟩
  · exact ⟨⟨fun _ => rfl, fun j hj => by omega⟩, Nat.zero_le _, fun _ => rfl, Nat.le_refl _⟩
  · exact ⟨⟨fun h => by simp at h, fun j hj => h4 j (by omega)⟩, Nat.le_trans h1 h2, fun h => by simp at h, h1⟩

open Go.Proofs.Qxb6614029a.B in
set_option maxRecDepth 100000 in
set_option maxHeartbeats 1000000 in
theorem early_no (v0 v1 v2 v3 v4 v5 v6 v9 : Value) (s1 : ByteArray) (a1 : Option Addr) (n1 c1 : Nat) (w : World) (h1 : s1.size ≤ maxLen) (h2 : n1 ≤ maxLen) (h : ¬ s1.size + n1 ≤ 1048576) :
    Calls Try.prog 3 #[v0, v1, v2, v3, v4, v5, v6, .string s1, .slice a1 n1 c1, v9] w fun e w' => e = .returned (.bool true) ∧ Below w.heap.size w w' := by
  go_enter Try.func3, Try.ntmps3
  go_wp2_with fail
  refine (bytes5_no _ _ _ _ _ _ _ _ _ _ _ _ _ h1 h2 h).mono ?_
  rintro e wx ⟨rfl, hw⟩
  replace hw := hw.symm; subst hw
  go_wp2_with fail
  go_ret
  exact ⟨rfl, Below.refl _ _⟩

open Go.Proofs.Qxb6614029a.B in
set_option maxRecDepth 100000 in
set_option maxHeartbeats 1000000 in
theorem early (v0 v1 v2 v3 v4 v5 v6 v9 : Value) (s1 : ByteArray) (a1 : Option Addr) (n1 c1 : Nat) (w : World) (h : s1.size + n1 ≤ 1048576)
    (g : 524288 < s1.size ∨ (s1.size ≤ 524288 ∧ 524288 < n1)) :
    Calls Try.prog 3 #[v0, v1, v2, v3, v4, v5, v6, .string s1, .slice a1 n1 c1, v9] w fun e w' => e = .returned (.bool true) ∧ Below w.heap.size w w' := by
  rcases g with g | ⟨g, g'⟩
  all_goals
    go_enter Try.func3, Try.ntmps3
    go_wp2_with fail
    refine (bytes5_yes _ _ _ _ _ _ _ _ _ _ _ _ _ h).mono ?_
    rintro e wx ⟨rfl, hw⟩
    replace hw := hw.symm; subst hw
    go_wp2_with fail
    go_ret
    exact ⟨rfl, Below.refl _ _⟩

open Go.Proofs.Qxb6614029a.B in
set_option maxRecDepth 100000 in
set_option maxHeartbeats 1000000 in
theorem early_cut (v0 v1 v2 v3 v4 v5 v6 : Value) (s1 : ByteArray) (a1 : Option Addr) (n1 c1 : Nat) (cut : Int) (w : World) (h : s1.size + n1 ≤ 1048576) (h1 : s1.size ≤ 524288) (h2 : n1 ≤ 524288)
    (g : cut < 0 ∨ (0 ≤ cut ∧ (n1 : Int) < cut)) :
    Calls Try.prog 3 #[v0, v1, v2, v3, v4, v5, v6, .string s1, .slice a1 n1 c1, .int .i64 cut] w fun e w' => e = .returned (.bool true) ∧ Below w.heap.size w w' := by
  rcases g with g | ⟨g, g'⟩
  all_goals
    go_enter Try.func3, Try.ntmps3
    go_wp2_with fail
    refine (bytes5_yes _ _ _ _ _ _ _ _ _ _ _ _ _ h).mono ?_
    rintro e wx ⟨rfl, hw⟩
    replace hw := hw.symm; subst hw
    go_wp2_with fail
    refine (wellFormed s1 (by unfold maxLen; omega) _).mono ?_
    rintro e wx ⟨rfl | ⟨rfl, _, _⟩, hw⟩
    · replace hw := hw.symm; subst hw
      go_wp2_with fail
      go_ret
      exact ⟨rfl, Below.refl _ _⟩
    replace hw := hw.symm; subst hw
    go_wp2_with fail
    go_ret
    exact ⟨rfl, Below.refl _ _⟩

theorem walk (a0 : Int) (a1 : Int) (a2 : Int) (a3 : Int) (a4 : Int) (a5 : Int) (a6 : Int) (a7 : ByteArray) (a8 : Option Addr) (len8 cap8 : Nat) (z8 : List Int) (a9 : Int) (w : World) (w0 : (Lit.int .u16 a0).wf = true) (w1 : (Lit.int .u8 a1).wf = true) (w2 : (Lit.int .u8 a2).wf = true) (w3 : (Lit.int .u32 a3).wf = true) (w4 : (Lit.int .u32 a4).wf = true) (w5 : (Lit.int .u32 a5).wf = true) (w6 : (Lit.int .u16 a6).wf = true) (w7 : a7.size ≤ maxLen) (w8 : IsRow .u8 w a8 len8 cap8 z8) (w9 : (Lit.int .i64 a9).wf = true) :
    Calls Try.prog 3 #[.int .u16 a0, .int .u8 a1, .int .u8 a2, .int .u32 a3, .int .u32 a4, .int .u32 a5, .int .u16 a6, .string a7, .slice a8 len8 cap8, .int .i64 a9] w fun e w' => e = .returned (.bool true) ∧ Below w.heap.size w w' := by
  have b0 := bounds_u16 w0
  have b3 := bounds_u32 w3
  have b4 := bounds_u32 w4
  have b5 := bounds_u32 w5
  have b6 := bounds_u16 w6
  obtain ⟨r8, l8, d8, c8⟩ := w8.rd
  by_cases h : a7.size + len8 ≤ 1048576
  · by_cases g : a7.size ≤ 524288 ∧ len8 ≤ 524288
    · by_cases g3 : 0 ≤ a9 ∧ a9 ≤ (len8 : Int)
      · obtain ⟨t, rfl⟩ := Int.eq_ofNat_of_zero_le g3.1
        exact Go.Proofs.Qxb6614029a.B.cut_main a0 a1 a2 a3 a4 a5 a6 a7 a8 len8 cap8 _ t w (by omega) (by omega) (by omega) (by omega) (by omega) (by omega) (by omega) (by omega) (by omega) (by omega) r8 d8 c8 h g.1 g.2 (by omega)
      · exact early_cut _ _ _ _ _ _ _ _ _ _ _ _ _ h g.1 g.2 (by omega)
    · exact early _ _ _ _ _ _ _ _ _ _ _ _ _ h (by omega)
  · exact early_no _ _ _ _ _ _ _ _ _ _ _ _ _ w7 l8 h

/-! ### THE ROW's STEP: WRITTEN OUT: LEAVE IT -/
set_option maxRecDepth 100000 in
theorem lifted (os : Os) (started : os.Started) (H : Type) (enc : TypeId × Value → H) :
    ReturnsInHanded {} Try.checked os 3 .any (Rows.fnRRSIGEncodeIsHeaderSignerThenAnyCutOfSignatureSpec.pre6 enc Try.prog Try.f3 Rows.fnRRSIGEncodeIsHeaderSignerThenAnyCutOfSignatureRow.domain false) (Rows.fnRRSIGEncodeIsHeaderSignerThenAnyCutOfSignatureSpec.post enc Try.prog Try.f3 false true false false) := by
  refine returnsInHanded_of_change (C := Try.checked) own started (by kernel_rfl) Try.func3
    (ChangeSpec.witness6 (enc := enc) (C := Try.checked) false ⟨#[], #[.int .u16 0, .int .u8 0, .int .u8 0, .int .u32 0, .int .u32 0, .int .u32 0, .int .u16 0, .string ByteArray.empty, .slice none 0 0, .int .i64 0], []⟩ 8 (by kernel_rfl) (by kernel_rfl) (by kernel_rfl) (by kernel_rfl)) ?_
  intro W base args ds gs before hval0 hW hcnd _
  have hval : ∀ (j : Nat) t v, Try.f3.params[j]? = some t → args[j]? = some v → Value.okWide Try.prog W .any base t v := hval0
  have hW' := hW
  obtain ⟨p, q, hA0, hV, rfl, hfz, hnd⟩ := hW
  have hA : DataW.TrodAll enc Try.prog W 0 (fun _ => true) true Try.f3.params.toList args.toList ds p := hA0
  rw [Try.params3] at hA hval
  obtain ⟨v0, vs0, d0, ds0, p0, q0, hargs, rfl, rfl, h0, r0⟩ := trodAll_cons hA
  obtain ⟨v1, vs1, d1, ds1, p1, q1, rfl, rfl, rfl, h1, r1⟩ := trodAll_cons r0
  obtain ⟨v2, vs2, d2, ds2, p2, q2, rfl, rfl, rfl, h2, r2⟩ := trodAll_cons r1
  obtain ⟨v3, vs3, d3, ds3, p3, q3, rfl, rfl, rfl, h3, r3⟩ := trodAll_cons r2
  obtain ⟨v4, vs4, d4, ds4, p4, q4, rfl, rfl, rfl, h4, r4⟩ := trodAll_cons r3
  obtain ⟨v5, vs5, d5, ds5, p5, q5, rfl, rfl, rfl, h5, r5⟩ := trodAll_cons r4
  obtain ⟨v6, vs6, d6, ds6, p6, q6, rfl, rfl, rfl, h6, r6⟩ := trodAll_cons r5
  obtain ⟨v7, vs7, d7, ds7, p7, q7, rfl, rfl, rfl, h7, r7⟩ := trodAll_cons r6
  obtain ⟨v8, vs8, d8, ds8, p8, q8, rfl, rfl, rfl, h8, r8⟩ := trodAll_cons r7
  obtain ⟨v9, vs9, d9, ds9, p9, q9, rfl, rfl, rfl, h9, r9⟩ := trodAll_cons r8
  obtain ⟨rfl, rfl, rfl⟩ := trodAll_nil r9
  obtain rfl : args = #[v0, v1, v2, v3, v4, v5, v6, v7, v8, v9] := by cases args; simp_all
  obtain ⟨rfl, rfl⟩ := trodVars_none hV
  obtain ⟨a0, rfl, rfl, rfl, w0⟩ := open_int Try.underlying22 (hval 0 22 v0 rfl rfl) h0
  obtain ⟨a1, rfl, rfl, rfl, w1⟩ := open_int Try.underlying5 (hval 1 5 v1 rfl rfl) h1
  obtain ⟨a2, rfl, rfl, rfl, w2⟩ := open_int Try.underlying5 (hval 2 5 v2 rfl rfl) h2
  obtain ⟨a3, rfl, rfl, rfl, w3⟩ := open_int Try.underlying23 (hval 3 23 v3 rfl rfl) h3
  obtain ⟨a4, rfl, rfl, rfl, w4⟩ := open_int Try.underlying23 (hval 4 23 v4 rfl rfl) h4
  obtain ⟨a5, rfl, rfl, rfl, w5⟩ := open_int Try.underlying23 (hval 5 23 v5 rfl rfl) h5
  obtain ⟨a6, rfl, rfl, rfl, w6⟩ := open_int Try.underlying22 (hval 6 22 v6 rfl rfl) h6
  obtain ⟨a7, rfl, rfl, rfl, w7⟩ := open_string Try.underlying9 (hval 7 9 v7 rfl rfl) h7
  obtain ⟨a8, len8, cap8, rfl⟩ := okWide_slice Try.underlying24 (hval 8 24 v8 rfl rfl)
  have k8 := h8
  have lt8 : ∀ x ∈ p8, x.block < W.heap.size := by obtain ⟨m, hm⟩ := k8; exact DataW.trod_lt m _ _ _ hm
  obtain ⟨z8, w8⟩ : ∃ zs, IsRow .u8 W a8 len8 cap8 zs := by
    obtain ⟨fuel, hf⟩ := h8
    rcases open_ints Try.underlying24 Try.underlying5 (by kernel_rfl) hf with ⟨hcs, _⟩ | ⟨x, l, c, zs, hcs, _, hl, hm, hz, _, hcell, hwz⟩
    · simp [Value.cells] at hcs
      obtain ⟨rfl, rfl, rfl⟩ := hcs
      exact ⟨[], .inl ⟨rfl, rfl, rfl, rfl⟩⟩
    · simp [Value.cells] at hcs
      obtain ⟨rfl, rfl, rfl⟩ := hcs
      exact ⟨zs, .inr ⟨_, rfl, hl, hm, by simpa using hz, hcell, hwz⟩⟩
  obtain ⟨a9, rfl, rfl, rfl, w9⟩ := open_int Try.underlying3 (hval 9 3 v9 rfl rfl) h9
  clear hA0 hval0
  refine (walk a0 a1 a2 a3 a4 a5 a6 a7 a8 len8 cap8 z8 a9 W w0 w1 w2 w3 w4 w5 w6 w7 w8 w9).mono fun e W' ⟨he, bel⟩ => ?_
  subst he
  exact ⟨_, rfl, _, _, _, [], _, [], hW', trodAll_mk1 (shut_bool Try.underlying4 _), (trodAll_cons_mk (shut_int Try.underlying22 w0) (trodAll_cons_mk (shut_int Try.underlying5 w1) (trodAll_cons_mk (shut_int Try.underlying5 w2) (trodAll_cons_mk (shut_int Try.underlying23 w3) (trodAll_cons_mk (shut_int Try.underlying23 w4) (trodAll_cons_mk (shut_int Try.underlying23 w5) (trodAll_cons_mk (shut_int Try.underlying22 w6) (trodAll_cons_mk (shut_string Try.underlying9 w7) (trodAll_cons_mk (Below.trod laidOut (by kernel_rfl) (of_decide_eq_true (by kernel_rfl)) k8 bel lt8) (trodAll_cons_mk (shut_int Try.underlying3 w9) trodAll_mk0)))))))))), rfl, bel.frame _, fun h => by cases h⟩

theorem over : Rows.fnRRSIGEncodeIsHeaderSignerThenAnyCutOfSignatureRow.holds Try.pinned (OpenSpec.ofChange Rows.fnRRSIGEncodeIsHeaderSignerThenAnyCutOfSignatureSpec) :=
  OpenClaim.holds_of_wide 3 Try.f3 rfl rfl rfl rfl rfl rfl rfl ⟨rfl, rfl, rfl, rfl, rfl⟩ rfl rfl rfl rfl rfl (by kernel_rfl) Try.func3 (by kernel_rfl)
    (of_decide_eq_true (by kernel_rfl)) (by unfold Func.isWrapper; first | (rw [if_pos (by decide +kernel)]; kernel_rfl) | (rw [if_neg (by decide +kernel)]; exact ⟨rfl, rfl⟩))
    (fun os started H enc _ => lifted os started H enc)

/-- ████ THE STATEMENT ████ -/
theorem proved : Rows.FnRRSIGEncodeIsHeaderSignerThenAnyCutOfSignatureSaid := over
end Go.Proofs.Qxb6614029a.fnRRSIGEncodeIsHeaderSignerThenAnyCutOfSignature
