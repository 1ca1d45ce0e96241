import Derived.Test.Qxb6613217aRows
import Derived.Test.Qxb6613217aLawThree
import Derived.Deep.Slices
import Derived.WalkKit
import Derived.ProofKit
import Derived.OpenShut
import Derived.ShutString
import Derived.ChangeOld
import Derived.Below
namespace Go.Proofs.Qxb6613217a.fnAddFieldReadsBackEachField
open Go.ChangeShapes Go.WideShapes Go.ChangeAt Go.RowKit
open Go.ChangeMaps (open_string shut_string)
set_option linter.unusedVariables false

theorem own : ownKnob Try.prog.godebug = none := by kernel_rfl
theorem laidOut : laidOutB Try.prog = true := by kernel_rfl

/-- WHAT THE WALK IS TOLD OF A SLICE OF INTEGERS THAT CAME IN: it is nil; or it leads to a row of 'cap' cells, the numbers 'zs' (the first 'len' are its elements, the rest its spare room), each fitting its kind. -/
def IsRow (k : IntKind) (w : World) (a : Option Addr) (len cap : Nat) (zs : List Int) : Prop :=
  (a = none ∧ len = 0 ∧ cap = 0 ∧ zs = []) ∨
  ∃ x, a = some x ∧ len ≤ cap ∧ cap ≤ maxLen ∧ zs.length = cap ∧ (∀ i, i < zs.length → w.cell? (x.add i) = some (.int k (zs.getD i 0))) ∧ ∀ n ∈ zs, (Lit.int k n).wf = true

open Go.Proofs.Qxb6613217a.B in
theorem IsRow.rd {k : IntKind} {w : World} {a : Option Addr} {len cap : Nat} {zs : List Int} (h : IsRow k w a len cap zs) : Rd k w a len (fun j => zs.getD j 0) ∧ len ≤ maxLen := by
  rcases h with ⟨rfl, rfl, rfl, rfl⟩ | ⟨x, rfl, h1, h2, h3, h4, _⟩
  · exact ⟨⟨fun _ => rfl, fun j hj => by omega⟩, Nat.zero_le _⟩
  · exact ⟨⟨fun h => by simp at h, fun j hj => h4 j (by omega)⟩, Nat.le_trans h1 h2⟩

/-- A slice value's parts. -/
def vA : Value → Option Addr
  | .slice a _ _ => a
  | _ => none
def vN : Value → Nat
  | .slice _ n _ => n
  | _ => 0
def vC : Value → Nat
  | .slice _ _ c => c
  | _ => 0
def vZ : Option Value → Int
  | some (.int _ z) => z
  | _ => 0

open Go.Proofs.Qxb6613217a.B in
/-- WHAT THE WALK IS TOLD OF THE SLICE OF BYTE SLICES THAT CAME IN. -/
theorem rdp_of_trod {H : Type} {enc : TypeId × Value → H} {W : World} {a : Option Addr} {len cap fuel : Nat} {x : DataW H × List MemPlace} (h : DataW.trod enc Try.prog W 0 (fun _ => true) true fuel 24 (Value.slice a len cap).cells.toList = some x) :
    ∃ (pa : Nat → Option Addr) (pn pc : Nat → Nat) (pf : Nat → Nat → Int), RdP W a len pa pn pc pf ∧ (∀ i, i < len → pn i ≤ maxLen) ∧ len ≤ maxLen := by
  rcases Go.Deep.open_slice1 Try.underlying24 (by kernel_rfl) h with ⟨hcs, _⟩ | ⟨b, l, c, m, n, V, D, Pl, hcs, _, hl, hm, hmm, _, hx⟩
  · simp [Value.cells] at hcs
    obtain ⟨rfl, rfl, rfl⟩ := hcs
    exact ⟨fun _ => none, fun _ => 0, fun _ => 0, fun _ _ => 0, ⟨fun _ => rfl, fun i hi => by omega⟩, fun i hi => by omega, Nat.zero_le _⟩
  · simp [Value.cells] at hcs
    obtain ⟨rfl, rfl, rfl⟩ := hcs
    simp only [if_true] at hmm
    have key : ∀ i, i < len → W.cell? (ad (some b) i) = some (.slice (vA (V i)) (vN (V i)) (vC (V i))) ∧ Rd .u8 W (vA (V i)) (vN (V i)) (fun j => vZ (W.cell? (ad (vA (V i)) j))) ∧ vN (V i) ≤ maxLen := by
      intro i hi
      obtain ⟨h1, h2⟩ := hx i (by omega)
      rcases open_ints Try.underlying22 Try.underlying5 (by kernel_rfl) h2 with ⟨hv, _⟩ | ⟨y, l', c', zs, hv, _, hl', hm', hz, _, hcell, _⟩
      · simp only [List.cons.injEq, and_true] at hv
        rw [hv] at h1 ⊢
        exact ⟨h1, ⟨fun _ => rfl, fun j hj => by simp [vN] at hj⟩, by simp [vN]⟩
      · simp only [List.cons.injEq, and_true] at hv
        rw [hv] at h1 ⊢
        simp only [if_true] at hz
        refine ⟨h1, ⟨fun e => by simp [vA] at e, fun j hj => ?_⟩, Nat.le_trans hl' hm'⟩
        have hj' : j < zs.length := by simp only [vN] at hj; omega
        have hc : W.cell? (ad (vA (.slice (some y) l' c')) j) = some (.int .u8 (zs.getD j 0)) := hcell j hj'
        show W.cell? (ad (vA (.slice (some y) l' c')) j) = some (.int .u8 (vZ (W.cell? (ad (vA (.slice (some y) l' c')) j))))
        rw [hc]
        rfl
    exact ⟨fun i => vA (V i), fun i => vN (V i), fun i => vC (V i), fun i j => vZ (W.cell? (ad (vA (V i)) j)), ⟨fun e => by simp at e, fun i hi => ⟨(key i hi).1, (key i hi).2.1⟩⟩, fun i hi => (key i hi).2.2, by omega⟩

open Go.Proofs.Qxb6613217a.B in
set_option maxRecDepth 100000 in
set_option maxHeartbeats 1000000 in
theorem early_no (a0 : Option Addr) (n0 c0 : Nat) (a1 : Option Addr) (n1 c1 : Nat) (a2 : Option Addr) (n2 c2 : Nat) (w : World) (h0 : n0 ≤ maxLen) (h1 : n1 ≤ maxLen) (h2 : n2 ≤ maxLen) (h : ¬ n0 + n1 + n2 ≤ 1048576) :
    Calls Try.prog 3 #[.slice a0 n0 c0, .slice a1 n1 c1, .slice a2 n2 c2] w fun e w' => e = .returned (.bool true) ∧ Below w.heap.size w w' := by
  go_enter Try.func3, Try.ntmps3
  go_wp2_with fail
  refine (bytes3_no _ _ _ _ _ _ _ _ _ h0 h1 h2 h _).mono ?_
  rintro e wx ⟨rfl, hw⟩
  replace hw := hw.symm; subst hw
  go_wp2_with fail
  go_ret
  exact ⟨rfl, Below.refl _ _⟩

open Go.Proofs.Qxb6613217a.B in
set_option maxRecDepth 100000 in
set_option maxHeartbeats 1000000 in
theorem early (a0 : Option Addr) (n0 c0 : Nat) (a1 : Option Addr) (n1 c1 : Nat) (a2 : Option Addr) (n2 c2 : Nat) (pa : Nat → Option Addr) (pn pc : Nat → Nat) (pf : Nat → Nat → Int) (w : World) (r2 : RdP w a2 n2 pa pn pc pf) (hm : ∀ i, i < n2 → pn i ≤ maxLen) (h : n0 + n1 + n2 ≤ 1048576)
    (g : 131072 < n1 ∨ (n1 ≤ 131072 ∧ 131072 < n2) ∨ (n1 ≤ 131072 ∧ n2 ≤ 131072 ∧ 1048576 < n0 + 8 * n1 + 8 * n2)) :
    Calls Try.prog 3 #[.slice a0 n0 c0, .slice a1 n1 c1, .slice a2 n2 c2] w fun e w' => e = .returned (.bool true) ∧ Below w.heap.size w w' := by
  rcases g with g | ⟨g, g'⟩ | ⟨g, g', g''⟩
  all_goals
    go_enter Try.func3, Try.ntmps3
    go_wp2_with fail
    refine (bytes3_yes _ _ _ _ _ _ _ _ _ _ _ _ _ _ r2 hm h).mono ?_
    rintro e wx ⟨rfl | ⟨rfl, _⟩, hw⟩
    · replace hw := hw.symm; subst hw
      go_wp2_with fail
      go_ret
      exact ⟨rfl, Below.refl _ _⟩
    replace hw := hw.symm; subst hw
    go_wp2_with fail
    go_ret
    exact ⟨rfl, Below.refl _ _⟩

open Go.Proofs.Qxb6613217a.B in
theorem walk (a0 : Option Addr) (len0 cap0 : Nat) (z0 : List Int) (a1 : Option Addr) (len1 cap1 : Nat) (z1 : List Int) (a2 : Option Addr) (len2 cap2 : Nat) (pa : Nat → Option Addr) (pn pc : Nat → Nat) (pf : Nat → Nat → Int) (w : World) (w0 : IsRow .u8 w a0 len0 cap0 z0) (w1 : IsRow .i64 w a1 len1 cap1 z1) (w2 : RdP w a2 len2 pa pn pc pf) (hm : ∀ i, i < len2 → pn i ≤ maxLen) (hl : len2 ≤ maxLen) :
    Calls Try.prog 3 #[.slice a0 len0 cap0, .slice a1 len1 cap1, .slice a2 len2 cap2] w fun e w' => e = .returned (.bool true) ∧ Below w.heap.size w w' := by
  by_cases h : len0 + len1 + len2 ≤ 1048576
  · by_cases g1 : len1 ≤ 131072
    · by_cases g2 : len2 ≤ 131072
      · by_cases g3 : len0 + 8 * len1 + 8 * len2 ≤ 1048576
        · exact three_main a0 len0 cap0 _ a1 len1 cap1 _ a2 len2 cap2 pa pn pc pf w w0.rd.1 w1.rd.1 w2 hm h g1 g2 g3
        · exact early _ _ _ _ _ _ _ _ _ _ _ _ _ _ w2 hm h (by omega)
      · exact early _ _ _ _ _ _ _ _ _ _ _ _ _ _ w2 hm h (by omega)
    · exact early _ _ _ _ _ _ _ _ _ _ _ _ _ _ w2 hm h (by omega)
  · exact early_no _ _ _ _ _ _ _ _ _ _ w0.rd.2 w1.rd.2 hl h

/-! ### THE ROW's STEP: WRITTEN OUT: LEAVE IT -/
set_option maxRecDepth 100000 in
theorem lifted (os : Os) (started : os.Started) (H : Type) (enc : TypeId × Value → H) :
    ReturnsInHanded {} Try.checked os 3 .any (Rows.fnAddFieldReadsBackEachFieldSpec.pre6 enc Try.prog Try.f3 Rows.fnAddFieldReadsBackEachFieldRow.domain false) (Rows.fnAddFieldReadsBackEachFieldSpec.post enc Try.prog Try.f3 false true false false) := by
  refine returnsInHanded_of_change (C := Try.checked) own started (by kernel_rfl) Try.func3
    (ChangeSpec.witness6 (enc := enc) (C := Try.checked) false ⟨#[], #[.slice none 0 0, .slice none 0 0, .slice none 0 0], []⟩ 8 (by kernel_rfl) (by kernel_rfl) (by kernel_rfl) (by kernel_rfl)) ?_
  intro W base args ds gs before hval0 hW hcnd _
  have hval : ∀ (j : Nat) t v, Try.f3.params[j]? = some t → args[j]? = some v → Value.okWide Try.prog W .any base t v := hval0
  have hW' := hW
  obtain ⟨p, q, hA0, hV, rfl, hfz, hnd⟩ := hW
  have hA : DataW.TrodAll enc Try.prog W 0 (fun _ => true) true Try.f3.params.toList args.toList ds p := hA0
  rw [Try.params3] at hA hval
  obtain ⟨v0, vs0, d0, ds0, p0, q0, hargs, rfl, rfl, h0, r0⟩ := trodAll_cons hA
  obtain ⟨v1, vs1, d1, ds1, p1, q1, rfl, rfl, rfl, h1, r1⟩ := trodAll_cons r0
  obtain ⟨v2, vs2, d2, ds2, p2, q2, rfl, rfl, rfl, h2, r2⟩ := trodAll_cons r1
  obtain ⟨rfl, rfl, rfl⟩ := trodAll_nil r2
  obtain rfl : args = #[v0, v1, v2] := by cases args; simp_all
  obtain ⟨rfl, rfl⟩ := trodVars_none hV
  obtain ⟨a0, len0, cap0, rfl⟩ := okWide_slice Try.underlying22 (hval 0 22 v0 rfl rfl)
  have k0 := h0
  have lt0 : ∀ x ∈ p0, x.block < W.heap.size := by obtain ⟨m, hm⟩ := k0; exact DataW.trod_lt m _ _ _ hm
  obtain ⟨z0, w0⟩ : ∃ zs, IsRow .u8 W a0 len0 cap0 zs := by
    obtain ⟨fuel, hf⟩ := h0
    rcases open_ints Try.underlying22 Try.underlying5 (by kernel_rfl) hf with ⟨hcs, _⟩ | ⟨x, l, c, zs, hcs, _, hl, hm, hz, _, hcell, hwz⟩
    · simp [Value.cells] at hcs
      obtain ⟨rfl, rfl, rfl⟩ := hcs
      exact ⟨[], .inl ⟨rfl, rfl, rfl, rfl⟩⟩
    · simp [Value.cells] at hcs
      obtain ⟨rfl, rfl, rfl⟩ := hcs
      exact ⟨zs, .inr ⟨_, rfl, hl, hm, by simpa using hz, hcell, hwz⟩⟩
  obtain ⟨a1, len1, cap1, rfl⟩ := okWide_slice Try.underlying23 (hval 1 23 v1 rfl rfl)
  have k1 := h1
  have lt1 : ∀ x ∈ p1, x.block < W.heap.size := by obtain ⟨m, hm⟩ := k1; exact DataW.trod_lt m _ _ _ hm
  obtain ⟨z1, w1⟩ : ∃ zs, IsRow .i64 W a1 len1 cap1 zs := by
    obtain ⟨fuel, hf⟩ := h1
    rcases open_ints Try.underlying23 Try.underlying3 (by kernel_rfl) hf with ⟨hcs, _⟩ | ⟨x, l, c, zs, hcs, _, hl, hm, hz, _, hcell, hwz⟩
    · simp [Value.cells] at hcs
      obtain ⟨rfl, rfl, rfl⟩ := hcs
      exact ⟨[], .inl ⟨rfl, rfl, rfl, rfl⟩⟩
    · simp [Value.cells] at hcs
      obtain ⟨rfl, rfl, rfl⟩ := hcs
      exact ⟨zs, .inr ⟨_, rfl, hl, hm, by simpa using hz, hcell, hwz⟩⟩
  obtain ⟨a2, len2, cap2, rfl⟩ := okWide_slice Try.underlying24 (hval 2 24 v2 rfl rfl)
  have k2 := h2
  have lt2 : ∀ x ∈ p2, x.block < W.heap.size := by obtain ⟨m, hm⟩ := k2; exact DataW.trod_lt m _ _ _ hm
  obtain ⟨pa, pn, pc, pf, w2, hm2, hl2⟩ : ∃ (pa : Nat → Option Addr) (pn pc : Nat → Nat) (pf : Nat → Nat → Int), Go.Proofs.Qxb6613217a.B.RdP W a2 len2 pa pn pc pf ∧ (∀ i, i < len2 → pn i ≤ maxLen) ∧ len2 ≤ maxLen := by
    obtain ⟨fuel, hf⟩ := h2
    exact rdp_of_trod hf
  clear hA0 hval0
  refine (walk a0 len0 cap0 z0 a1 len1 cap1 z1 a2 len2 cap2 pa pn pc pf W w0 w1 w2 hm2 hl2).mono fun e W' ⟨he, bel⟩ => ?_
  subst he
  exact ⟨_, rfl, _, _, _, [], _, [], hW', trodAll_mk1 (shut_bool Try.underlying4 _), (trodAll_cons_mk (Below.trod laidOut (by kernel_rfl) (of_decide_eq_true (by kernel_rfl)) k0 bel lt0) (trodAll_cons_mk (Below.trod laidOut (by kernel_rfl) (of_decide_eq_true (by kernel_rfl)) k1 bel lt1) (trodAll_cons_mk (Below.trod laidOut (by kernel_rfl) (of_decide_eq_true (by kernel_rfl)) k2 bel lt2) trodAll_mk0))), rfl, bel.frame _, fun h => by cases h⟩

theorem over : Rows.fnAddFieldReadsBackEachFieldRow.holds Try.pinned (OpenSpec.ofChange Rows.fnAddFieldReadsBackEachFieldSpec) :=
  OpenClaim.holds_of_wide 3 Try.f3 rfl rfl rfl rfl rfl rfl rfl ⟨rfl, rfl, rfl, rfl, rfl⟩ rfl rfl rfl rfl rfl (by kernel_rfl) Try.func3 (by kernel_rfl)
    (of_decide_eq_true (by kernel_rfl)) (by unfold Func.isWrapper; first | (rw [if_pos (by decide +kernel)]; kernel_rfl) | (rw [if_neg (by decide +kernel)]; exact ⟨rfl, rfl⟩))
    (fun os started H enc _ => lifted os started H enc)

/-- ████ THE STATEMENT ████ -/
theorem proved : Rows.FnAddFieldReadsBackEachFieldSaid := over
end Go.Proofs.Qxb6613217a.fnAddFieldReadsBackEachField
