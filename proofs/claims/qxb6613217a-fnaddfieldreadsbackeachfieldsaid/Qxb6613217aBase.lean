import Derived.Test.Qxb6613217aRows
import Derived.WalkKit
import Derived.ProofKit
import Derived.Below
import Derived.Lib.SliceRun
import Derived.WalkSpells
import Derived.WalkLawsBesides
import Derived.Deep.QuietTactic
import Derived.BigQuiet
import Derived.Laws.AppendOwnNone
import Derived.Outline
namespace Go.Proofs.Qxb6613217a.B
open Go.ChangeShapes Go.WideShapes Go.ChangeAt Go.RowKit

theorem info5 : (Try.prog.info? 5).map (fun i => (i.zero, i.size, i.bytes)) = some (some (.int .u8 0), 1, 1) := by kernel_rfl
theorem info3 : (Try.prog.info? 3).map (fun i => (i.zero, i.size, i.bytes)) = some (some (.int .i64 0), 1, 8) := by kernel_rfl

/-- Where element k of a slice lies. -/
def ad (a : Option Addr) (k : Nat) : Addr := (a.getD default).add k

/-- The slice at a reads as n numbers, f 0 .. f (n - 1). -/
def Rd (k : IntKind) (w : World) (a : Option Addr) (n : Nat) (f : Nat → Int) : Prop :=
  (a = none → n = 0) ∧ ∀ j, j < n → w.cell? (ad a j) = some (.int k (f j))

/-- The cells of a row of n numbers. -/
def cs (k : IntKind) (n : Nat) (f : Nat → Int) : List Value := (List.range n).map fun j => Value.int k (f j)

theorem cs_length (k : IntKind) (n : Nat) (f : Nat → Int) : (cs k n f).length = n := by simp [cs]
theorem cs_get (k : IntKind) (n : Nat) (f : Nat → Int) (j : Nat) (h : j < n) : (cs k n f)[j]? = some (.int k (f j)) := by simp [cs, h]

/-- A row of the call's own. -/
def Own (base : Nat) (w : World) (e : TypeId) (k : IntKind) (a : Option Addr) (n c : Nat) (f : Nat → Int) : Prop :=
  w.ownsRow base e 1 (.slice a n c) n (cs k n f)

theorem Own.rd {base : Nat} {w : World} {e : TypeId} {k : IntKind} {a : Option Addr} {n c : Nat} {f : Nat → Int} (h : Own base w e k a n c f) : Rd k w a n f := by
  have h0 := h
  rcases h.2 with ⟨hv, hn⟩ | ⟨g, cap, cur, hv, _⟩
  · exact ⟨fun _ => hn, fun j hj => by omega⟩
  · simp only [Value.slice.injEq] at hv
    obtain ⟨rfl, _, rfl⟩ := hv
    refine ⟨fun h => by simp at h, fun j hj => ?_⟩
    have := h0.cells (g := g) rfl j (.int k (f j)) (cs_get k n f j hj)
    simpa [ad] using this

theorem run_index {P : Program} (T e : TypeId) (i : TypeInfo) (hT : P.underlying T = some (.slice e)) (hi : P.info? e = some i) (hs : i.size = 1) (a : Option Addr) (n c k : Nat) (ha : a = none → n = 0) (hk : k < n) (w : World) :
    (Instr.indexAt T (.slice a n c) (.int .i64 (k : Int))).run P w = .ok (.pointer (some (ad a k))) w := by
  cases a with
  | none => have := ha rfl; omega
  | some x =>
    simp [Instr.indexAt, run_underlying hT, sizeOf, typeInfo, hi, hs, ad, asIntOf]
    intro h
    omega

/-- What a copy holds after k rounds. -/
def mix (f : Nat → Int) (k : Nat) (j : Nat) : Int := if j < k then f j else 0

theorem cs_made (k : IntKind) (n : Nat) (f : Nat → Int) : (madeCells #[Value.int k 0] n).toList = cs k n (mix f 0) := by
  apply List.ext_getElem?
  intro j
  by_cases hj : j < n
  · rw [cs_get k n _ j hj]
    simp [madeCells, mix, hj, Nat.mod_one]
  · rw [List.getElem?_eq_none (by simp [madeCells]; omega), List.getElem?_eq_none (by simp [cs_length]; omega)]

theorem cs_set (k : IntKind) (n : Nat) (f : Nat → Int) (i : Nat) : (cs k n (mix f i)).set i (.int k (f i)) = cs k n (mix f (i + 1)) := by
  apply List.ext_getElem?
  intro j
  by_cases hj : j < n
  · rw [cs_get k n _ j hj, List.getElem?_set]
    by_cases hij : i = j
    · subst hij
      simp [cs_length, hj, mix]
    · rw [if_neg hij, cs_get k n _ j hj]
      have : (j < i) = (j < i + 1) := by apply propext; omega
      simp [mix, this]
  · rw [List.getElem?_eq_none (by simp [cs_length]; omega), List.getElem?_eq_none (by simp [cs_length]; omega)]

theorem cs_congr (k : IntKind) (n : Nat) (f g : Nat → Int) (h : ∀ j, j < n → f j = g j) : cs k n f = cs k n g := by
  unfold cs
  apply List.map_congr_left
  intro j hj
  rw [h j (List.mem_range.1 hj)]

theorem Rd.below {k : IntKind} {w w' : World} {a : Option Addr} {n : Nat} {f : Nat → Int} {B : Nat} (h : Rd k w a n f) (hb : Below B w w') (hB : w.heap.size ≤ B) : Rd k w' a n f := by
  refine ⟨h.1, fun j hj => ?_⟩
  have h1 := h.2 j hj
  have h2 := World.block_lt_of_cell? w _ h1
  rw [hb.cell (by omega)]
  exact h1

set_option maxHeartbeats 400000 in
theorem clone_bytes (a : Option Addr) (n c : Nat) (f : Nat → Int) (hn : n ≤ 2097152) (w : World) (hr : Rd .u8 w a n f) :
    Calls Try.prog 7 #[.slice a n c] w fun e w' => ∃ a', e = .returned (.slice a' n n) ∧ Own w.heap.size w' 5 .u8 a' n n f ∧ Below w.heap.size w w' := by
  have q22 : ∀ (w : World) (a : Option Addr) (n c n' c' : Nat), (binOp .eql 22 (.slice a n c) (.slice none n' c')).run Try.prog w = .ok (.bool a.isNone) w := fun w a n c n' c' => Lib.run_eql_slice_nil w _ _ a n c n' c' Try.underlying22
  obtain ⟨i0, hi, hz0, hz1, hz2⟩ := info_parts info5
  cases a with
  | none =>
    obtain rfl := hr.1 rfl
    go_enter Try.func7, Try.ntmps7
    go_wp2
    go_ret
    exact ⟨none, rfl, World.ownsRow_nil _ _ _ _, Below.refl _ _⟩
  | some x =>
    go_enter Try.func7, Try.ntmps7
    go_wp2_with (at_make; refine wpList_make_full _ rfl _ _ 22 rfl w.heap.size 5 i0 (.int .u8 0) 1 Try.underlying22 hi hz0 hz1 _ _ _ _ n rfl rfl (by omega) (by omega) ?c1 ?c2 ?c3 ?_)
    case c1 => rw [hz2]; omega
    case c2 => unfold maxLen; omega
    case c3 => exact Nat.le_refl _
    intro w1 hown hgrow
    rw [cs_made .u8 n f] at hown
    have hb1 : Below w.heap.size w w1 := (Below.refl _ _).grown hgrow (Nat.le_refl _) (by simp)
    clear hgrow
    go_wp2
    go_loopw [4] (fun i wr => ∃ k : Nat, k ≤ n ∧ i = .int .i64 k ∧ wr.ownsRow w.heap.size 5 1 (.slice (some ⟨w.heap.size, 0, none⟩) n n) n (cs .u8 n (mix f k)) ∧ Below w.heap.size w wr) (fun i _ => n - (intOf i).toNat)
    case atStart => exact ⟨0, Nat.zero_le _, rfl, hown, hb1⟩
    case round =>
      obtain ⟨k, hk, rfl, ho, hb⟩ := hrel
      clear hown hb1
      by_cases hlt : k < n
      · have hc : wr.cell? (x.add k) = some (.int .u8 (f k)) := (hr.below hb (Nat.le_refl _)).2 k hlt
        have hfz := ho.frozenAt k
        have hct : wr.cell? ⟨w.heap.size, k, none⟩ = some (.int .u8 (mix f k k)) := (ho.cellAt k (by omega)).trans (cs_get _ _ _ _ hlt)
        have R := (ho.stored k (.int .u8 (f k)))
        rw [cs_set] at R
        have hb2 : Below w.heap.size w (wr.setCell ⟨w.heap.size, k, none⟩ (.int .u8 (f k))) := hb.setCell (Nat.le_refl _) _
        have R1 := R.1
        clear R ho hb
        go_wp2
        go_roundw
        case rel => exact ⟨k + 1, by omega, by go_num, R1, hb2⟩
        case measure => simp [intOf]; omega
      · go_wp2
        go_ret
        obtain rfl : k = n := by omega
        refine ⟨some ⟨w.heap.size, 0, none⟩, rfl, ?_, hb⟩
        unfold Own
        rw [cs_congr .u8 k f (mix f k) (fun j hj => by simp [mix, hj])]
        exact ho
end Go.Proofs.Qxb6613217a.B
