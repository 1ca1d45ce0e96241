import Derived.Test.Qxb6614029aRows
import Derived.WalkKit
import Derived.ProofKit
import Derived.Below
import Derived.Lib.SliceRun
import Derived.WalkSpells
import Derived.WalkLawsBesides
import Derived.Deep.QuietTactic
import Derived.BigQuiet
import Derived.Laws.AppendOwnNone
import Derived.Deep.RegionLaw
import Derived.Lib.AppendStr
import Derived.Outline
namespace Go.Proofs.Qxb6614029a.B
open Go.ChangeShapes Go.WideShapes Go.ChangeAt Go.RowKit

theorem info5 : (Try.prog.info? 5).map (fun i => (i.zero, i.size, i.bytes)) = some (some (.int .u8 0), 1, 1) := by kernel_rfl

/-- Where element k of a slice lies. -/
def ad (a : Option Addr) (k : Nat) : Addr := (a.getD default).add k

/-- The slice at a reads as n numbers, f 0 .. f (n - 1). -/
def Rd (k : IntKind) (w : World) (a : Option Addr) (n : Nat) (f : Nat → Int) : Prop :=
  (a = none → n = 0) ∧ ∀ j, j < n → w.cell? (ad a j) = some (.int k (f j))

/-- The cells of a row of n numbers. -/
def cs (k : IntKind) (n : Nat) (f : Nat → Int) : List Value := (List.range n).map fun j => Value.int k (f j)

theorem cs_length (k : IntKind) (n : Nat) (f : Nat → Int) : (cs k n f).length = n := by simp [cs]
theorem cs_get (k : IntKind) (n : Nat) (f : Nat → Int) (j : Nat) (h : j < n) : (cs k n f)[j]? = some (.int k (f j)) := by simp [cs, h]

/-- A row of the call's own. -/
def Own (base : Nat) (w : World) (e : TypeId) (k : IntKind) (a : Option Addr) (n c : Nat) (f : Nat → Int) : Prop :=
  w.ownsRow base e 1 (.slice a n c) n (cs k n f)

theorem Own.rd {base : Nat} {w : World} {e : TypeId} {k : IntKind} {a : Option Addr} {n c : Nat} {f : Nat → Int} (h : Own base w e k a n c f) : Rd k w a n f := by
  have h0 := h
  rcases h.2 with ⟨hv, hn⟩ | ⟨g, cap, cur, hv, _⟩
  · exact ⟨fun _ => hn, fun j hj => by omega⟩
  · simp only [Value.slice.injEq] at hv
    obtain ⟨rfl, _, rfl⟩ := hv
    refine ⟨fun h => by simp at h, fun j hj => ?_⟩
    have := h0.cells (g := g) rfl j (.int k (f j)) (cs_get k n f j hj)
    simpa [ad] using this

theorem run_index {P : Program} (T e : TypeId) (i : TypeInfo) (hT : P.underlying T = some (.slice e)) (hi : P.info? e = some i) (hs : i.size = 1) (a : Option Addr) (n c k : Nat) (ha : a = none → n = 0) (hk : k < n) (w : World) :
    (Instr.indexAt T (.slice a n c) (.int .i64 (k : Int))).run P w = .ok (.pointer (some (ad a k))) w := by
  cases a with
  | none => have := ha rfl; omega
  | some x =>
    simp [Instr.indexAt, run_underlying hT, sizeOf, typeInfo, hi, hs, ad, asIntOf]
    intro h
    omega

theorem cs_congr (k : IntKind) (n : Nat) (f g : Nat → Int) (h : ∀ j, j < n → f j = g j) : cs k n f = cs k n g := by
  unfold cs
  apply List.map_congr_left
  intro j hj
  rw [h j (List.mem_range.1 hj)]

theorem Rd.below {k : IntKind} {w w' : World} {a : Option Addr} {n : Nat} {f : Nat → Int} {B : Nat} (h : Rd k w a n f) (hb : Below B w w') (hB : w.heap.size ≤ B) : Rd k w' a n f := by
  refine ⟨h.1, fun j hj => ?_⟩
  have h1 := h.2 j hj
  have h2 := World.block_lt_of_cell? w _ h1
  rw [hb.cell (by omega)]
  exact h1

/-- f's first n numbers, then h's. -/
def app (n : Nat) (f h : Nat → Int) (j : Nat) : Int := if j < n then f j else h (j - n)

theorem cs_app (k : IntKind) (n m : Nat) (f h : Nat → Int) : cs k n f ++ cs k m h = cs k (n + m) (app n f h) := by
  apply List.ext_getElem?
  intro j
  by_cases hj : j < n
  · rw [List.getElem?_append_left (by simp [cs_length]; omega), cs_get _ _ _ _ hj, cs_get _ _ _ _ (by omega)]
    simp [app, hj]
  · rw [List.getElem?_append_right (by simp [cs_length]; omega), cs_length]
    by_cases hj2 : j < n + m
    · rw [cs_get _ _ _ _ (by omega), cs_get _ _ _ _ hj2]
      simp [app, hj]
    · rw [List.getElem?_eq_none (by simp [cs_length]; omega), List.getElem?_eq_none (by simp [cs_length]; omega)]

theorem own_shape {w : World} {base : Nat} {e : TypeId} {v : Value} {n : Nat} {xs : List Value} (h : w.ownsRow base e 1 v n xs) : ∃ a c, v = .slice a n c ∧ (a = none → c = 0) := by
  rcases h.2 with ⟨rfl, rfl⟩ | ⟨g, cap, cur, rfl, _⟩
  · exact ⟨none, 0, rfl, fun _ => rfl⟩
  · exact ⟨_, cap, rfl, fun h => by simp at h⟩

/-- What one append makes, both ways (there is room; a new array), whatever is appended (nil too). -/
theorem run_append_any {P : Program} (w : World) (base : Nat) (t ty e : TypeId) (i : TypeInfo) (k : IntKind) (bytes : Nat) (ht : P.underlying t = some (.slice e)) (hi : P.info? e = some i) (hz : i.zero = some (.int k 0)) (hs : i.size = 1) (hby : i.bytes = bytes)
    (a : Option Addr) (n c : Nat) (f : Nat → Int) (hown : Own base w e k a n c f) (b : Option Addr) (m cb : Nat) (h : Nat → Int) (hsrc : Rd k w b m h) (hcb : b = none → cb = 0)
    (h63 : n + m ≤ maxLen) (hbytes : (n + m) * bytes ≤ 140737488355328) (hbase : base ≤ w.heap.size) :
    ∃ a1 c1 w', (Builtin.append_ #[t, t] ty #[.slice a n c, .slice b m cb]).run P w = .ok (.slice a1 (n + m) c1) w' ∧ (a1 = none → c1 = 0) ∧ Own base w' e k a1 (n + m) c1 (app n f h) ∧ w.grownBy w' (Value.slice a n c).ownBlock := by
  cases b with
  | none =>
    obtain rfl := hsrc.1 rfl
    obtain rfl := hcb rfl
    have hr := run_append_owned_none (P := P) (w := w) base t ty e i 1 ht hi _ n _ hown
    obtain ⟨a', c', hv, hc'⟩ := own_shape hown
    simp only [Value.slice.injEq, true_and] at hv
    obtain ⟨rfl, rfl⟩ := hv
    refine ⟨a, c, w, hr, hc', ?_, ⟨rfl, rfl, rfl, Nat.le_refl _, fun _ _ _ => rfl⟩⟩
    unfold Own
    rw [cs_congr k (n + 0) (app n f h) f (fun j hj => by simp [app]; omega)]
    exact hown
  | some x =>
    obtain ⟨v', w', hr, ho, hg, _⟩ := run_append_own (P := P) w base t ty e i (.int k 0) 1 bytes ht hi hz hs hby rfl (by decide) _ n _ hown x m cb (cs k m h) (by simp [cs_length])
      (fun j u hu => by
        have hj : j < m := by
          have := (List.getElem?_eq_some_iff.1 hu).1
          simpa [cs_length] using this
        rw [cs_get _ _ _ _ hj] at hu
        cases hu
        exact hsrc.2 j hj)
      (fun u hu => by
        unfold cs at hu
        obtain ⟨j, _, rfl⟩ := List.mem_map.1 hu
        rfl) h63 hbytes hbase
    rw [cs_app] at ho
    obtain ⟨a1, c1, rfl, hc1⟩ := own_shape ho
    exact ⟨a1, c1, w', hr, hc1, ho, hg⟩

theorem wpList_append_any {P : Program} (w : World) {ops : Array Oper} {rest : List Oper} {o : Oper} {act : Act} {Q : Exit → Act → World → Prop} (hgd : o.guard = none) (s x : Operand) (t : TypeId)
    (ho : o.op = .call { callee := .builtin .append, args := #[s, x], argTypes := #[t, t] })
    (base : Nat) (e : TypeId) (i : TypeInfo) (k : IntKind) (bytes : Nat) (ht : P.underlying t = some (.slice e)) (hi : P.info? e = some i) (hz : i.zero = some (.int k 0)) (hs : i.size = 1) (hby : i.bytes = bytes)
    (a : Option Addr) (n c : Nat) (f : Nat → Int) (hsv : act.eval s = .slice a n c) (hown : Own base w e k a n c f) (b : Option Addr) (m cb : Nat) (h : Nat → Int) (hxv : act.eval x = .slice b m cb) (hsrc : Rd k w b m h) (hcb : b = none → cb = 0)
    (h63 : n + m ≤ maxLen) (hbytes : (n + m) * bytes ≤ 140737488355328) (hbase : base ≤ w.heap.size)
    (hK : ∀ a1 c1 w', (a1 = none → c1 = 0) → Own base w' e k a1 (n + m) c1 (app n f h) → w.grownBy w' (Value.slice a n c).ownBlock → wpList P ops Q rest (act.put o.dst (.slice a1 (n + m) c1)) w') : wpList P ops Q (o :: rest) act w := by
  refine wpList_plain hgd fun K hK' => ?_
  obtain ⟨a1, c1, w', hr, h2, h3, h4⟩ := run_append_any (P := P) w base t o.type e i k bytes ht hi hz hs hby a n c f hown b m cb h hsrc hcb h63 hbytes hbase
  unfold Oper.wp execOp
  simp only [ho, resolve, invoke, builtin, Sem.run_bind, Sem.run_pure, Result.andThen_ok, List.map_toArray, List.map_cons, List.map_nil, hsv, hxv, hr]
  exact hK' _ _ (hK a1 c1 w' h2 h3 h4)

theorem step_append_any {P : Program} {w : World} {ops : Array Oper} {o : Oper} {act : Act} {K : Act → World → Prop} {Q : Exit → Act → World → Prop} {E : Prop} (hgd : o.guard = none) (s x : Operand) (t : TypeId)
    (ho : o.op = .call { callee := .builtin .append, args := #[s, x], argTypes := #[t, t] })
    (base : Nat) (e : TypeId) (i : TypeInfo) (k : IntKind) (bytes : Nat) (ht : P.underlying t = some (.slice e)) (hi : P.info? e = some i) (hz : i.zero = some (.int k 0)) (hs : i.size = 1) (hby : i.bytes = bytes)
    (a : Option Addr) (n c : Nat) (f : Nat → Int) (hsv : act.eval s = .slice a n c) (hown : Own base w e k a n c f) (b : Option Addr) (m cb : Nat) (h : Nat → Int) (hxv : act.eval x = .slice b m cb) (hsrc : Rd k w b m h) (hcb : b = none → cb = 0)
    (h63 : n + m ≤ maxLen) (hbytes : (n + m) * bytes ≤ 140737488355328) (hbase : base ≤ w.heap.size)
    (hK : ∀ a1 c1 w', (a1 = none → c1 = 0) → Own base w' e k a1 (n + m) c1 (app n f h) → w.grownBy w' (Value.slice a n c).ownBlock → K (act.put o.dst (.slice a1 (n + m) c1)) w') :
    if Region.wanted o (yielded ops act.tmps) = true then Oper.wp P o act w K Q else E := by
  have hw : Region.wanted o (yielded ops act.tmps) = true := by simp [Region.wanted, hgd]
  rw [if_pos hw]
  obtain ⟨a1, c1, w', hr, h2, h3, h4⟩ := run_append_any (P := P) w base t o.type e i k bytes ht hi hz hs hby a n c f hown b m cb h hsrc hcb h63 hbytes hbase
  unfold Oper.wp execOp
  simp only [ho, resolve, invoke, builtin, Sem.run_bind, Sem.run_pure, Result.andThen_ok, List.map_toArray, List.map_cons, List.map_nil, hsv, hxv, hr]
  exact hK a1 c1 w' h2 h3 h4

theorem Own.mono {base base' : Nat} {w : World} {e : TypeId} {k : IntKind} {a : Option Addr} {n c : Nat} {f : Nat → Int} (h : Own base' w e k a n c f) (hb : base ≤ base') : Own base w e k a n c f := by
  refine ⟨h.1, ?_⟩
  rcases h.2 with h2 | ⟨g, cap, cur, hv, hg, r⟩
  · exact Or.inl h2
  · exact Or.inr ⟨g, cap, cur, hv, by omega, r⟩
theorem Own.below {base B : Nat} {w w' : World} {e : TypeId} {k : IntKind} {a : Option Addr} {n c : Nat} {f : Nat → Int} (h : Own base w e k a n c f) (hb : Below B w w') (hB : w.heap.size ≤ B) : Own base w' e k a n c f :=
  World.ownsRow.kept (row := none) h ⟨hb.os, hb.tape, hb.output, hb.size, fun i hi _ => hb.block i (by omega)⟩ (by cases h : (Value.slice a n c).ownBlock <;> simp)

theorem Rd.take {k : IntKind} {w : World} {a : Option Addr} {n t : Nat} {f : Nat → Int} (h : Rd k w a n f) (ht : t ≤ n) : Rd k w a t f :=
  ⟨fun e => by have := h.1 e; omega, fun j hj => h.2 j (by omega)⟩

theorem Rd.drewN {k : IntKind} {w : World} {a : Option Addr} {n : Nat} {f : Nat → Int} (h : Rd k w a n f) (q : Nat) : Rd k (w.drewN q) a n f := ⟨h.1, fun j hj => h.2 j hj⟩

theorem Rd.sameHeap {k : IntKind} {w X : World} {a : Option Addr} {n : Nat} {f : Nat → Int} (h : Rd k w a n f) (hX : X.heap = w.heap) : Rd k X a n f :=
  ⟨h.1, fun j hj => (World.cell?_of_block (by rw [hX])).trans (h.2 j hj)⟩

theorem Own.cap_ge {base : Nat} {w : World} {e : TypeId} {k : IntKind} {a : Option Addr} {n c : Nat} {f : Nat → Int} (h : Own base w e k a n c f) : n ≤ c := by
  rcases h.2 with ⟨hv, hn⟩ | ⟨g, cap, cur, hv, _, _, h1, _⟩
  · omega
  · simp only [Value.slice.injEq] at hv
    obtain ⟨_, _, rfl⟩ := hv
    exact h1


theorem ix24 (a : Option Addr) (n c k : Nat) (ha : a = none → n = 0) (hk : k < n) (w : World) : (Instr.indexAt 24 (.slice a n c) (.int .i64 (k : Int))).run Try.prog w = .ok (.pointer (some (ad a k))) w := by
  obtain ⟨i3, hi3, hz3, hs3, hb3⟩ := info_parts info5
  exact run_index 24 5 i3 Try.underlying24 hi3 hs3 a n c k ha hk w
end Go.Proofs.Qxb6614029a.B
