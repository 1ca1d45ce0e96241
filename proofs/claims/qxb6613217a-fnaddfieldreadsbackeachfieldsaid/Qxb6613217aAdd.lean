import Derived.Test.Qxb6613217aBase
import Derived.Deep.RegionLaw
namespace Go.Proofs.Qxb6613217a.B
open Go.ChangeShapes Go.WideShapes Go.ChangeAt Go.RowKit

/-- f's first n numbers, then h's. -/
def app (n : Nat) (f h : Nat → Int) (j : Nat) : Int := if j < n then f j else h (j - n)

theorem cs_app (k : IntKind) (n m : Nat) (f h : Nat → Int) : cs k n f ++ cs k m h = cs k (n + m) (app n f h) := by
  apply List.ext_getElem?
  intro j
  by_cases hj : j < n
  · rw [List.getElem?_append_left (by simp [cs_length]; omega), cs_get _ _ _ _ hj, cs_get _ _ _ _ (by omega)]
    simp [app, hj]
  · rw [List.getElem?_append_right (by simp [cs_length]; omega), cs_length]
    by_cases hj2 : j < n + m
    · rw [cs_get _ _ _ _ (by omega), cs_get _ _ _ _ hj2]
      simp [app, hj]
    · rw [List.getElem?_eq_none (by simp [cs_length]; omega), List.getElem?_eq_none (by simp [cs_length]; omega)]

/-- A reader lies in block r; its fields 'fields' and 'ends' hold vf and ve. -/
def Rdr (w : World) (r : Nat) (vf ve : Value) : Prop := ∃ cs : Array Value, w.heap[r]? = some (.cells cs 42 (0, 0)) ∧ cs[9]? = some vf ∧ cs[10]? = some ve

theorem Rdr.lt {w : World} {r : Nat} {vf ve : Value} (h : Rdr w r vf ve) : r < w.heap.size := by
  obtain ⟨cs, h1, _⟩ := h
  exact (Array.getElem?_eq_some_iff.1 h1).1
theorem Rdr.cell9 {w : World} {r : Nat} {vf ve : Value} (h : Rdr w r vf ve) : w.cell? ⟨r, 9, none⟩ = some vf := by
  obtain ⟨cs, h1, h2, _⟩ := h
  rw [cell_of_row w r 9 cs 42 (0, 0) h1]; exact h2
theorem Rdr.cell10 {w : World} {r : Nat} {vf ve : Value} (h : Rdr w r vf ve) : w.cell? ⟨r, 10, none⟩ = some ve := by
  obtain ⟨cs, h1, _, h2⟩ := h
  rw [cell_of_row w r 10 cs 42 (0, 0) h1]; exact h2
theorem Rdr.frozen {w : World} {r : Nat} {vf ve : Value} (h : Rdr w r vf ve) (j : Nat) : w.frozen? ⟨r, j, none⟩ = false := by
  obtain ⟨cs, h1, _⟩ := h
  exact frozen_of_row w r j cs 42 h1
theorem Rdr.set9 {w : World} {r : Nat} {vf ve : Value} (h : Rdr w r vf ve) (v : Value) : Rdr (w.setCell ⟨r, 9, none⟩ v) r v ve := by
  obtain ⟨cs, h1, h2, h3⟩ := h
  have hs : 9 < cs.size := (Array.getElem?_eq_some_iff.1 h2).1
  refine ⟨cs.setIfInBounds 9 v, heap_setCell_same w r 9 cs 42 v h1, ?_, ?_⟩
  · simp [hs]
  · rw [Array.getElem?_setIfInBounds]; simpa using h3
theorem Rdr.set10 {w : World} {r : Nat} {vf ve : Value} (h : Rdr w r vf ve) (v : Value) : Rdr (w.setCell ⟨r, 10, none⟩ v) r vf v := by
  obtain ⟨cs, h1, h2, h3⟩ := h
  have hs : 10 < cs.size := (Array.getElem?_eq_some_iff.1 h3).1
  refine ⟨cs.setIfInBounds 10 v, heap_setCell_same w r 10 cs 42 v h1, ?_, ?_⟩
  · rw [Array.getElem?_setIfInBounds]; simpa using h2
  · simp [hs]
theorem Rdr.same {w w' : World} {r : Nat} {vf ve : Value} (h : Rdr w r vf ve) (hb : w'.heap[r]? = w.heap[r]?) : Rdr w' r vf ve := by
  obtain ⟨cs, h1, h2, h3⟩ := h
  exact ⟨cs, hb.trans h1, h2, h3⟩
theorem Rdr.below {w w' : World} {r : Nat} {vf ve : Value} {B : Nat} (h : Rdr w r vf ve) (hb : Below B w w') (hB : w.heap.size ≤ B) : Rdr w' r vf ve :=
  h.same (hb.block r (by have := h.lt; omega))

/-- A row's block is no reader's. -/
theorem Rdr.ne {w : World} {r : Nat} {vf ve : Value} (h : Rdr w r vf ve) {base : Nat} {e : TypeId} {v : Value} {n : Nat} {xs : List Value} (ho : w.ownsRow base e 1 v n xs) (he : e ≠ 42) : some r ≠ v.ownBlock := by
  obtain ⟨cs, h1, _⟩ := h
  rcases ho.2 with ⟨rfl, _⟩ | ⟨g, cap, cur, rfl, _, hg, _⟩
  · simp [Value.ownBlock]
  · intro e'
    simp [Value.ownBlock] at e'
    subst e'
    rw [h1] at hg
    simp at hg
    exact he hg.2.symm
/-- Two rows of different elements lie in different blocks. -/
theorem own_ne {w : World} {base base' : Nat} {e e' : TypeId} {v v' : Value} {n n' : Nat} {xs xs' : List Value} (ho : w.ownsRow base e 1 v n xs) (ho' : w.ownsRow base' e' 1 v' n' xs') (he : e ≠ e') : v'.ownBlock = none ∨ v'.ownBlock ≠ v.ownBlock := by
  rcases ho.2 with ⟨rfl, _⟩ | ⟨g, cap, cur, rfl, _, hg, _⟩
  · cases h : v'.ownBlock <;> simp [Value.ownBlock]
  · rcases ho'.2 with ⟨rfl, _⟩ | ⟨g', cap', cur', rfl, _, hg', _⟩
    · exact Or.inl rfl
    · right
      intro e0
      simp [Value.ownBlock] at e0
      subst e0
      rw [hg] at hg'
      simp at hg'
      exact he hg'.2

theorem own_shape {w : World} {base : Nat} {e : TypeId} {v : Value} {n : Nat} {xs : List Value} (h : w.ownsRow base e 1 v n xs) : ∃ a c, v = .slice a n c ∧ (a = none → c = 0) := by
  rcases h.2 with ⟨rfl, rfl⟩ | ⟨g, cap, cur, rfl, _⟩
  · exact ⟨none, 0, rfl, fun _ => rfl⟩
  · exact ⟨_, cap, rfl, fun h => by simp at h⟩

/-- A store into a reader's block leaves every row. -/
theorem own_store {w : World} {base : Nat} {e : TypeId} {v : Value} {n : Nat} {xs : List Value} (h : w.ownsRow base e 1 v n xs) {r j : Nat} (hne : some r ≠ v.ownBlock) (u : Value) : (w.setCell ⟨r, j, none⟩ u).ownsRow base e 1 v n xs :=
  h.kept (row := some r) ⟨rfl, rfl, rfl, by simp [World.setCell], fun k _ hk => Below.heap_setCell _ _ _ _ (fun e => hk (by simp [e]))⟩ (Or.inr (fun e => hne e.symm))

/-- What one append makes, both ways (there is room; a new array), whatever is appended (nil too). -/
theorem run_append_any {P : Program} (w : World) (base : Nat) (t ty e : TypeId) (i : TypeInfo) (k : IntKind) (bytes : Nat) (ht : P.underlying t = some (.slice e)) (hi : P.info? e = some i) (hz : i.zero = some (.int k 0)) (hs : i.size = 1) (hby : i.bytes = bytes)
    (a : Option Addr) (n c : Nat) (f : Nat → Int) (hown : Own base w e k a n c f) (b : Option Addr) (m cb : Nat) (h : Nat → Int) (hsrc : Rd k w b m h) (hcb : b = none → cb = 0)
    (h63 : n + m ≤ maxLen) (hbytes : (n + m) * bytes ≤ 140737488355328) (hbase : base ≤ w.heap.size) :
    ∃ a1 c1 w', (Builtin.append_ #[t, t] ty #[.slice a n c, .slice b m cb]).run P w = .ok (.slice a1 (n + m) c1) w' ∧ (a1 = none → c1 = 0) ∧ Own base w' e k a1 (n + m) c1 (app n f h) ∧ w.grownBy w' (Value.slice a n c).ownBlock := by
  cases b with
  | none =>
    obtain rfl := hsrc.1 rfl
    obtain rfl := hcb rfl
    have hr := run_append_owned_none (P := P) (w := w) base t ty e i 1 ht hi _ n _ hown
    obtain ⟨a', c', hv, hc'⟩ := own_shape hown
    simp only [Value.slice.injEq, true_and] at hv
    obtain ⟨rfl, rfl⟩ := hv
    refine ⟨a, c, w, hr, hc', ?_, ⟨rfl, rfl, rfl, Nat.le_refl _, fun _ _ _ => rfl⟩⟩
    unfold Own
    rw [cs_congr k (n + 0) (app n f h) f (fun j hj => by simp [app]; omega)]
    exact hown
  | some x =>
    obtain ⟨v', w', hr, ho, hg, _⟩ := run_append_own (P := P) w base t ty e i (.int k 0) 1 bytes ht hi hz hs hby rfl (by decide) _ n _ hown x m cb (cs k m h) (by simp [cs_length])
      (fun j u hu => by
        have hj : j < m := by
          have := (List.getElem?_eq_some_iff.1 hu).1
          simpa [cs_length] using this
        rw [cs_get _ _ _ _ hj] at hu
        cases hu
        exact hsrc.2 j hj)
      (fun u hu => by
        unfold cs at hu
        obtain ⟨j, _, rfl⟩ := List.mem_map.1 hu
        rfl) h63 hbytes hbase
    rw [cs_app] at ho
    obtain ⟨a1, c1, rfl, hc1⟩ := own_shape ho
    exact ⟨a1, c1, w', hr, hc1, ho, hg⟩

theorem wpList_append_any {P : Program} (w : World) {ops : Array Oper} {rest : List Oper} {o : Oper} {act : Act} {Q : Exit → Act → World → Prop} (hgd : o.guard = none) (s x : Operand) (t : TypeId)
    (ho : o.op = .call { callee := .builtin .append, args := #[s, x], argTypes := #[t, t] })
    (base : Nat) (e : TypeId) (i : TypeInfo) (k : IntKind) (bytes : Nat) (ht : P.underlying t = some (.slice e)) (hi : P.info? e = some i) (hz : i.zero = some (.int k 0)) (hs : i.size = 1) (hby : i.bytes = bytes)
    (a : Option Addr) (n c : Nat) (f : Nat → Int) (hsv : act.eval s = .slice a n c) (hown : Own base w e k a n c f) (b : Option Addr) (m cb : Nat) (h : Nat → Int) (hxv : act.eval x = .slice b m cb) (hsrc : Rd k w b m h) (hcb : b = none → cb = 0)
    (h63 : n + m ≤ maxLen) (hbytes : (n + m) * bytes ≤ 140737488355328) (hbase : base ≤ w.heap.size)
    (hK : ∀ a1 c1 w', (a1 = none → c1 = 0) → Own base w' e k a1 (n + m) c1 (app n f h) → w.grownBy w' (Value.slice a n c).ownBlock → wpList P ops Q rest (act.put o.dst (.slice a1 (n + m) c1)) w') : wpList P ops Q (o :: rest) act w := by
  refine wpList_plain hgd fun K hK' => ?_
  obtain ⟨a1, c1, w', hr, h2, h3, h4⟩ := run_append_any (P := P) w base t o.type e i k bytes ht hi hz hs hby a n c f hown b m cb h hsrc hcb h63 hbytes hbase
  unfold Oper.wp execOp
  simp only [ho, resolve, invoke, builtin, Sem.run_bind, Sem.run_pure, Result.andThen_ok, List.map_toArray, List.map_cons, List.map_nil, hsv, hxv, hr]
  exact hK' _ _ (hK a1 c1 w' h2 h3 h4)

theorem step_append_any {P : Program} {w : World} {ops : Array Oper} {o : Oper} {act : Act} {K : Act → World → Prop} {Q : Exit → Act → World → Prop} {E : Prop} (hgd : o.guard = none) (s x : Operand) (t : TypeId)
    (ho : o.op = .call { callee := .builtin .append, args := #[s, x], argTypes := #[t, t] })
    (base : Nat) (e : TypeId) (i : TypeInfo) (k : IntKind) (bytes : Nat) (ht : P.underlying t = some (.slice e)) (hi : P.info? e = some i) (hz : i.zero = some (.int k 0)) (hs : i.size = 1) (hby : i.bytes = bytes)
    (a : Option Addr) (n c : Nat) (f : Nat → Int) (hsv : act.eval s = .slice a n c) (hown : Own base w e k a n c f) (b : Option Addr) (m cb : Nat) (h : Nat → Int) (hxv : act.eval x = .slice b m cb) (hsrc : Rd k w b m h) (hcb : b = none → cb = 0)
    (h63 : n + m ≤ maxLen) (hbytes : (n + m) * bytes ≤ 140737488355328) (hbase : base ≤ w.heap.size)
    (hK : ∀ a1 c1 w', (a1 = none → c1 = 0) → Own base w' e k a1 (n + m) c1 (app n f h) → w.grownBy w' (Value.slice a n c).ownBlock → K (act.put o.dst (.slice a1 (n + m) c1)) w') :
    if Region.wanted o (yielded ops act.tmps) = true then Oper.wp P o act w K Q else E := by
  have hw : Region.wanted o (yielded ops act.tmps) = true := by simp [Region.wanted, hgd]
  rw [if_pos hw]
  obtain ⟨a1, c1, w', hr, h2, h3, h4⟩ := run_append_any (P := P) w base t o.type e i k bytes ht hi hz hs hby a n c f hown b m cb h hsrc hcb h63 hbytes hbase
  unfold Oper.wp execOp
  simp only [ho, resolve, invoke, builtin, Sem.run_bind, Sem.run_pure, Result.andThen_ok, List.map_toArray, List.map_cons, List.map_nil, hsv, hxv, hr]
  exact hK a1 c1 w' h2 h3 h4
end Go.Proofs.Qxb6613217a.B
