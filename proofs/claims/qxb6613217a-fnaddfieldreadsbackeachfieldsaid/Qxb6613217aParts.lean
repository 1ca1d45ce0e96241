import Derived.Test.Qxb6613217aLawFour
namespace Go.Proofs.Qxb6613217a.B
open Go.ChangeShapes Go.WideShapes Go.ChangeAt Go.RowKit

theorem info22 : (Try.prog.info? 22).map (fun i => (i.zero, i.size, i.bytes)) = some (some (.slice none 0 0), 1, 24) := by kernel_rfl

/-- A slice of byte slices reads as n of them: the i-th lies at pa i, has pn i bytes, pf i 0 .. -/
def RdP (w : World) (a : Option Addr) (n : Nat) (pa : Nat → Option Addr) (pn pc : Nat → Nat) (pf : Nat → Nat → Int) : Prop :=
  (a = none → n = 0) ∧ ∀ i, i < n → w.cell? (ad a i) = some (.slice (pa i) (pn i) (pc i)) ∧ Rd .u8 w (pa i) (pn i) (pf i)

theorem RdP.below {w w' : World} {a : Option Addr} {n : Nat} {pa : Nat → Option Addr} {pn pc : Nat → Nat} {pf : Nat → Nat → Int} {B : Nat} (h : RdP w a n pa pn pc pf) (hb : Below B w w') (hB : w.heap.size ≤ B) : RdP w' a n pa pn pc pf := by
  refine ⟨h.1, fun i hi => ?_⟩
  obtain ⟨h1, h2⟩ := h.2 i hi
  have h3 := World.block_lt_of_cell? w _ h1
  exact ⟨(hb.cell (by omega)).trans h1, h2.below hb hB⟩

theorem ix24 (a : Option Addr) (n c k : Nat) (ha : a = none → n = 0) (hk : k < n) (w : World) : (Instr.indexAt 24 (.slice a n c) (.int .i64 (k : Int))).run Try.prog w = .ok (.pointer (some (ad a k))) w := by
  obtain ⟨i3, hi3, hz3, hs3, hb3⟩ := info_parts info22
  exact run_index 24 22 i3 Try.underlying24 hi3 hs3 a n c k ha hk w

set_option maxHeartbeats 1000000 in
theorem bytes3_no (a0 : Option Addr) (n0 c0 : Nat) (a1 : Option Addr) (n1 c1 : Nat) (a2 : Option Addr) (n2 c2 : Nat) (h0 : n0 ≤ maxLen) (h1 : n1 ≤ maxLen) (h2 : n2 ≤ maxLen) (h : ¬ n0 + n1 + n2 ≤ 1048576) (w : World) :
    Calls Try.prog 5 #[.slice a0 n0 c0, .slice a1 n1 c1, .slice a2 n2 c2] w fun e w' => e = .returned (.bool false) ∧ w' = w := by
  unfold maxLen at h0 h1 h2
  by_cases g0 : n0 ≤ 1048576
  · by_cases g1 : n1 ≤ 1048576
    · by_cases g3 : n0 + n1 ≤ 1048576
      · by_cases g2 : n2 ≤ 1048576
        all_goals
          go_enter Try.func5, Try.ntmps5
          go_wp2
          go_ret
          exact ⟨rfl, rfl⟩
      · go_enter Try.func5, Try.ntmps5
        go_wp2
        go_ret
        exact ⟨rfl, rfl⟩
    · go_enter Try.func5, Try.ntmps5
      go_wp2
      go_ret
      exact ⟨rfl, rfl⟩
  · go_enter Try.func5, Try.ntmps5
    go_wp2
    go_ret
    exact ⟨rfl, rfl⟩

set_option maxRecDepth 100000 in
set_option maxHeartbeats 1000000 in
theorem bytes3_yes (a0 : Option Addr) (n0 c0 : Nat) (a1 : Option Addr) (n1 c1 : Nat) (a2 : Option Addr) (n2 c2 : Nat) (pa : Nat → Option Addr) (pn pc : Nat → Nat) (pf : Nat → Nat → Int) (w : World) (hr : RdP w a2 n2 pa pn pc pf) (hm : ∀ i, i < n2 → pn i ≤ maxLen) (h : n0 + n1 + n2 ≤ 1048576) :
    Calls Try.prog 5 #[.slice a0 n0 c0, .slice a1 n1 c1, .slice a2 n2 c2] w fun e w' => (e = .returned (.bool false) ∨ (e = .returned (.bool true) ∧ ∀ i, i < n2 → pn i ≤ 1048576)) ∧ w' = w := by
  go_enter Try.func5, Try.ntmps5
  go_wp2
  go_loop [7, 8] (fun s i => ∃ k q : Nat, k ≤ n2 ∧ s = .int .i64 q ∧ q ≤ 1048576 ∧ i = .int .i64 k ∧ Hid (∀ j, j < k → pn j ≤ 1048576)) (fun _ i => n2 - (intOf i).toNat)
  case atStart => exact ⟨0, n0 + n1 + n2, Nat.zero_le _, by go_num, h, rfl, fun j hj => by omega⟩
  case round =>
    obtain ⟨k, q, hk, rfl, hq, rfl, HK⟩ := hrel
    by_cases hlt : k < n2
    · have hx := ix24 a2 n2 c2 k hr.1 hlt
      have hc := (hr.2 k hlt).1
      have hm' := hm k hlt
      unfold maxLen at hm'
      have HN : Hid (pn k ≤ 1048576 → ∀ j, j < k + 1 → pn j ≤ 1048576) := fun hp j hj => by
        by_cases e : j = k
        · rw [e]; exact hp
        · exact HK.out j (by omega)
      clear hm HK
      generalize pn k = p at *
      by_cases g1 : p ≤ 1048576
      · by_cases g2 : q + p ≤ 1048576
        · go_wp2
          go_round
          case rel => exact ⟨k + 1, q + p, by omega, by go_num, g2, by go_num, HN.out g1⟩
          case measure => simp [intOf]; omega
        · go_wp2
          go_ret
          exact ⟨Or.inl rfl, rfl⟩
      · go_wp2
        go_ret
        exact ⟨Or.inl rfl, rfl⟩
    · go_wp2
      go_ret
      exact ⟨Or.inr ⟨rfl, fun i hi => HK.out i (by omega)⟩, rfl⟩

/-- What the copy of the list of parts holds after k rounds. -/
def rowP (n : Nat) (pb : Nat → Option Addr) (pn : Nat → Nat) (k : Nat) : List Value := (List.range n).map fun j => if j < k then Value.slice (pb j) (pn j) (pn j) else .slice none 0 0

theorem rowP_length (n : Nat) (pb : Nat → Option Addr) (pn : Nat → Nat) (k : Nat) : (rowP n pb pn k).length = n := by simp [rowP]
theorem rowP_get (n : Nat) (pb : Nat → Option Addr) (pn : Nat → Nat) (k j : Nat) (h : j < n) : (rowP n pb pn k)[j]? = some (if j < k then Value.slice (pb j) (pn j) (pn j) else .slice none 0 0) := by simp [rowP, h]
theorem rowP_made (n : Nat) (pb : Nat → Option Addr) (pn : Nat → Nat) : (madeCells #[Value.slice none 0 0] n).toList = rowP n pb pn 0 := by
  apply List.ext_getElem?
  intro j
  by_cases hj : j < n
  · rw [rowP_get n pb pn 0 j hj]
    simp [madeCells, hj, Nat.mod_one]
  · rw [List.getElem?_eq_none (by simp [madeCells]; omega), List.getElem?_eq_none (by simp [rowP_length]; omega)]
theorem rowP_set (n : Nat) (pb : Nat → Option Addr) (pn : Nat → Nat) (k : Nat) (b : Option Addr) : (rowP n pb pn k).set k (.slice b (pn k) (pn k)) = rowP n (fun j => if j = k then b else pb j) pn (k + 1) := by
  apply List.ext_getElem?
  intro j
  by_cases hj : j < n
  · rw [rowP_get n _ pn _ j hj, List.getElem?_set]
    by_cases hij : k = j
    · subst hij
      simp [rowP_length, hj]
    · have h1 : ¬ j = k := fun e => hij e.symm
      have h2 : (j < k) = (j < k + 1) := by apply propext; omega
      rw [if_neg hij, rowP_get n pb pn k j hj]
      simp only [h1, h2, if_false]
  · rw [List.getElem?_eq_none (by simp [rowP_length]; omega), List.getElem?_eq_none (by simp [rowP_length]; omega)]

/-- What one round does: the clone of part k is made, then laid into the row. -/
theorem clone_step {B n k : Nat} {w wr w1 : World} {pb : Nat → Option Addr} {pn : Nat → Nat} {pf : Nat → Nat → Int} {a' : Option Addr} (hB : B ≤ wr.heap.size)
    (ho : wr.ownsRow B 22 1 (.slice (some ⟨B, 0, none⟩) n n) n (rowP n pb pn k)) (hp : ∀ j, j < k → Own B wr 5 .u8 (pb j) (pn j) (pn j) (pf j)) (hb : Below B w wr)
    (o1 : Own wr.heap.size w1 5 .u8 a' (pn k) (pn k) (pf k)) (b1 : Below wr.heap.size wr w1) (hk : k < n) :
    w1.cell? ⟨B, k, none⟩ = some (.slice none 0 0) ∧ w1.frozen? ⟨B, k, none⟩ = false ∧
    (w1.setCell ⟨B, k, none⟩ (.slice a' (pn k) (pn k))).ownsRow B 22 1 (.slice (some ⟨B, 0, none⟩) n n) n (rowP n (fun j => if j = k then a' else pb j) pn (k + 1)) ∧
    (∀ j, j < k + 1 → Own B (w1.setCell ⟨B, k, none⟩ (.slice a' (pn k) (pn k))) 5 .u8 (if j = k then a' else pb j) (pn j) (pn j) (pf j)) ∧
    Below B w (w1.setCell ⟨B, k, none⟩ (.slice a' (pn k) (pn k))) := by
  have hg : wr.grownBy w1 none := ⟨b1.os, b1.tape, b1.output, b1.size, fun i hi _ => b1.block i hi⟩
  have ho1 := ho.kept hg (Or.inr (by simp [Value.ownBlock]))
  have hc := ho1.cellAt k (by omega)
  rw [rowP_get n pb pn k k hk, if_neg (by omega)] at hc
  refine ⟨hc, ho1.frozenAt k, ?_, ?_, ?_⟩
  · have := (ho1.stored k (.slice a' (pn k) (pn k))).1
    rw [rowP_set] at this
    exact this
  · intro j hj
    have hne : ∀ {v : Value} {m : Nat} {xs : List Value}, w1.ownsRow B 5 1 v m xs → some B ≠ v.ownBlock := by
      intro v m xs hv e
      rcases own_ne ho1 hv (by decide) with h | h
      · rw [h] at e; simp at e
      · exact h (by rw [← e]; rfl)
    by_cases e : j = k
    · subst e
      rw [if_pos rfl]
      have o2 := o1.mono hB
      exact own_store o2 (hne o2) _
    · rw [if_neg e]
      have o2 := (hp j (by omega)).below b1 (Nat.le_refl _)
      exact own_store o2 (hne o2) _
  · exact (hb.trans (b1.mono hB)).setCell (Nat.le_refl _) _

set_option maxRecDepth 100000 in
set_option maxHeartbeats 1000000 in
theorem clone_parts (a : Option Addr) (n c : Nat) (pa : Nat → Option Addr) (pn pc : Nat → Nat) (pf : Nat → Nat → Int) (hn : n ≤ 2097152) (hl : ∀ i, i < n → pn i ≤ 2097152) (w : World) (hr : RdP w a n pa pn pc pf) :
    Calls Try.prog 9 #[.slice a n c] w fun e w' => ∃ a' pb, e = .returned (.slice a' n n) ∧ RdP w' a' n pb pn pn pf ∧ Below w.heap.size w w' := by
  have q24 : ∀ (w : World) (a : Option Addr) (n c n' c' : Nat), (binOp .eql 24 (.slice a n c) (.slice none n' c')).run Try.prog w = .ok (.bool a.isNone) w := fun w a n c n' c' => Lib.run_eql_slice_nil w _ _ a n c n' c' Try.underlying24
  obtain ⟨i0, hi, hz0, hz1, hz2⟩ := info_parts info22
  cases a with
  | none =>
    obtain rfl := hr.1 rfl
    go_enter Try.func9, Try.ntmps9
    go_wp2
    go_ret
    exact ⟨none, pa, rfl, ⟨fun _ => rfl, fun i hi => by omega⟩, Below.refl _ _⟩
  | some x =>
    go_enter Try.func9, Try.ntmps9
    go_wp2_with (at_make; refine wpList_make_full _ rfl _ _ 24 rfl w.heap.size 22 i0 (.slice none 0 0) 1 Try.underlying24 hi hz0 hz1 _ _ _ _ n rfl rfl (by omega) (by omega) ?c1 ?c2 ?c3 ?_)
    case c1 => rw [hz2]; omega
    case c2 => unfold maxLen; omega
    case c3 => exact Nat.le_refl _
    intro w1 hown hgrow
    rw [rowP_made n pa pn] at hown
    have hb1 : Below w.heap.size w w1 := (Below.refl _ _).grown hgrow (Nat.le_refl _) (by simp)
    clear hgrow
    go_wp2
    go_loopw [4] (fun i wr => ∃ (k : Nat) (pb : Nat → Option Addr), k ≤ n ∧ i = .int .i64 k ∧ wr.ownsRow w.heap.size 22 1 (.slice (some ⟨w.heap.size, 0, none⟩) n n) n (rowP n pb pn k) ∧ (∀ j, j < k → Own w.heap.size wr 5 .u8 (pb j) (pn j) (pn j) (pf j)) ∧ Below w.heap.size w wr) (fun i _ => n - (intOf i).toNat)
    case atStart => exact ⟨0, pa, Nat.zero_le _, rfl, hown, fun j hj => by omega, hb1⟩
    case round =>
      obtain ⟨k, pb, hk, rfl, ho, hp, hb⟩ := hrel
      clear hown hb1
      by_cases hlt : k < n
      · obtain ⟨hc, hrd⟩ := (hr.below hb (Nat.le_refl _)).2 k hlt
        have hpk := hl k hlt
        have hc' : wr.cell? (x.add k) = some (.slice (pa k) (pn k) (pc k)) := hc
        clear hc
        go_wp2_with fail
        refine (clone_bytes (pa k) (pn k) (pc k) (pf k) hpk _ hrd).mono ?_
        rintro e w2 ⟨a', rfl, o2, b2⟩
        obtain ⟨y1, y2, y3, y4, y5⟩ := clone_step hb.size ho hp hb o2 b2 hlt
        clear ho hp hb o2 b2 hc' hrd
        go_wp2
        go_roundw
        case rel => exact ⟨k + 1, _, by omega, by go_num, y3, y4, y5⟩
        case measure => simp [intOf]; omega
      · go_wp2
        go_ret
        obtain rfl : k = n := by omega
        refine ⟨some ⟨w.heap.size, 0, none⟩, pb, rfl, ⟨fun h => by simp at h, fun i hi => ⟨?_, (hp i hi).rd⟩⟩, hb⟩
        have := ho.cellAt i (by omega)
        rw [rowP_get k pb pn k i hi, if_pos hi] at this
        show wr.cell? ((⟨w.heap.size, 0, none⟩ : Addr).add i) = _
        rw [add_plain, Nat.zero_add]
        exact this
end Go.Proofs.Qxb6613217a.B
