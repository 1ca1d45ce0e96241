import Derived.Test.Qxb6614029aSmall
namespace Go.Proofs.Qxb6614029a.B
open Go.ChangeShapes Go.WideShapes Go.ChangeAt Go.RowKit

theorem endAt_lt (f : Nat → Int) (fuel i n : Nat) (h : endAt f fuel i = some n) : i < n := by
  induction fuel generalizing i with
  | zero => simp [endAt] at h
  | succ fuel ih =>
    unfold endAt at h
    by_cases h0 : f i = 0
    · rw [if_pos h0] at h
      cases h
      omega
    · rw [if_neg h0] at h
      by_cases h1 : 63 < f i
      · rw [if_pos h1] at h; cases h
      · rw [if_neg h1] at h
        have := ih _ h
        omega
theorem endAt_congr (f g : Nat → Int) (fuel i n : Nat) (h : endAt f fuel i = some n) (hfg : ∀ j, j < n → f j = g j) : endAt g fuel i = some n := by
  induction fuel generalizing i with
  | zero => simp [endAt] at h
  | succ fuel ih =>
    have hi := hfg i (endAt_lt f _ i n h)
    unfold endAt at h ⊢
    rw [← hi]
    by_cases h0 : f i = 0
    · rw [if_pos h0] at h ⊢; exact h
    · rw [if_neg h0] at h ⊢
      by_cases h1 : 63 < f i
      · rw [if_pos h1] at h; cases h
      · rw [if_neg h1] at h ⊢
        exact ih _ h
theorem endAt_unique (f : Nat → Int) (a b i n m : Nat) (h : endAt f a i = some n) (k : endAt f b i = some m) : n = m := by
  induction a generalizing i b with
  | zero => simp [endAt] at h
  | succ a ih =>
    cases b with
    | zero => simp [endAt] at k
    | succ b =>
      unfold endAt at h k
      by_cases h0 : f i = 0
      · rw [if_pos h0] at h k
        cases h; cases k; rfl
      · rw [if_neg h0] at h k
        by_cases h1 : 63 < f i
        · rw [if_pos h1] at h; cases h
        · rw [if_neg h1] at h k
          exact ih _ _ h k

theorem sb_ext (s1 s2 : ByteArray) (hs : s1.size = s2.size) (h : ∀ j, j < s1.size → sb s1 j = sb s2 j) : s1 = s2 := by
  have hl : s1.data.toList = s2.data.toList := by
    apply List.ext_getElem
    · simpa using hs
    · intro j h1 h2
      have h1' : j < s1.size := by simpa using h1
      have := h j h1'
      unfold sb at this
      rw [List.getD, List.getD, List.getElem?_eq_getElem h1, List.getElem?_eq_getElem h2] at this
      simp only [Option.getD_some] at this
      exact UInt8.toNat_inj.1 (by omega)
  cases s1 with
  | mk d1 =>
    cases s2 with
    | mk d2 =>
      congr 1
      exact Array.toList_inj.1 hl

/-- What Encode writes. -/
def enc (H : Nat → Int) (s : ByteArray) (g : Nat → Int) : Nat → Int := app (18 + s.size) (app 18 H (sb s)) g

theorem enc_head (H : Nat → Int) (s : ByteArray) (g : Nat → Int) (j : Nat) (h : j < 18) : enc H s g j = H j := by
  unfold enc app
  rw [if_pos (by omega), if_pos h]
theorem enc_name (H : Nat → Int) (s : ByteArray) (g : Nat → Int) (j : Nat) (h : j < s.size) : enc H s g (18 + j) = sb s j := by
  unfold enc app
  rw [if_pos (by omega), if_neg (by omega), show 18 + j - 18 = j by omega]
theorem enc_sig (H : Nat → Int) (s : ByteArray) (g : Nat → Int) (j : Nat) : enc H s g (18 + s.size + j) = g j := by
  unfold enc app
  rw [if_neg (by omega), show 18 + s.size + j - (18 + s.size) = j by omega]

/-- TWO ENCODINGS UNDER ONE HEADER READ ALIKE JUST WHEN NAMES AND SIGNATURES DO. -/
theorem tells (H : Nat → Int) (s1 s2 : ByteArray) (n1 n2 : Nat) (g1 g2 : Nat → Int) (w1 : WF s1) (w2 : WF s2) (hl : 18 + s1.size + n1 = 18 + s2.size + n2) (h : ∀ j, j < 18 + s1.size + n1 → enc H s1 g1 j = enc H s2 g2 j) :
    s1 = s2 ∧ n1 = n2 ∧ ∀ j, j < n1 → g1 j = g2 j := by
  obtain ⟨fa, ha⟩ := w1
  obtain ⟨fb, hb⟩ := w2
  have k1 := endAt_congr (sb s1) (fun j => enc H s1 g1 (18 + j)) fa 0 s1.size ha (fun j hj => (enc_name H s1 g1 j hj).symm)
  have k2 := endAt_congr (sb s2) (fun j => enc H s1 g1 (18 + j)) fb 0 s2.size hb (fun j hj => by
    rw [← enc_name H s2 g2 j hj]
    exact (h (18 + j) (by omega)).symm)
  have hs : s1.size = s2.size := endAt_unique _ fa fb 0 _ _ k1 k2
  have es : s1 = s2 := sb_ext s1 s2 hs (fun j hj => by
    rw [← enc_name H s1 g1 j hj, ← enc_name H s2 g2 j (by omega)]
    exact h (18 + j) (by omega))
  subst es
  refine ⟨rfl, by omega, fun j hj => ?_⟩
  rw [← enc_sig H s1 g1 j, ← enc_sig H s1 g2 j]
  exact h _ (by omega)
theorem tells_same (H : Nat → Int) (s : ByteArray) (n : Nat) (g1 g2 : Nat → Int) (h : ∀ j, j < n → g1 j = g2 j) : ∀ j, j < 18 + s.size + n → enc H s g1 j = enc H s g2 j := by
  intro j hj
  unfold enc app
  by_cases h1 : j < 18 + s.size
  · rw [if_pos h1, if_pos h1]
  · rw [if_neg h1, if_neg h1]
    exact h _ (by omega)
end Go.Proofs.Qxb6614029a.B
