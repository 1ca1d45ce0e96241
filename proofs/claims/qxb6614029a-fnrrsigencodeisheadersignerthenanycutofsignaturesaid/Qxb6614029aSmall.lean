import Derived.Test.Qxb6614029aEncode
namespace Go.Proofs.Qxb6614029a.B
open Go.ChangeShapes Go.WideShapes Go.ChangeAt Go.RowKit

/-- Where the name that begins at i ends: label after label, to the zero octet. -/
def endAt (f : Nat → Int) : Nat → Nat → Option Nat
  | 0, _ => none
  | fuel + 1, i => if f i = 0 then some (i + 1) else if 63 < f i then none else endAt f fuel (i + (f i).toNat + 1)

/-- s is one whole name in wire form. -/
def WF (s : ByteArray) : Prop := ∃ fuel, endAt (sb s) fuel 0 = some s.size

set_option maxHeartbeats 400000 in
theorem nameFrom (s : ByteArray) (w : World) : Calls Try.prog 7 #[.string s] w fun e w' => e = .returned (.agg #[.string s]) ∧ w' = w.alloc (.cells #[.string s] 29) := by
  go_enter Try.func7, Try.ntmps7
  go_wp2
  exact bodyPost_ret (v := .agg #[.string s]) (by simp [results, Try.results7, go_sem]) rfl ⟨rfl, rfl⟩

set_option maxHeartbeats 1000000 in
theorem be_true (a : Option Addr) (n c : Nat) (f : Nat → Int) (b : Option Addr) (cb : Nat) (g : Nat → Int) (w : World) (hn : n ≤ 8388608) (hf : Rd .u8 w a n f) (hg : Rd .u8 w b n g) (he : ∀ j, j < n → f j = g j) :
    Calls Try.prog 12 #[.slice a n c, .slice b n cb] w fun e w' => e = .returned (.bool true) ∧ ∃ q, w' = w.drewN q := by
  go_enter Try.func12, Try.ntmps12
  go_wp2
  go_loopw [5] (fun i wr => ∃ k q : Nat, k ≤ n ∧ i = .int .i64 k ∧ wr = w.drewN q) (fun i _ => n - (intOf i).toNat)
  case atStart => exact ⟨0, 0, Nat.zero_le _, rfl, rfl⟩
  case round =>
    obtain ⟨k, q, hk, rfl, rfl⟩ := hrel
    by_cases hlt : k < n
    · have hx := ix24 a n c k hf.1 hlt
      have hy := ix24 b n cb k hg.1 hlt
      have hc := hf.2 k hlt
      have hd := hg.2 k hlt
      rw [he k hlt] at hc
      generalize g k = z at *
      go_wp2
      go_quiet (fail)
      go_wp2
      go_roundw
      case rel => exact ⟨k + 1, _, by omega, by go_num, rfl⟩
      case measure => simp [intOf]; omega
    · go_wp2
      go_ret
      exact ⟨rfl, _, rfl⟩

set_option maxHeartbeats 400000 in
theorem be_len (a : Option Addr) (n c : Nat) (b : Option Addr) (m cb : Nat) (w : World) (hne : n ≠ m) :
    Calls Try.prog 12 #[.slice a n c, .slice b m cb] w fun e w' => e = .returned (.bool false) ∧ ∃ q, w' = w.drewN q := by
  have hb : ((n : Int) != (m : Int)) = true := by rw [bne_iff_ne]; omega
  go_enter Try.func12, Try.ntmps12
  go_wp2
  go_ret
  exact ⟨rfl, 0, rfl⟩

set_option maxHeartbeats 1000000 in
theorem be_part (a : Option Addr) (n c : Nat) (f : Nat → Int) (b : Option Addr) (cb : Nat) (g : Nat → Int) (w : World) (hn : n ≤ 8388608) (hf : Rd .u8 w a n f) (hg : Rd .u8 w b n g) (he : ∃ j, j < n ∧ f j ≠ g j) :
    Calls Try.prog 12 #[.slice a n c, .slice b n cb] w fun e w' => e = .returned (.bool false) ∧ ∃ q, w' = w.drewN q := by
  have HE : Hid (∃ j, j < n ∧ f j ≠ g j) := he
  clear he
  go_enter Try.func12, Try.ntmps12
  go_wp2
  go_loopw [5] (fun i wr => ∃ k q : Nat, k ≤ n ∧ i = .int .i64 k ∧ wr = w.drewN q ∧ Hid (∀ j, j < k → f j = g j)) (fun i _ => n - (intOf i).toNat)
  case atStart => exact ⟨0, 0, Nat.zero_le _, rfl, rfl, fun j hj => by omega⟩
  case round =>
    obtain ⟨k, q, hk, rfl, rfl, HK⟩ := hrel
    by_cases hlt : k < n
    · have hx := ix24 a n c k hf.1 hlt
      have hy := ix24 b n cb k hg.1 hlt
      have hc := hf.2 k hlt
      have hd := hg.2 k hlt
      by_cases hfg : f k = g k
      · have HN : Hid (∀ j, j < k + 1 → f j = g j) := fun j hj => by
          by_cases e : j = k
          · rw [e]; exact hfg
          · exact HK.out j (by omega)
        rw [hfg] at hc
        clear HK hfg
        generalize g k = z at hc hd
        go_wp2
        go_quiet (fail)
        go_wp2
        go_roundw
        case rel => exact ⟨k + 1, _, by omega, by go_num, rfl, HN⟩
        case measure => simp [intOf]; omega
      · have hb : (f k != g k) = true := by rw [bne_iff_ne]; exact hfg
        clear hfg HK
        generalize f k = x at hc hb
        generalize g k = z at hd hb
        go_wp2
        go_quiet (fail)
        go_wp2
        go_ret
        exact ⟨rfl, q + nq, by rw [World.drewN_drewN]⟩
    · exfalso
      obtain ⟨j, hj, hne⟩ := HE.out
      exact hne (HK.out j (by omega))

/-- Two slices that read otherwise. -/
theorem be_false (a : Option Addr) (n c : Nat) (f : Nat → Int) (b : Option Addr) (m cb : Nat) (g : Nat → Int) (w : World) (hn : n ≤ 8388608) (hf : Rd .u8 w a n f) (hg : Rd .u8 w b m g) (he : ¬ (n = m ∧ ∀ j, j < n → f j = g j)) :
    Calls Try.prog 12 #[.slice a n c, .slice b m cb] w fun e w' => e = .returned (.bool false) ∧ ∃ q, w' = w.drewN q := by
  by_cases hnm : n = m
  · subst hnm
    refine be_part a n c f b cb g w hn hf hg ?_
    apply Classical.byContradiction
    intro hno
    apply he
    refine ⟨rfl, fun j hj => ?_⟩
    apply Classical.byContradiction
    intro hne
    exact hno ⟨j, hj, hne⟩
  · exact be_len a n c b m cb w hnm

theorem run_index_string (s : ByteArray) (k : Nat) (hk : k < s.size) (w : World) : (Instr.index 9 (.string s) (.int .i64 (k : Int))).run Try.prog w = .ok (.int .u8 (sb s k)) w := by
  have hj' : k < s.data.toList.length := by simpa using hk
  have e : s[k]? = some (s.data.toList.getD k 0) := by
    show s.data[k]? = _
    rw [List.getD, List.getElem?_eq_getElem hj']
    simp
  simp [Instr.index, run_underlying Try.underlying9, asIntOf, e, sb]
theorem sb_bd (s : ByteArray) (k : Nat) : 0 ≤ sb s k ∧ sb s k ≤ 255 := by
  unfold sb
  have := (s.data.toList.getD k 0).toNat_lt
  omega

set_option maxRecDepth 100000 in
set_option maxHeartbeats 1000000 in
theorem wellFormed (s : ByteArray) (hs : s.size ≤ maxLen) (w : World) :
    Calls Try.prog 6 #[.string s] w fun e w' => (e = .returned (.bool false) ∨ (e = .returned (.bool true) ∧ WF s ∧ s.size ≤ 255)) ∧ w' = w := by
  unfold maxLen at hs
  by_cases h0 : s.size = 0
  · have hb : ((s.size : Int) == 0) = true := by rw [beq_iff_eq]; omega
    have h0' : Hid (s.size = 0) := h0
    clear h0
    go_enter Try.func6, Try.ntmps6
    go_wp2
    go_ret
    exact ⟨Or.inl rfl, rfl⟩
  have hb : ((s.size : Int) == 0) = false := by rw [beq_eq_false_iff_ne]; omega
  by_cases h1 : s.size ≤ 255
  · go_enter Try.func6, Try.ntmps6
    go_wp2
    go_loop [3, 4] (fun i _ => ∃ k : Nat, k ≤ 1024 ∧ i = .int .i64 k ∧ Hid (∀ fuel n, endAt (sb s) fuel k = some n → ∃ fuel', endAt (sb s) fuel' 0 = some n)) (fun i _ => s.size - (intOf i).toNat)
    case atStart => exact ⟨0, by omega, rfl, fun fuel n h => ⟨fuel, h⟩⟩
    case round =>
      obtain ⟨k, hk, rfl, HK⟩ := hrel
      by_cases hlt : k < s.size
      · have hx := run_index_string s k hlt
        obtain ⟨z0, z1⟩ := sb_bd s k
        by_cases e0 : sb s k = 0
        · have HE : Hid (∃ fuel, endAt (sb s) fuel 0 = some (k + 1)) := HK.out 1 (k + 1) (by simp [endAt, e0])
          have hb0 : (sb s k == 0) = true := by rw [beq_iff_eq]; exact e0
          clear e0 HK
          generalize sb s k = z at hx z0 z1 hb0
          by_cases hl : k + 1 = s.size
          · have hbl : ((k : Int) == (s.size : Int) - 1) = true := by rw [beq_iff_eq]; omega
            have HW : Hid (WF s) := by
              obtain ⟨fuel, hf⟩ := HE.out
              exact ⟨fuel, by rw [hf, hl]⟩
            clear hl
            go_wp2
            go_ret
            exact ⟨Or.inr ⟨rfl, HW.out⟩, rfl⟩
          · have hbl : ((k : Int) == (s.size : Int) - 1) = false := by rw [beq_eq_false_iff_ne]; omega
            clear hl
            go_wp2
            go_ret
            exact ⟨Or.inl rfl, rfl⟩
        · have hb0 : (sb s k == 0) = false := by rw [beq_eq_false_iff_ne]; exact e0
          by_cases h63 : 63 < sb s k
          · clear HK e0
            generalize sb s k = z at hx z0 z1 hb0 h63
            go_wp2
            go_ret
            exact ⟨Or.inl rfl, rfl⟩
          · have HN : Hid (∀ fuel n, endAt (sb s) fuel (k + (sb s k).toNat + 1) = some n → ∃ fuel', endAt (sb s) fuel' 0 = some n) := fun fuel n h => HK.out (fuel + 1) n (by simp [endAt, e0, h63, h])
            clear HK e0
            generalize sb s k = z at hx z0 z1 hb0 h63 HN
            obtain ⟨y, rfl⟩ := Int.eq_ofNat_of_zero_le z0
            rw [Int.toNat_natCast] at HN
            go_wp2
            go_round
            case rel => exact ⟨k + y + 1, by omega, by go_num, HN⟩
            case measure => simp [intOf]; omega
      · go_wp2
        go_ret
        exact ⟨Or.inl rfl, rfl⟩
  · go_enter Try.func6, Try.ntmps6
    go_wp2
    go_ret
    exact ⟨Or.inl rfl, rfl⟩
end Go.Proofs.Qxb6614029a.B
