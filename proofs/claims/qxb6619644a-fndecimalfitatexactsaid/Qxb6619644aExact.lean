/-
  Seat b6619644a: atModel's walk, and the walk of FnDecimalFitAtExact.
-/
import Derived.Test.Qxb6619644aLadder
import Derived.Deep.QuietTactic
import Derived.BigQuiet
namespace Go.Proofs.Qxb6619644a
open Go.RowKit

def p10 : Nat → Int
  | 0 => 1
  | k + 1 => p10 k * 10
theorem p10_zero : p10 0 = 1 := rfl
theorem p10_succ (k : Nat) : p10 (k + 1) = p10 k * 10 := rfl
theorem p10_pos : ∀ k, 1 ≤ p10 k
  | 0 => by rw [p10_zero]; omega
  | k + 1 => by have := p10_pos k; rw [p10_succ]; omega
theorem p10_small : ∀ k : Fin 16, p10 k ≤ 1000000000000000 := by decide
theorem p10_less : ∀ k : Fin 15, p10 k ≤ 100000000000000 := by decide
theorem p10_le (k : Nat) (h : k ≤ 15) : p10 k ≤ 1000000000000000 := p10_small ⟨k, by omega⟩
theorem p10_lt (k : Nat) (h : k < 15) : p10 k ≤ 100000000000000 := p10_less ⟨k, h⟩
theorem p10_big : ∀ k, 10000000000000000 ≤ p10 (k + 16)
  | 0 => by decide
  | k + 1 => by have := p10_big k; rw [show k + 1 + 16 = (k + 16) + 1 by omega, p10_succ]; omega

theorem up_p10 : ∀ (k : Nat) (m : Int), ((m.natAbs : Int) * p10 (k + 1) ≤ 9007199254740992 → up (k + 1) m = some (m * p10 (k + 1))) ∧ (9007199254740992 < (m.natAbs : Int) * p10 (k + 1) → up (k + 1) m = none)
  | 0, m => by
    rw [show p10 (0 + 1) = 10 from rfl]
    constructor
    · intro h
      rw [up_in 0 m (by omega) (by omega), up_zero]
    · intro h
      exact up_out 0 m (by omega)
  | k + 1, m => by
    have hp := p10_pos (k + 1)
    have e : (m.natAbs : Int) * p10 (k + 1 + 1) = ((m * 10).natAbs : Int) * p10 (k + 1) := by
      rw [p10_succ (k + 1), show ((m * 10).natAbs : Int) = (m.natAbs : Int) * 10 by omega, Int.mul_assoc, Int.mul_comm 10]
    have e2 : m * p10 (k + 1 + 1) = m * 10 * p10 (k + 1) := by
      rw [p10_succ (k + 1), Int.mul_assoc, Int.mul_comm 10]
    have ge : ((m * 10).natAbs : Int) ≤ ((m * 10).natAbs : Int) * p10 (k + 1) := by
      have := Int.mul_le_mul_of_nonneg_left hp (show (0 : Int) ≤ ((m * 10).natAbs : Int) by omega)
      rwa [Int.mul_one] at this
    have IH := up_p10 k (m * 10)
    rw [e, e2]
    constructor
    · intro h
      rw [up_in (k + 1) m (by omega) (by omega)]
      exact IH.1 h
    · intro h
      by_cases hm : -900719925474099 ≤ m ∧ m ≤ 900719925474099
      · rw [up_in (k + 1) m hm.1 hm.2]
        exact IH.2 h
      · exact up_out (k + 1) m hm

theorem abs_same (x : Int) (w : World) (h0 : -9223372036854775808 ≤ x) (h1 : x ≤ 9223372036854775807) :
    Calls Try.prog 9 #[.int .i64 x] w fun e w' => e = .returned (.int .u64 (absI x)) ∧ w' = w :=
  (abs_any x w h0 h1).mono fun _ _ h => ⟨h.1, h.2.symm⟩

theorem model_no {scale digits d P : Int} {k : Nat} (hk : d - scale = k) (k1 : 1 ≤ k) (hP : P = p10 k) (h : 9007199254740992 / P < absI digits) :
    atV scale digits d = 0 ∧ atOk scale digits d = false := by
  obtain ⟨j, rfl⟩ : ∃ j, k = j + 1 := ⟨k - 1, by omega⟩
  have hp : 0 < P := by have := p10_pos (j + 1); omega
  have h2 : 9007199254740992 < (digits.natAbs : Int) * p10 (j + 1) := by
    rw [← hP]
    have := (Int.ediv_lt_iff_lt_mul hp).1 h
    exact this
  have := (up_p10 j digits).2 h2
  unfold atV atOk
  rw [show (d - scale).toNat = j + 1 by omega, this]
  exact ⟨rfl, rfl⟩
theorem model_yes {scale digits d P : Int} {k : Nat} (hk : d - scale = k) (k1 : 1 ≤ k) (hP : P = p10 k) (h : absI digits ≤ 9007199254740992 / P) :
    atV scale digits d = wrap64 (digits * P) ∧ atOk scale digits d = true := by
  obtain ⟨j, rfl⟩ : ∃ j, k = j + 1 := ⟨k - 1, by omega⟩
  have hp : 0 < P := by have := p10_pos (j + 1); omega
  have h2 : (digits.natAbs : Int) * P ≤ 9007199254740992 := (Int.le_ediv_iff_mul_le hp).1 h
  have h3 : ((digits * P).natAbs : Int) ≤ 9007199254740992 := by
    rw [Int.natAbs_mul, Int.natCast_mul, show ((P.natAbs : Nat) : Int) = P by omega]
    exact h2
  have := (up_p10 j digits).1 (by rw [← hP]; exact h2)
  unfold atV atOk
  rw [show (d - scale).toNat = j + 1 by omega, this, ← hP]
  refine ⟨?_, rfl⟩
  show digits * P = _
  unfold wrap64
  omega
theorem model_far {scale digits d : Int} {k : Nat} (hk : d - scale = k) (k1 : 16 ≤ k) (hz : digits ≠ 0) :
    atV scale digits d = 0 ∧ atOk scale digits d = false := by
  obtain ⟨j, rfl⟩ : ∃ j, k = j + 16 := ⟨k - 16, by omega⟩
  have hb := p10_big j
  have h2 : 9007199254740992 < (digits.natAbs : Int) * p10 (j + 15 + 1) := by
    have := Int.mul_le_mul_of_nonneg_right (show (1 : Int) ≤ (digits.natAbs : Int) by omega) (show 0 ≤ p10 (j + 16) by omega)
    rw [Int.one_mul] at this
    show _ < (digits.natAbs : Int) * p10 (j + 16)
    omega
  have := (up_p10 (j + 15) digits).2 h2
  unfold atV atOk
  rw [show (d - scale).toNat = j + 15 + 1 by omega, this]
  exact ⟨rfl, rfl⟩
theorem model_zero {scale d : Int} {k : Nat} (hk : d - scale = k) (k1 : 1 ≤ k) : atV scale 0 d = 0 ∧ atOk scale 0 d = true := by
  obtain ⟨j, rfl⟩ : ∃ j, k = j + 1 := ⟨k - 1, by omega⟩
  have := (up_p10 j 0).1 (by simp)
  unfold atV atOk
  rw [show (d - scale).toNat = j + 1 by omega, this]
  exact ⟨by simp, rfl⟩

set_option maxHeartbeats 1000000 in
theorem model_loop (scale digits d : Int) (w : World) (k : Nat) (h0 : 0 ≤ scale) (hk : d - scale = k) (_hd : d ≤ 9223372036854775807) (k1 : 1 ≤ k) (k2 : k ≤ 15) (hz : (digits == 0) = false)
    (g1 : -9223372036854775808 ≤ digits) (g2 : digits ≤ 9223372036854775807) :
    Calls Try.prog 8 #[.int .i64 scale, .int .i64 digits, .int .i64 d] w fun e w' => e = .returned (.tuple #[.int .i64 (atV scale digits d), .bool (atOk scale digits d)]) ∧ Below w.heap.size w w' := by
  have hk0 : ((k : Int) == 0) = false := by rw [beq_eq_false_iff_ne]; omega
  go_enter Try.func8, Try.ntmps8
  go_wp2_with fail
  go_loop [9, 10] (fun p i => ∃ (j : Nat) (P : Int), j ≤ k ∧ i = .int .i64 j ∧ p = .int .u64 P ∧ P = p10 j) (fun _ i => k - (intOf i).toNat)
  case atStart => exact ⟨0, 1, by omega, rfl, rfl, rfl⟩
  case round =>
    obtain ⟨j, P, hj, rfl, rfl, hP⟩ := hrel
    have HP : Hid (P = p10 j) := hP
    have P1 : 1 ≤ P := by rw [hP]; exact p10_pos j
    by_cases hlt : j < k
    · have P2 : P ≤ 100000000000000 := by rw [hP]; exact p10_lt j (by omega)
      clear hP
      go_wp2_with fail
      go_round
      case rel => exact ⟨j + 1, P * 10, by omega, by go_num, rfl, by rw [p10_succ, HP.out]⟩
      case measure => simp [intOf]; omega
    · have P2 : P ≤ 1000000000000000 := by rw [hP]; exact p10_le j (by omega)
      obtain rfl : j = k := by omega
      clear hP
      go_wp2_with fail
      go_quiet ((go_at_call 9; exact Calls.quiet_of_same (abs_same _ _ g1 g2)))
      go_wp2
      · go_ret2
        have E := model_no hk k1 HP.out (by assumption)
        exact ⟨ret_two E.1.symm E.2.symm, below_drewN (Below.refl _ _) _⟩
      · go_ret2
        have E := model_yes hk k1 HP.out (by assumption)
        exact ⟨ret_two E.1.symm E.2.symm, below_drewN (Below.refl _ _) _⟩

set_option maxHeartbeats 1000000 in
theorem model_in (scale digits d : Int) (w : World) (h0 : 0 ≤ scale) (h1 : scale ≤ d) (hd : d ≤ 9223372036854775807)
    (g1 : -9223372036854775808 ≤ digits) (g2 : digits ≤ 9223372036854775807) :
    Calls Try.prog 8 #[.int .i64 scale, .int .i64 digits, .int .i64 d] w fun e w' => e = .returned (.tuple #[.int .i64 (atV scale digits d), .bool (atOk scale digits d)]) ∧ Below w.heap.size w w' := by
  obtain ⟨k, hk⟩ : ∃ k : Nat, d - scale = k := ⟨(d - scale).toNat, by omega⟩
  by_cases k0 : k = 0
  · obtain rfl : d = scale := by omega
    have E := at_self d digits
    rw [E.1, E.2]
    clear E
    have h00 : (d - d == 0) = true := by rw [beq_iff_eq]; omega
    clear hk k0
    go_enter Try.func8, Try.ntmps8
    go_wp2_with fail
    go_ret2
    exact ⟨rfl, Below.refl _ _⟩
  · have hk0 : ((k : Int) == 0) = false := by rw [beq_eq_false_iff_ne]; omega
    by_cases hz : digits = 0
    · subst hz
      have E := model_zero hk (by omega)
      rw [E.1, E.2]
      clear E
      go_enter Try.func8, Try.ntmps8
      go_wp2_with fail
      go_ret2
      exact ⟨rfl, Below.refl _ _⟩
    · have hz0 : (digits == 0) = false := by rw [beq_eq_false_iff_ne]; exact hz
      by_cases k15 : k ≤ 15
      · exact model_loop scale digits d w k h0 hk hd (by omega) k15 hz0 g1 g2
      · have E := model_far hk (by omega) hz
        rw [E.1, E.2]
        clear E
        have hk15 : (15 : Int) < k := by omega
        go_enter Try.func8, Try.ntmps8
        go_wp2_with fail
        go_ret2
        exact ⟨rfl, Below.refl _ _⟩

set_option maxHeartbeats 1000000 in
theorem model_none (scale digits d : Int) (w : World) (h : scale < 0 ∨ d < scale) :
    Calls Try.prog 8 #[.int .i64 scale, .int .i64 digits, .int .i64 d] w fun e w' => e = .returned (.tuple #[.int .i64 0, .bool false]) ∧ Below w.heap.size w w' := by
  by_cases h0 : scale < 0
  · clear h
    go_enter Try.func8, Try.ntmps8
    go_wp2_with fail
    go_ret2
    exact ⟨rfl, Below.refl _ _⟩
  · have h1 : d < scale := by omega
    clear h
    go_enter Try.func8, Try.ntmps8
    go_wp2_with fail
    go_ret2
    exact ⟨rfl, Below.refl _ _⟩

set_option maxHeartbeats 1000000 in
theorem exact_in (scale digits ulps d : Int) (w : World) (h0 : 0 ≤ scale) (h1 : scale ≤ d) (hd : d ≤ 9223372036854775807) (hn : d - scale ≤ 65536)
    (g1 : -9223372036854775808 ≤ digits) (g2 : digits ≤ 9223372036854775807) :
    Calls Try.prog 3 #[.int .i64 scale, .int .i64 digits, .int .i64 ulps, .int .i64 d] w fun e w' => e = .returned (.bool true) ∧ Below w.heap.size w w' := by
  have hb := Below.refl w.heap.size w
  have d1 : decide (65536 < d - scale) = false := decide_eq_false (by omega)
  go_enter Try.func3, Try.ntmps3
  go_wp2_with (first
    | (go_at_call 7; refine (zzAt_in _ _ _ _ _ h0 h1 hd).mono ?_; rintro e w' ⟨rfl, hb'⟩; have hb := bstep (by assumption) hb'; clear hb')
    | (go_at_call 8; refine (model_in _ _ _ _ h0 h1 hd g1 g2).mono ?_; rintro e w' ⟨rfl, hb'⟩; have hb := bstep (by assumption) hb'; clear hb'))
  all_goals (go_ret; exact ⟨rfl, hb⟩)

set_option maxHeartbeats 1000000 in
theorem exact_far (scale digits ulps d : Int) (w : World) (h0 : 0 ≤ scale) (h1 : scale ≤ d) (hd : d ≤ 9223372036854775807) (hn : 65536 < d - scale) :
    Calls Try.prog 3 #[.int .i64 scale, .int .i64 digits, .int .i64 ulps, .int .i64 d] w fun e w' => e = .returned (.bool true) ∧ Below w.heap.size w w' := by
  have hb := Below.refl w.heap.size w
  go_enter Try.func3, Try.ntmps3
  go_wp2_with fail
  all_goals (go_ret; exact ⟨rfl, hb⟩)

set_option maxHeartbeats 1000000 in
theorem exact_none (scale digits ulps d : Int) (w : World) (h : scale < 0 ∨ d < scale) :
    Calls Try.prog 3 #[.int .i64 scale, .int .i64 digits, .int .i64 ulps, .int .i64 d] w fun e w' => e = .returned (.bool true) ∧ Below w.heap.size w w' := by
  have hb := Below.refl w.heap.size w
  have H : Hid (scale < 0 ∨ d < scale) := h
  by_cases h0 : scale < 0
  · clear h
    have d0 : decide (0 ≤ scale) = false := decide_eq_false (by omega)
    go_enter Try.func3, Try.ntmps3
    go_wp2_with (first
      | (go_at_call 7; refine (zzAt_none _ _ _ _ _ H.out).mono ?_; rintro e w' ⟨rfl, hb'⟩; have hb := bstep (by assumption) hb'; clear hb')
      | (go_at_call 8; refine (model_none _ _ _ _ H.out).mono ?_; rintro e w' ⟨rfl, hb'⟩; have hb := bstep (by assumption) hb'; clear hb'))
    all_goals (go_ret; exact ⟨rfl, hb⟩)
  · have h1 : d < scale := by omega
    have h2 : 0 ≤ scale := by omega
    have d0 : decide (scale ≤ d) = false := decide_eq_false (by omega)
    clear h
    go_enter Try.func3, Try.ntmps3
    go_wp2_with (first
      | (go_at_call 7; refine (zzAt_none _ _ _ _ _ H.out).mono ?_; rintro e w' ⟨rfl, hb'⟩; have hb := bstep (by assumption) hb'; clear hb')
      | (go_at_call 8; refine (model_none _ _ _ _ H.out).mono ?_; rintro e w' ⟨rfl, hb'⟩; have hb := bstep (by assumption) hb'; clear hb'))
    all_goals (go_ret; exact ⟨rfl, hb⟩)

theorem exact_any (scale digits ulps d : Int) (w : World) (g1 : -9223372036854775808 ≤ digits) (g2 : digits ≤ 9223372036854775807) (hd : d ≤ 9223372036854775807) :
    Calls Try.prog 3 #[.int .i64 scale, .int .i64 digits, .int .i64 ulps, .int .i64 d] w fun e w' => e = .returned (.bool true) ∧ Below w.heap.size w w' := by
  by_cases h : scale < 0 ∨ d < scale
  · exact exact_none scale digits ulps d w h
  · by_cases h3 : 65536 < d - scale
    · exact exact_far scale digits ulps d w (by omega) (by omega) hd h3
    · exact exact_in scale digits ulps d w (by omega) (by omega) hd (by omega) g1 g2
end Go.Proofs.Qxb6619644a
