/-
  Seat b6619644a: the plain law of the ladder, and the walk of FnDecimalFitAtLadder.
-/
import Derived.Test.Qxb6619644aDec
namespace Go.Proofs.Qxb6619644a
open Go.RowKit

theorem bstep {w a b : World} (h : Below w.heap.size w a) (k : Below a.heap.size a b) : Below w.heap.size w b := h.trans (k.mono h.size)

theorem up_snoc : ∀ (k : Nat) (m : Int), up (k + 1) m = match up k m with | none => none | some q => if -900719925474099 ≤ q ∧ q ≤ 900719925474099 then some (q * 10) else none
  | 0, m => by
    by_cases h : -900719925474099 ≤ m ∧ m ≤ 900719925474099
    · rw [up_in 0 m h.1 h.2, up_zero, up_zero]; simp only; rw [if_pos h]
    · rw [up_out 0 m h, up_zero]; simp only; rw [if_neg h]
  | k + 1, m => by
    by_cases h : -900719925474099 ≤ m ∧ m ≤ 900719925474099
    · rw [up_in (k + 1) m h.1 h.2, up_snoc k (m * 10), up_in k m h.1 h.2]
    · rw [up_out (k + 1) m h, up_out k m h]

theorem at_self (scale digits : Int) : atV scale digits scale = digits ∧ atOk scale digits scale = true := by
  unfold atV atOk
  rw [show (scale - scale).toNat = 0 by omega, up_zero]
  exact ⟨rfl, rfl⟩

theorem at_next (scale digits d : Int) (h : scale ≤ d) :
    (atOk scale digits d = false ∧ atV scale digits d = 0 ∧ atOk scale digits (d + 1) = false ∧ atV scale digits (d + 1) = 0) ∨
    (atOk scale digits d = true ∧ -900719925474099 ≤ atV scale digits d ∧ atV scale digits d ≤ 900719925474099 ∧ atOk scale digits (d + 1) = true ∧ atV scale digits (d + 1) = atV scale digits d * 10) ∨
    (atOk scale digits d = true ∧ ¬ (-900719925474099 ≤ atV scale digits d ∧ atV scale digits d ≤ 900719925474099) ∧ atOk scale digits (d + 1) = false ∧ atV scale digits (d + 1) = 0) := by
  unfold atV atOk
  rw [show (d + 1 - scale).toNat = (d - scale).toNat + 1 by omega, up_snoc]
  cases up (d - scale).toNat digits with
  | none => exact .inl ⟨rfl, rfl, rfl, rfl⟩
  | some q =>
    by_cases hq : -900719925474099 ≤ q ∧ q ≤ 900719925474099
    · refine .inr (.inl ⟨rfl, hq.1, hq.2, ?_, ?_⟩) <;> simp only [if_pos hq] <;> rfl
    · refine .inr (.inr ⟨rfl, hq, ?_, ?_⟩) <;> simp only [if_neg hq] <;> rfl

theorem up_range : ∀ (k : Nat) (m q : Int), -9223372036854775808 ≤ m → m ≤ 9223372036854775807 → up k m = some q → -9223372036854775808 ≤ q ∧ q ≤ 9223372036854775807
  | 0, m, q, h1, h2, h => by rw [up_zero] at h; cases h; exact ⟨h1, h2⟩
  | k + 1, m, q, _, _, h => by
    by_cases hm : -900719925474099 ≤ m ∧ m ≤ 900719925474099
    · rw [up_in k m hm.1 hm.2] at h; exact up_range k (m * 10) q (by omega) (by omega) h
    · rw [up_out k m hm] at h; cases h
theorem atV_range (scale digits d : Int) (h1 : -9223372036854775808 ≤ digits) (h2 : digits ≤ 9223372036854775807) : -9223372036854775808 ≤ atV scale digits d ∧ atV scale digits d ≤ 9223372036854775807 := by
  unfold atV
  cases h : up (d - scale).toNat digits with
  | none => simp
  | some q => exact up_range _ _ _ h1 h2 h

set_option maxHeartbeats 1000000 in
theorem ladder_core (scale digits ulps d : Int) (w : World) (h0 : 0 ≤ scale) (h1 : scale ≤ d) (h2 : d ≤ 9223372036854775806) (h3 : d - scale ≤ 65536)
    (m0 m1 a0 : Int) (o0 o1 : Bool) (r1 : -9223372036854775808 ≤ m0) (r2 : m0 ≤ 9223372036854775807) (es : atV scale digits scale = digits) (eo : atOk scale digits scale = true)
    (e0 : atV scale digits d = m0) (e1 : atOk scale digits d = o0) (e2 : atV scale digits (d + 1) = m1) (e3 : atOk scale digits (d + 1) = o1) (ea : absI m0 = a0)
    (H : (o0 = false ∧ m0 = 0 ∧ o1 = false ∧ m1 = 0) ∨ (o0 = true ∧ -900719925474099 ≤ m0 ∧ m0 ≤ 900719925474099 ∧ a0 ≤ 900719925474099 ∧ o1 = true ∧ m1 = 10 * m0) ∨ (o0 = true ∧ 900719925474099 < a0 ∧ o1 = false ∧ m1 = 0)) :
    Calls Try.prog 4 #[.int .i64 scale, .int .i64 digits, .int .i64 ulps, .int .i64 d] w fun e w' => e = .returned (.bool true) ∧ Below w.heap.size w w' := by
  have hb := Below.refl w.heap.size w
  rcases H with ⟨rfl, rfl, rfl, rfl⟩ | ⟨rfl, hm1, hm2, hm3, rfl, rfl⟩ | ⟨rfl, hm, rfl, rfl⟩
  all_goals
    go_enter Try.func4, Try.ntmps4
    go_wp2_with (first
      | (go_at_call 7; refine (zzAt_in _ _ _ _ _ h0 (by omega) (by omega)).mono ?_; rintro e w' ⟨rfl, hb'⟩; have hb := bstep (by assumption) hb'; clear hb')
      | (go_at_call 9; refine (abs_any _ _ r1 r2).mono ?_; rintro e w' ⟨rfl, rfl⟩))
    all_goals (go_ret; exact ⟨rfl, hb⟩)

theorem ladder_in (scale digits ulps d : Int) (w : World) (h0 : 0 ≤ scale) (h1 : scale ≤ d) (h2 : d ≤ 9223372036854775806) (h3 : d - scale ≤ 65536)
    (g1 : -9223372036854775808 ≤ digits) (g2 : digits ≤ 9223372036854775807) :
    Calls Try.prog 4 #[.int .i64 scale, .int .i64 digits, .int .i64 ulps, .int .i64 d] w fun e w' => e = .returned (.bool true) ∧ Below w.heap.size w w' := by
  have r := atV_range scale digits d g1 g2
  have es := at_self scale digits
  refine ladder_core scale digits ulps d w h0 h1 h2 h3 _ _ _ _ _ r.1 r.2 es.1 es.2 rfl rfl rfl rfl rfl ?_
  rcases at_next scale digits d h1 with ⟨a, b, c, e⟩ | ⟨a, b, c, e, f⟩ | ⟨a, b, c, e⟩
  · exact .inl ⟨a, b, c, e⟩
  · exact .inr (.inl ⟨a, b, c, by unfold absI; omega, e, by omega⟩)
  · exact .inr (.inr ⟨a, by unfold absI; omega, c, e⟩)

set_option maxHeartbeats 1000000 in
theorem ladder_out (scale digits ulps d : Int) (w : World) (h : scale < 0 ∨ d < scale) :
    Calls Try.prog 4 #[.int .i64 scale, .int .i64 digits, .int .i64 ulps, .int .i64 d] w fun e w' => e = .returned (.bool true) ∧ Below w.heap.size w w' := by
  have hb := Below.refl w.heap.size w
  by_cases h0 : scale < 0
  · clear h
    go_enter Try.func4, Try.ntmps4
    go_wp2
    go_ret
    exact ⟨rfl, hb⟩
  · have h1 : d < scale := by omega
    clear h
    go_enter Try.func4, Try.ntmps4
    go_wp2
    go_ret
    exact ⟨rfl, hb⟩

set_option maxHeartbeats 1000000 in
theorem ladder_far (scale digits ulps d : Int) (w : World) (h0 : 0 ≤ scale) (_h1 : scale ≤ d) (h2 : d ≤ 9223372036854775807) (h3 : 65536 < d - scale) :
    Calls Try.prog 4 #[.int .i64 scale, .int .i64 digits, .int .i64 ulps, .int .i64 d] w fun e w' => e = .returned (.bool true) ∧ Below w.heap.size w w' := by
  have hb := Below.refl w.heap.size w
  go_enter Try.func4, Try.ntmps4
  go_wp2_with fail
  go_ret
  exact ⟨rfl, hb⟩

set_option maxHeartbeats 1000000 in
theorem ladder_max (scale digits ulps d : Int) (w : World) (h0 : 0 ≤ scale) (h1 : scale ≤ d) (_h2 : d ≤ 9223372036854775807) (h3 : d - scale ≤ 65536) (h4 : (d == 9223372036854775807) = true) :
    Calls Try.prog 4 #[.int .i64 scale, .int .i64 digits, .int .i64 ulps, .int .i64 d] w fun e w' => e = .returned (.bool true) ∧ Below w.heap.size w w' := by
  have hb := Below.refl w.heap.size w
  go_enter Try.func4, Try.ntmps4
  go_wp2_with fail
  all_goals (go_ret; exact ⟨rfl, hb⟩)

theorem ladder_any (scale digits ulps d : Int) (w : World) (g1 : -9223372036854775808 ≤ digits) (g2 : digits ≤ 9223372036854775807) (h2 : d ≤ 9223372036854775807) :
    Calls Try.prog 4 #[.int .i64 scale, .int .i64 digits, .int .i64 ulps, .int .i64 d] w fun e w' => e = .returned (.bool true) ∧ Below w.heap.size w w' := by
  by_cases h : scale < 0 ∨ d < scale
  · exact ladder_out scale digits ulps d w h
  · by_cases h3 : 65536 < d - scale
    · exact ladder_far scale digits ulps d w (by omega) (by omega) h2 h3
    · by_cases h4 : d = 9223372036854775807
      · exact ladder_max scale digits ulps d w (by omega) (by omega) h2 (by omega) (beq_iff_eq.2 h4)
      · exact ladder_in scale digits ulps d w (by omega) (by omega) (by omega) (by omega) g1 g2
end Go.Proofs.Qxb6619644a
