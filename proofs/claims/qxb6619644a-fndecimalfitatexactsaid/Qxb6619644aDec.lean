/-
  Seat b6619644a: the walks of absU64, (decimalFit).at and ZZDecimalFitAt.
-/
import Derived.Test.Qxb6619644aRows
import Derived.WalkKit
import Derived.WalkSpells
import Derived.WalkLawsBesides
namespace Go.Proofs.Qxb6619644a
open Go.RowKit

def inD (m : Int) : Prop := -900719925474099 ≤ m ∧ m ≤ 900719925474099
/-- The digits k steps above, where no step leaves the range. -/
def up : Nat → Int → Option Int
  | 0, m => some m
  | k + 1, m => if -900719925474099 ≤ m ∧ m ≤ 900719925474099 then up k (m * 10) else none

theorem up_zero (m : Int) : up 0 m = some m := rfl
theorem up_in (k : Nat) (m : Int) (h1 : -900719925474099 ≤ m) (h2 : m ≤ 900719925474099) : up (k + 1) m = up k (m * 10) := by
  rw [up, if_pos ⟨h1, h2⟩]
theorem up_out (k : Nat) (m : Int) (h : ¬ (-900719925474099 ≤ m ∧ m ≤ 900719925474099)) : up (k + 1) m = none := by
  rw [up, if_neg h]

def atV (scale digits d : Int) : Int := (up (d - scale).toNat digits).getD 0
def atOk (scale digits d : Int) : Bool := (up (d - scale).toNat digits).isSome

theorem wrap_neg_neg (x : Int) (h0 : x < 0) (h1 : -9223372036854775808 ≤ x) : IntKind.u64.wrap (-IntKind.u64.wrap x) = -x := by
  rw [IntKind.wrap_u64, IntKind.wrap_u64]; omega
theorem ret_one {k : IntKind} {a b : Int} (h : a = b) : Ending.returned (.int k a) = .returned (.int k b) := by rw [h]
theorem ret_two {a a' : Int} {b b' : Bool} (h : a = a') (h' : b = b') : Ending.returned (.tuple #[.int .i64 a, .bool b]) = .returned (.tuple #[.int .i64 a', .bool b']) := by rw [h, h']

theorem abs_pos (x : Int) (w : World) (h0 : 0 ≤ x) (h1 : x ≤ 9223372036854775807) :
    Calls Try.prog 9 #[.int .i64 x] w fun e w' => e = .returned (.int .u64 x) ∧ w = w' := by
  go_enter Try.func9, Try.ntmps9
  go_wp2
  go_ret
  exact ⟨rfl, rfl⟩
theorem abs_neg (x : Int) (w : World) (h0 : x < 0) (h1 : -9223372036854775808 ≤ x) :
    Calls Try.prog 9 #[.int .i64 x] w fun e w' => e = .returned (.int .u64 (-x)) ∧ w = w' := by
  go_enter Try.func9, Try.ntmps9
  go_wp2
  go_ret
  exact ⟨ret_one (wrap_neg_neg x h0 h1), rfl⟩

def absI (x : Int) : Int := (x.natAbs : Int)
theorem abs_any (x : Int) (w : World) (h0 : -9223372036854775808 ≤ x) (h1 : x ≤ 9223372036854775807) :
    Calls Try.prog 9 #[.int .i64 x] w fun e w' => e = .returned (.int .u64 (absI x)) ∧ w = w' := by
  by_cases h : x < 0
  · rw [show absI x = -x by unfold absI; omega]; exact abs_neg x w h h0
  · rw [show absI x = x by unfold absI; omega]; exact abs_pos x w (by omega) h1

theorem at_stop {scale digits d : Int} {k : Nat} {q : Int} (hu : up ((d - scale).toNat - k) q = up (d - scale).toNat digits) (hlt : (k : Int) < d - scale)
    (hq : ¬ (-900719925474099 ≤ q ∧ q ≤ 900719925474099)) : atV scale digits d = 0 ∧ atOk scale digits d = false := by
  obtain ⟨j, hj⟩ : ∃ j, (d - scale).toNat - k = j + 1 := ⟨(d - scale).toNat - k - 1, by omega⟩
  rw [hj, up_out j q hq] at hu
  unfold atV atOk
  rw [← hu]
  exact ⟨rfl, rfl⟩
theorem at_step {scale digits d : Int} {k : Nat} {q : Int} (hu : up ((d - scale).toNat - k) q = up (d - scale).toNat digits) (hlt : (k : Int) < d - scale)
    (h1 : -900719925474099 ≤ q) (h2 : q ≤ 900719925474099) : up ((d - scale).toNat - (k + 1)) (q * 10) = up (d - scale).toNat digits := by
  obtain ⟨j, hj⟩ : ∃ j, (d - scale).toNat - k = j + 1 := ⟨(d - scale).toNat - k - 1, by omega⟩
  rw [hj, up_in j q h1 h2] at hu
  rw [show (d - scale).toNat - (k + 1) = j by omega]
  exact hu
theorem at_done {scale digits d : Int} {k : Nat} {q : Int} (hu : up ((d - scale).toNat - k) q = up (d - scale).toNat digits) (hge : ¬ (k : Int) < d - scale) :
    atV scale digits d = q ∧ atOk scale digits d = true := by
  rw [show (d - scale).toNat - k = 0 by omega, up_zero] at hu
  unfold atV atOk
  rw [← hu]
  exact ⟨rfl, rfl⟩

set_option maxHeartbeats 1000000 in
theorem at_in (scale digits ulps d : Int) (w : World) (h0 : 0 ≤ scale) (h1 : scale ≤ d) (h2 : d ≤ 9223372036854775807) :
    Calls Try.prog 18 #[.agg #[.int .i64 scale, .int .i64 digits, .int .i64 ulps], .int .i64 d] w fun e w' =>
      e = .returned (.tuple #[.int .i64 (atV scale digits d), .bool (atOk scale digits d)]) ∧ Below w.heap.size w w' := by
  go_enter Try.func18, Try.ntmps18
  go_wp2
  go_loop [6, 22] (fun m i => ∃ (k : Nat) (q : Int), (k : Int) ≤ d - scale ∧ i = .int .i64 k ∧ m = .int .i64 q ∧ up ((d - scale).toNat - k) q = up (d - scale).toNat digits) (fun _ i => (d - scale).toNat - (intOf i).toNat)
  case atStart => exact ⟨0, digits, by omega, rfl, rfl, rfl⟩
  case round =>
    obtain ⟨k, q, hk, rfl, rfl, hu⟩ := hrel
    have HU : Hid (up ((d - scale).toNat - k) q = up (d - scale).toNat digits) := hu
    clear hu
    by_cases hlt : (k : Int) < d - scale
    · by_cases hq1 : 900719925474099 < q
      · go_wp2
        go_ret2
        have E := at_stop HU.out hlt (by omega)
        exact ⟨ret_two E.1.symm E.2.symm, (Below.refl _ _).alloc (Nat.le_refl _) _⟩
      · by_cases hq2 : q < -900719925474099
        · go_wp2
          go_ret2
          have E := at_stop HU.out hlt (by omega)
          exact ⟨ret_two E.1.symm E.2.symm, (Below.refl _ _).alloc (Nat.le_refl _) _⟩
        · go_wp2
          go_round
          case rel => exact ⟨k + 1, q * 10, by omega, by go_num, rfl, at_step HU.out hlt (by omega) (by omega)⟩
          case measure => simp [intOf]; omega
    · go_wp2
      go_ret2
      have E := at_done HU.out (by omega)
      exact ⟨ret_two E.1.symm E.2.symm, (Below.refl _ _).alloc (Nat.le_refl _) _⟩

set_option maxHeartbeats 1000000 in
theorem at_none (scale digits ulps d : Int) (w : World) (h : scale < 0 ∨ d < scale) :
    Calls Try.prog 18 #[.agg #[.int .i64 scale, .int .i64 digits, .int .i64 ulps], .int .i64 d] w fun e w' =>
      e = .returned (.tuple #[.int .i64 0, .bool false]) ∧ Below w.heap.size w w' := by
  by_cases h0 : scale < 0
  · clear h
    go_enter Try.func18, Try.ntmps18
    go_wp2
    go_ret2
    exact ⟨rfl, (Below.refl _ _).alloc (Nat.le_refl _) _⟩
  · have h1 : d < scale := by omega
    clear h
    go_enter Try.func18, Try.ntmps18
    go_wp2
    go_ret2
    exact ⟨rfl, (Below.refl _ _).alloc (Nat.le_refl _) _⟩

theorem zzAt_in (scale digits ulps d : Int) (w : World) (h0 : 0 ≤ scale) (h1 : scale ≤ d) (h2 : d ≤ 9223372036854775807) :
    Calls Try.prog 7 #[.int .i64 scale, .int .i64 digits, .int .i64 ulps, .int .i64 d] w fun e w' =>
      e = .returned (.tuple #[.int .i64 (atV scale digits d), .bool (atOk scale digits d)]) ∧ Below w.heap.size w w' := by
  go_enter Try.func7, Try.ntmps7
  go_wp2_with (go_at_call 18; refine (at_in _ _ _ _ _ h0 h1 h2).mono ?_; rintro e w' ⟨rfl, hb⟩)
  go_ret2
  exact ⟨rfl, hb⟩
theorem zzAt_none (scale digits ulps d : Int) (w : World) (h : scale < 0 ∨ d < scale) :
    Calls Try.prog 7 #[.int .i64 scale, .int .i64 digits, .int .i64 ulps, .int .i64 d] w fun e w' =>
      e = .returned (.tuple #[.int .i64 0, .bool false]) ∧ Below w.heap.size w w' := by
  have H : Hid (scale < 0 ∨ d < scale) := h
  clear h
  go_enter Try.func7, Try.ntmps7
  go_wp2_with (go_at_call 18; refine (at_none _ _ _ _ _ H.out).mono ?_; rintro e w' ⟨rfl, hb⟩)
  go_ret2
  exact ⟨rfl, hb⟩
end Go.Proofs.Qxb6619644a
