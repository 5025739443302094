/-
  Seat b6619644a: the walks of (columnSize).of, its closure and ZZColumnSizeOf.
-/
import Derived.Test.Qxb6619644aRows
import Derived.WalkKit
import Derived.WalkSpells
import Derived.WalkLawsBesides
import Derived.Deep.QuietTactic
import Derived.BigQuiet
namespace Go.Proofs.Qxb6619644a
open Go.RowKit

theorem bits_clo (N : Int) (c w t Bn : Nat) (W : World) (en : N - 1 = (c : Int)) (et : (c : Int) * (w : Int) = (t : Int)) (ht : t ≤ 281474976710656) (hw : (w : Int) ≤ 65536) (hN : N ≤ 2147483648)
    (cell : W.cell? ⟨Bn, 0, none⟩ = some (.int .i64 N)) :
    Calls Try.prog 21 #[.int .u64 w, .pointer (some ⟨Bn, 0, none⟩)] W fun e w' => e = .returned (.int .i64 (((t : Int) + 7) / 8)) ∧ w' = W := by
  have h2 : 2 ≤ N ∨ N = 1 ∨ N < 1 := by omega
  have h1 : 1 ≤ N := by omega
  clear h2
  go_enter Try.func21, Try.ntmps21
  go_wp2_with fail
  go_ret
  exact ⟨rfl, rfl⟩

/-- The whole bytes of N - 1 codes of w bits. -/
def colB (N w : Int) : Int := ((N - 1) * w + 7) / 8

theorem mul_bd (c w : Nat) (hc : c ≤ 2147483648) (hw : w ≤ 65536) : c * w ≤ 140737488355328 := by
  have := Nat.mul_le_mul hc hw
  omega

theorem bits_any (N w : Int) (Bn : Nat) (W : World) (h2 : 2 ≤ N) (hN : N ≤ 2147483648) (w0 : 0 ≤ w) (w1 : w ≤ 65536) (cell : W.cell? ⟨Bn, 0, none⟩ = some (.int .i64 N)) :
    Calls Try.prog 21 #[.int .u64 w, .pointer (some ⟨Bn, 0, none⟩)] W fun e w' => e = .returned (.int .i64 (colB N w)) ∧ w' = W := by
  obtain ⟨wn, rfl⟩ : ∃ m : Nat, w = m := ⟨w.toNat, by omega⟩
  obtain ⟨c, hc⟩ : ∃ c : Nat, N - 1 = c := ⟨(N - 1).toNat, by omega⟩
  have := mul_bd c wn (by omega) (by omega)
  have hb := bits_clo N c wn (c * wn) Bn W hc (by rw [Int.natCast_mul]) (by omega) w1 hN cell
  unfold colB
  rw [hc, ← Int.natCast_mul]
  exact hb

theorem colB_bd (N w : Int) (h2 : 2 ≤ N) (hN : N ≤ 2147483648) (w0 : 0 ≤ w) (w1 : w ≤ 65536) : 0 ≤ colB N w ∧ colB N w ≤ 17592186044417 := by
  obtain ⟨wn, rfl⟩ : ∃ m : Nat, w = m := ⟨w.toNat, by omega⟩
  obtain ⟨c, hc⟩ : ∃ c : Nat, N - 1 = c := ⟨(N - 1).toNat, by omega⟩
  have := mul_bd c wn (by omega) (by omega)
  unfold colB
  rw [hc, ← Int.natCast_mul]
  omega

set_option maxHeartbeats 1000000 in
theorem of_in (hl hm N cl cm : Int) (w : World) (h2 : 2 ≤ N) (hN : N ≤ 2147483648)
    (w0 : 0 ≤ cl) (w1 : cl ≤ 65536) (w2 : 0 ≤ cm) (w3 : cm ≤ 65536) (l1 : -1099511627776 ≤ hl) (l2 : hl ≤ 1099511627776) (m1 : -1099511627776 ≤ hm) (m2 : hm ≤ 1099511627776) :
    Calls Try.prog 20 #[.agg #[.int .i64 hl, .int .i64 hm, .int .u64 cl, .int .u64 cm], .int .i64 N] w fun e w' =>
      e = .returned (.tuple #[.int .i64 (8 + hl + colB N cl), .int .i64 (8 + hm + colB N cm)]) ∧ Below w.heap.size w w' := by
  have n1 : (N == 1) = false := by rw [beq_eq_false_iff_ne]; omega
  obtain ⟨x1, x2⟩ := colB_bd N cl h2 hN w0 w1
  obtain ⟨y1, y2⟩ := colB_bd N cm h2 hN w2 w3
  go_enter Try.func20, Try.ntmps20
  go_wp2_with fail
  have hb : Below w.heap.size w ((w.alloc (.cells #[.int .i64 hl, .int .i64 hm, .int .u64 cl, .int .u64 cm] 48)).alloc (.cells #[.int .i64 N] 3)) := ((Below.refl _ _).alloc (Nat.le_refl _) _).alloc (by simp) _
  have hc : ∀ j (hj : j < 4), ((w.alloc (.cells #[.int .i64 hl, .int .i64 hm, .int .u64 cl, .int .u64 cm] 48)).alloc (.cells #[.int .i64 N] 3)).cell? ⟨w.heap.size, j, none⟩ = (#[Value.int .i64 hl, .int .i64 hm, .int .u64 cl, .int .u64 cm] : Array Value)[j]? := by
    intro j _
    exact cell_of_row _ _ j _ 48 (0, 0) ((Below.heap_alloc _ _ _ (by simp)).trans (heap_alloc_new w _))
  have c0 := hc 0 (by omega)
  have c1 := hc 1 (by omega)
  have c2 := hc 2 (by omega)
  have c3 := hc 3 (by omega)
  have cN : ((w.alloc (.cells #[.int .i64 hl, .int .i64 hm, .int .u64 cl, .int .u64 cm] 48)).alloc (.cells #[.int .i64 N] 3)).cell? ⟨w.heap.size + 1, 0, none⟩ = some (.int .i64 N) := by
    have e : w.heap.size + 1 = (w.alloc (.cells #[.int .i64 hl, .int .i64 hm, .int .u64 cl, .int .u64 cm] 48)).heap.size := by simp
    rw [e, cell_of_row _ _ 0 _ 3 (0, 0) (heap_alloc_new _ _)]
    rfl
  clear hc
  generalize ((w.alloc (.cells #[.int .i64 hl, .int .i64 hm, .int .u64 cl, .int .u64 cm] 48)).alloc (.cells #[.int .i64 N] 3)) = W at *
  simp only [List.getElem?_toArray, List.getElem?_cons_zero, List.getElem?_cons_succ] at c0 c1 c2 c3
  have CN : Hid (∀ m, (W.drewN m).cell? ⟨w.heap.size + 1, 0, none⟩ = some (.int .i64 N)) := fun m => cN
  go_quiet ((go_at_call 21; exact Calls.quiet_of_same (bits_any N _ _ _ h2 hN (by omega) (by omega) (CN.out _))))
  go_wp2_with fail
  go_ret2
  exact ⟨rfl, below_drewN hb _⟩
end Go.Proofs.Qxb6619644a
