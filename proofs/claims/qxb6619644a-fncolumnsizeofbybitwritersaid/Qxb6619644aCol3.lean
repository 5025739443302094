/-
  Seat b6619644a: the walk of FnColumnSizeOfByBitWriter.
-/
import Derived.Test.Qxb6619644aCol2
namespace Go.Proofs.Qxb6619644a
open Go.RowKit

set_option maxHeartbeats 1000000 in
theorem fit_far (p : Int) (c wd t : Nat) (w : World) (et : (c : Int) * (wd : Int) = (t : Int)) (hw : (wd : Int) ≤ 65536) (ht : 1048576 < t) (ht2 : t ≤ 140737488355328) (p0 : 0 < p) (p1 : (t : Int) ≤ 8 * p) (p2 : 8 * p < (t : Int) + 8) :
    Calls Try.prog 17 #[.int .i64 p, .int .i64 c, .int .u64 wd] w fun e w' => e = .returned (.bool true) ∧ Below w.heap.size w w' := by
  go_enter Try.func17, Try.ntmps17
  go_wp2_with fail
  go_ret
  exact ⟨rfl, Below.refl _ _⟩

theorem fit_any (N : Int) (c wd : Nat) (w : World) (h2 : 2 ≤ N) (hN : N ≤ 2147483648) (hc : N - 1 = (c : Int)) (hw : wd ≤ 65536) :
    Calls Try.prog 17 #[.int .i64 (colB N wd), .int .i64 c, .int .u64 wd] w fun e w' => e = .returned (.bool true) ∧ Below w.heap.size w w' := by
  have hb := mul_bd c wd (by omega) hw
  have e : colB N wd = (((c * wd : Nat) : Int) + 7) / 8 := by unfold colB; rw [hc, Int.natCast_mul]
  rw [e]
  by_cases ht : c * wd ≤ 1048576
  · exact fit_loop _ c wd (c * wd) w (by rw [Int.natCast_mul]) (by omega) ht (by omega) (by omega) (by omega) (by omega)
  · exact fit_far _ c wd (c * wd) w (by rw [Int.natCast_mul]) (by omega) (by omega) hb (by omega) (by omega) (by omega)

set_option maxHeartbeats 2000000 in
theorem col_two (hl hm N P Q L M : Int) (c cl cm : Nat) (w : World) (h2 : 2 ≤ N) (hN : N ≤ 2147483648) (hc : N - 1 = (c : Int)) (w1 : (cl : Int) ≤ 65536) (w3 : (cm : Int) ≤ 65536)
    (l1 : -1099511627776 ≤ hl) (l2 : hl ≤ 1099511627776) (m1 : -1099511627776 ≤ hm) (m2 : hm ≤ 1099511627776)
    (eL : colOf N hl cl = L) (eM : colOf N hm cm = M) (eP : L - 8 - hl = P) (eQ : M - 8 - hm = Q) (fP : colB N cl = P) (fQ : colB N cm = Q) (p1 : 0 ≤ P) (p2 : P ≤ 17592186044417) (q1 : 0 ≤ Q) (q2 : Q ≤ 17592186044417) :
    Calls Try.prog 6 #[.int .i64 hl, .int .i64 hm, .int .u64 cl, .int .u64 cm, .int .i64 N] w fun e w' => e = .returned (.bool true) ∧ Below w.heap.size w w' := by
  have n1 : (N == 1) = false := by rw [beq_eq_false_iff_ne]; omega
  have F1 := fun W => fit_any N c cl W h2 hN hc (by omega)
  have F2 := fun W => fit_any N c cm W h2 hN hc (by omega)
  rw [fP] at F1
  rw [fQ] at F2
  have G1 := fun W => zzCol_any hl hm N cl cm W hN (by omega) w1 (by omega) w3 l1 l2 m1 m2
  have G2 := fun W => zzCol_any hm hl N cm cl W hN (by omega) w3 (by omega) w1 m1 m2 l1 l2
  rw [eL, eM] at G1 G2
  have d0 : decide ((2147483648 : Int) < N) = false := decide_eq_false (by omega)
  have d1 : decide ((65536 : Int) < (cl : Int)) = false := decide_eq_false (by omega)
  have d2 : decide ((65536 : Int) < (cm : Int)) = false := decide_eq_false (by omega)
  have hb := Below.refl w.heap.size w
  clear eL eM fP fQ
  go_enter Try.func6, Try.ntmps6
  go_wp2_with fail
  refine (G1 w).mono ?_
  rintro e wa ⟨rfl, ba⟩
  go_wp2_with fail
  refine (G2 wa).mono ?_
  rintro e wb ⟨rfl, bb⟩
  have hb2 := hb.trans ba
  have hb3 := hb2.trans (bb.mono hb2.size)
  clear ba bb hb hb2 G1 G2
  go_wp2_with fail
  refine (F1 wb).mono ?_
  rintro e wc ⟨rfl, bc⟩
  have hb4 := hb3.trans (bc.mono hb3.size)
  clear hb3 bc F1
  go_wp2_with fail
  refine (F2 wc).mono ?_
  rintro e wd ⟨rfl, bd⟩
  have hb5 := hb4.trans (bd.mono hb4.size)
  clear hb4 bd F2
  go_wp2_with fail
  go_ret
  exact ⟨rfl, hb5⟩

set_option maxHeartbeats 2000000 in
theorem col_low (hl hm N : Int) (cl cm : Nat) (w : World) (hN : N ≤ 1) (w1 : (cl : Int) ≤ 65536) (w3 : (cm : Int) ≤ 65536)
    (l1 : -1099511627776 ≤ hl) (l2 : hl ≤ 1099511627776) (m1 : -1099511627776 ≤ hm) (m2 : hm ≤ 1099511627776) :
    Calls Try.prog 6 #[.int .i64 hl, .int .i64 hm, .int .u64 cl, .int .u64 cm, .int .i64 N] w fun e w' => e = .returned (.bool true) ∧ Below w.heap.size w w' := by
  have G1 := fun W => zzCol_any hl hm N cl cm W (by omega) (by omega) w1 (by omega) w3 l1 l2 m1 m2
  have G2 := fun W => zzCol_any hm hl N cm cl W (by omega) (by omega) w3 (by omega) w1 m1 m2 l1 l2
  have d0 : decide ((2147483648 : Int) < N) = false := decide_eq_false (by omega)
  have d1 : decide ((65536 : Int) < (cl : Int)) = false := decide_eq_false (by omega)
  have d2 : decide ((65536 : Int) < (cm : Int)) = false := decide_eq_false (by omega)
  have hb := Below.refl w.heap.size w
  by_cases h0 : N ≤ 0
  · have eL : ∀ h c, colOf N h c = 0 := fun h c => by unfold colOf; rw [if_pos h0]
    rw [eL, eL] at G1 G2
    clear eL
    go_enter Try.func6, Try.ntmps6
    go_wp2_with fail
    refine (G1 w).mono ?_
    rintro e wa ⟨rfl, ba⟩
    go_wp2_with fail
    refine (G2 wa).mono ?_
    rintro e wb ⟨rfl, bb⟩
    have hb2 := hb.trans ba
    have hb3 := hb2.trans (bb.mono hb2.size)
    clear ba bb hb hb2 G1 G2
    go_wp2_with fail
    go_ret
    exact ⟨rfl, hb3⟩
  · obtain rfl : N = 1 := by omega
    have eL : ∀ h c, colOf 1 h c = 8 := fun h c => by unfold colOf; rw [if_neg (by omega), if_pos rfl]
    rw [eL, eL] at G1 G2
    clear eL
    go_enter Try.func6, Try.ntmps6
    go_wp2_with fail
    refine (G1 w).mono ?_
    rintro e wa ⟨rfl, ba⟩
    go_wp2_with fail
    refine (G2 wa).mono ?_
    rintro e wb ⟨rfl, bb⟩
    have hb2 := hb.trans ba
    have hb3 := hb2.trans (bb.mono hb2.size)
    clear ba bb hb hb2 G1 G2
    go_wp2_with fail
    go_ret
    exact ⟨rfl, hb3⟩

set_option maxHeartbeats 2000000 in
theorem col_wide (hl hm N cl cm : Int) (w : World) (h : 2147483648 < N ∨ 65536 < cl ∨ 65536 < cm) :
    Calls Try.prog 6 #[.int .i64 hl, .int .i64 hm, .int .u64 cl, .int .u64 cm, .int .i64 N] w fun e w' => e = .returned (.bool true) ∧ Below w.heap.size w w' := by
  by_cases h0 : 2147483648 < N
  · clear h
    go_enter Try.func6, Try.ntmps6
    go_wp2_with fail
    go_ret
    exact ⟨rfl, Below.refl _ _⟩
  · have d0 : decide ((2147483648 : Int) < N) = false := decide_eq_false h0
    by_cases h1 : 65536 < cl
    · clear h
      go_enter Try.func6, Try.ntmps6
      go_wp2_with fail
      go_ret
      exact ⟨rfl, Below.refl _ _⟩
    · have d1 : decide ((65536 : Int) < cl) = false := decide_eq_false h1
      have h2 : 65536 < cm := by omega
      clear h
      go_enter Try.func6, Try.ntmps6
      go_wp2_with fail
      go_ret
      exact ⟨rfl, Below.refl _ _⟩

set_option maxHeartbeats 2000000 in
theorem col_head (hl hm N cl cm : Int) (w : World) (h0 : N ≤ 2147483648) (h1 : cl ≤ 65536) (h2 : cm ≤ 65536) (h : 1099511627776 < hl ∨ hl < -1099511627776 ∨ 1099511627776 < hm ∨ hm < -1099511627776) :
    Calls Try.prog 6 #[.int .i64 hl, .int .i64 hm, .int .u64 cl, .int .u64 cm, .int .i64 N] w fun e w' => e = .returned (.bool true) ∧ Below w.heap.size w w' := by
  have d0 : decide ((2147483648 : Int) < N) = false := decide_eq_false (by omega)
  have d1 : decide ((65536 : Int) < cl) = false := decide_eq_false (by omega)
  have d2 : decide ((65536 : Int) < cm) = false := decide_eq_false (by omega)
  by_cases a1 : 1099511627776 < hl
  · clear h
    go_enter Try.func6, Try.ntmps6
    go_wp2_with fail
    go_ret
    exact ⟨rfl, Below.refl _ _⟩
  · have e1 : decide ((1099511627776 : Int) < hl) = false := decide_eq_false a1
    by_cases a2 : hl < -1099511627776
    · clear h
      go_enter Try.func6, Try.ntmps6
      go_wp2_with fail
      go_ret
      exact ⟨rfl, Below.refl _ _⟩
    · have e2 : decide (hl < (-1099511627776 : Int)) = false := decide_eq_false a2
      by_cases a3 : 1099511627776 < hm
      · clear h
        go_enter Try.func6, Try.ntmps6
        go_wp2_with fail
        go_ret
        exact ⟨rfl, Below.refl _ _⟩
      · have e3 : decide ((1099511627776 : Int) < hm) = false := decide_eq_false a3
        have a4 : hm < -1099511627776 := by omega
        clear h
        go_enter Try.func6, Try.ntmps6
        go_wp2_with fail
        go_ret
        exact ⟨rfl, Below.refl _ _⟩

theorem col_any (hl hm cl cm N : Int) (w : World) (b1 : 0 ≤ cl) (b2 : 0 ≤ cm) :
    Calls Try.prog 6 #[.int .i64 hl, .int .i64 hm, .int .u64 cl, .int .u64 cm, .int .i64 N] w fun e w' => e = .returned (.bool true) ∧ Below w.heap.size w w' := by
  by_cases h : 2147483648 < N ∨ 65536 < cl ∨ 65536 < cm
  · exact col_wide hl hm N cl cm w h
  · by_cases h' : 1099511627776 < hl ∨ hl < -1099511627776 ∨ 1099511627776 < hm ∨ hm < -1099511627776
    · exact col_head hl hm N cl cm w (by omega) (by omega) (by omega) h'
    · obtain ⟨cl, rfl⟩ : ∃ m : Nat, cl = m := ⟨cl.toNat, by omega⟩
      obtain ⟨cm, rfl⟩ : ∃ m : Nat, cm = m := ⟨cm.toNat, by omega⟩
      by_cases hN : N ≤ 1
      · exact col_low hl hm N cl cm w hN (by omega) (by omega) (by omega) (by omega) (by omega) (by omega)
      · have e : ∀ h c : Int, colOf N h c = 8 + h + colB N c := fun h c => by unfold colOf; rw [if_neg (by omega), if_neg (by omega)]
        have k1 := colB_bd N cl (by omega) (by omega) (by omega) (by omega)
        have k2 := colB_bd N cm (by omega) (by omega) (by omega) (by omega)
        exact col_two hl hm N _ _ _ _ (N - 1).toNat cl cm w (by omega) (by omega) (by omega) (by omega) (by omega) (by omega) (by omega) (by omega) (by omega) rfl rfl
          (by rw [e]; omega) (by rw [e]; omega) rfl rfl k1.1 k1.2 k2.1 k2.2
end Go.Proofs.Qxb6619644a
