/-
  Seat b6619644a: (columnSize).of at n <= 1; ZZColumnSizeOf; codeBytesFit.
-/
import Derived.Test.Qxb6619644aCol
import Derived.Test.Qxb6619644aSplit
namespace Go.Proofs.Qxb6619644a
open Go.RowKit

set_option maxHeartbeats 1000000 in
theorem of_zero (hl hm N cl cm : Int) (w : World) (h : N ≤ 0) :
    Calls Try.prog 20 #[.agg #[.int .i64 hl, .int .i64 hm, .int .u64 cl, .int .u64 cm], .int .i64 N] w fun e w' => e = .returned (.tuple #[.int .i64 0, .int .i64 0]) ∧ Below w.heap.size w w' := by
  go_enter Try.func20, Try.ntmps20
  go_wp2_with fail
  go_ret2
  exact ⟨rfl, ((Below.refl _ _).alloc (Nat.le_refl _) _).alloc (by simp) _⟩
set_option maxHeartbeats 1000000 in
theorem of_one (hl hm N cl cm : Int) (w : World) (h : N = 1) :
    Calls Try.prog 20 #[.agg #[.int .i64 hl, .int .i64 hm, .int .u64 cl, .int .u64 cm], .int .i64 N] w fun e w' => e = .returned (.tuple #[.int .i64 8, .int .i64 8]) ∧ Below w.heap.size w w' := by
  subst h
  go_enter Try.func20, Try.ntmps20
  go_wp2_with fail
  go_ret2
  exact ⟨rfl, ((Below.refl _ _).alloc (Nat.le_refl _) _).alloc (by simp) _⟩

/-- What 'of' answers: the one field, its width. -/
def colOf (N h c : Int) : Int := if N ≤ 0 then 0 else if N = 1 then 8 else 8 + h + colB N c

theorem of_any (hl hm N cl cm : Int) (w : World) (hN : N ≤ 2147483648)
    (w0 : 0 ≤ cl) (w1 : cl ≤ 65536) (w2 : 0 ≤ cm) (w3 : cm ≤ 65536) (l1 : -1099511627776 ≤ hl) (l2 : hl ≤ 1099511627776) (m1 : -1099511627776 ≤ hm) (m2 : hm ≤ 1099511627776) :
    Calls Try.prog 20 #[.agg #[.int .i64 hl, .int .i64 hm, .int .u64 cl, .int .u64 cm], .int .i64 N] w fun e w' =>
      e = .returned (.tuple #[.int .i64 (colOf N hl cl), .int .i64 (colOf N hm cm)]) ∧ Below w.heap.size w w' := by
  unfold colOf
  by_cases h0 : N ≤ 0
  · rw [if_pos h0, if_pos h0]; exact of_zero hl hm N cl cm w h0
  · rw [if_neg h0, if_neg h0]
    by_cases h1 : N = 1
    · rw [if_pos h1, if_pos h1]; exact of_one hl hm N cl cm w h1
    · rw [if_neg h1, if_neg h1]; exact of_in hl hm N cl cm w (by omega) hN w0 w1 w2 w3 l1 l2 m1 m2

set_option maxHeartbeats 1000000 in
theorem zzCol_any (hl hm N cl cm : Int) (w : World) (hN : N ≤ 2147483648)
    (w0 : 0 ≤ cl) (w1 : cl ≤ 65536) (w2 : 0 ≤ cm) (w3 : cm ≤ 65536) (l1 : -1099511627776 ≤ hl) (l2 : hl ≤ 1099511627776) (m1 : -1099511627776 ≤ hm) (m2 : hm ≤ 1099511627776) :
    Calls Try.prog 16 #[.int .i64 hl, .int .i64 hm, .int .u64 cl, .int .u64 cm, .int .i64 N] w fun e w' =>
      e = .returned (.tuple #[.int .i64 (colOf N hl cl), .int .i64 (colOf N hm cm)]) ∧ Below w.heap.size w w' := by
  go_enter Try.func16, Try.ntmps16
  go_wp2_with (go_at_call 20; refine (of_any _ _ _ _ _ _ hN w0 w1 w2 w3 l1 l2 m1 m2).mono ?_; rintro e w' ⟨rfl, hb⟩)
  go_ret2
  exact ⟨rfl, ((Below.refl _ _).alloc (Nat.le_refl _) _).trans (hb.mono (by simp))⟩

theorem wrt_shape (ys : List Nat) (acc n v : Nat) : (wrt ⟨ys, acc, 0⟩ (bitsOf n v)).out.length = ys.length + n / 8 ∧ (wrt ⟨ys, acc, 0⟩ (bitsOf n v)).r = n % 8 := by
  have h := psh_bitsOf ys (acc % 2 ^ 0) 0 (Nat.mod_lt _ (by simp)) (by omega) n v
  unfold wrt
  simp only
  rw [h]
  simp [emit]

theorem zzWrite_at (base : Nat) (b : Value) (xs : List Nat) (acc v k : Nat) (w : World) (hown : Own base w b xs) (hn : k ≤ 64)
    (ha : acc < 18446744073709551616) (hv : v < 18446744073709551616) (hlen : xs.length ≤ 1999900) (hbase : base ≤ w.heap.size) (vi ki : Int) (hvi : vi = (v : Int)) (hki : ki = (k : Int)) :
    Calls Try.prog 12 #[b, .int .u64 acc, .int .u64 0, .int .u64 vi, .int .u64 ki] w fun e w' => ∃ (ys : List Nat) (A R : Nat) (ao : Option Addr) (cp : Nat),
      e = .returned (.tuple #[.slice ao ys.length cp, .int .u64 A, .int .u64 R]) ∧ ys.length = xs.length + k / 8 ∧ R = k % 8 ∧ A < 18446744073709551616 ∧ Own base w' (.slice ao ys.length cp) ys ∧ w.grownBy w' b.ownBlock := by
  subst hvi hki
  have hs := wrt_shape xs acc k v
  refine (zzWrite_any base b xs acc 0 v k w hown hn (by omega) ha hv hlen hbase).mono fun e w' ⟨bv, he, ho, hg, _⟩ => ?_
  obtain ⟨ao, cp, rfl⟩ := own_form ho
  exact ⟨_, _, _, ao, cp, he, hs.1, hs.2, shf_lt acc _ ha, ho, hg⟩

theorem fit_end (ys zs l t p : Int) (h1 : 8 * ys + l = t) (h2 : zs = ys + l / 8) (p1 : t ≤ 8 * p) (p2 : 8 * p < t + 8) : (l % 8 = 0 → zs = p) ∧ (0 < l % 8 → zs + 1 = p) := by omega

set_option maxHeartbeats 2000000 in
theorem fit_loop (p : Int) (c wd t : Nat) (w : World) (et : (c : Int) * (wd : Int) = (t : Int)) (hw : (wd : Int) ≤ 65536) (ht : t ≤ 1048576) (p0 : 0 ≤ p) (p1 : (t : Int) ≤ 8 * p) (p2 : 8 * p < (t : Int) + 8) (hp : p ≤ 140000) :
    Calls Try.prog 17 #[.int .i64 p, .int .i64 c, .int .u64 wd] w fun e w' => e = .returned (.bool true) ∧ Below w.heap.size w w' := by
  obtain ⟨base, hbase⟩ : ∃ base, base = w.heap.size := ⟨_, rfl⟩
  rw [← hbase]
  have z0 : base ≤ w.heap.size := by omega
  clear hbase
  by_cases pp : 0 < p
  all_goals
    go_enter Try.func17, Try.ntmps17
    go_wp2_with fail
    go_loopw [8, 9, 10, 11] (fun b ac re le wr => ∃ (ys : List Nat) (acc l : Nat), acc < 18446744073709551616 ∧ ac = .int .u64 acc ∧ re = .int .u64 0 ∧ le = .int .i64 l ∧ 8 * ys.length + l = t ∧ Own base wr b ys ∧ Below base w wr ∧ base ≤ wr.heap.size)
      (fun _ _ _ le _ => (intOf le).toNat)
    case atStart => exact ⟨[], 0, t, by omega, rfl, rfl, rfl, by simp, World.ownsRow_nil _ _ _ _, Below.refl _ _, z0⟩
    case round =>
      obtain ⟨ys, acc, l, hacc, rfl, rfl, rfl, hsum, ho, hbl, hz⟩ := hrel
      have HS : Hid (8 * ys.length + l = t) := hsum
      have hl : l ≤ 1048576 := by omega
      have hy : ys.length ≤ 1048576 := by omega
      clear hsum
      by_cases h64 : 64 ≤ l
      · go_wp2_with fail
        refine (zzWrite_at base u8 ys acc 18446744073709551615 64 wr ho (by omega) hacc (by omega) (by omega) hz _ _ (by omega) (by omega)).mono ?_
        rintro e w1 ⟨zs, A, R, ao, cp, rfl, e1, rfl, hA, ho1, hg1⟩
        have hb1 := below_own hbl hz ho hg1
        have hz1 : base ≤ w1.heap.size := Nat.le_trans hz hg1.size
        have E1 : Hid (zs.length = ys.length + 64 / 8) := e1
        clear e1 ho hg1 hbl hz hacc
        go_wp2_with fail
        go_roundw
        case rel => exact ⟨zs, A, l - 64, hA, rfl, rfl, by congr 1; omega, by have := HS.out; have := E1.out; omega, ho1, hb1, hz1⟩
        case measure => simp [intOf]; omega
      · go_wp2_with fail
        refine (zzWrite_at base u8 ys acc 18446744073709551615 l wr ho (by omega) hacc (by omega) (by omega) hz _ _ (by omega) (by omega)).mono ?_
        rintro e w1 ⟨zs, A, R, ao, cp, rfl, e1, e2, hA, ho1, hg1⟩
        have hb1 := below_own hbl hz ho hg1
        have F := fit_end ys.length zs.length l t p (by have := HS.out; omega) (by omega) p1 p2
        have hzs : zs.length ≤ 2000000 := by omega
        by_cases hR : R = 0
        · have e3 : ((zs.length : Int) == p) = true := by rw [beq_iff_eq]; exact F.1 (by omega)
          subst hR
          clear e1 e2 ho hg1 hbl hz hacc hA ho1 F
          go_wp2_with fail
          go_ret
          exact ⟨rfl, hb1⟩
        · have e3 : ((zs.length : Int) + 1 == p) = true := by rw [beq_iff_eq]; exact F.2 (by omega)
          have hR0 : (0 : Int) < (R : Int) := by omega
          clear e1 e2 ho hg1 hbl hz hacc hA ho1 F
          go_wp2_with fail
          go_ret
          exact ⟨rfl, hb1⟩
end Go.Proofs.Qxb6619644a
