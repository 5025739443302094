/-
  Seat b6619644a: the walk of FnBitWriterWriteSplitAndModel.
-/
import Derived.Test.Qxb6619644aZz
namespace Go.Proofs.Qxb6619644a
open Go.RowKit

/-- Two values that lie in no common row. -/
def Apart (u v : Value) : Prop := ∀ k, u.ownBlock = some k → v.ownBlock ≠ some k

theorem own_kept {base : Nat} {w w' : World} {u v : Value} {xs : List Nat} (ho : Own base w u xs) (hg : w.grownBy w' v.ownBlock) (ha : Apart u v) : Own base w' u xs := by
  refine World.ownsRow.kept ho hg ?_
  cases h : u.ownBlock with
  | none => exact .inl rfl
  | some k => exact .inr fun e => ha k h e.symm
theorem own_kept0 {base : Nat} {w w' : World} {u : Value} {xs : List Nat} (ho : Own base w u xs) (hg : w.grownBy w' none) : Own base w' u xs := by
  refine World.ownsRow.kept ho hg ?_
  cases h : u.ownBlock with
  | none => exact .inl rfl
  | some k => exact .inr (by simp)
theorem apart_fresh {base : Nat} {w : World} {u v : Value} {xs : List Nat} (ho : Own base w u xs) (hf : ∀ g, v.ownBlock = some g → w.heap.size ≤ g) : Apart u v := fun k hk e => by
  have h1 := (World.ownsRow.lt ho k hk).2
  have h2 := hf k e
  omega
theorem apart_moved {base : Nat} {w : World} {u v v' : Value} {xs : List Nat} (ho : Own base w u xs) (ha : Apart u v) (hm : Moved w v v') : Apart u v' := by
  rcases hm with hm | hm
  · intro k hk
    rw [hm]
    exact ha k hk
  · exact apart_fresh ho hm
theorem below_own {base : Nat} {w0 w w' : World} {v : Value} {xs : List Nat} (hb : Below base w0 w) (hs : base ≤ w.heap.size) (ho : Own base w v xs) (hg : w.grownBy w' v.ownBlock) : Below base w0 w' :=
  hb.grown hg hs (fun k hk => (World.ownsRow.lt ho k hk).1)
theorem below_none {base : Nat} {w0 w w' : World} (hb : Below base w0 w) (hs : base ≤ w.heap.size) (hg : w.grownBy w' none) : Below base w0 w' :=
  hb.grown hg hs (fun k hk => by cases hk)

theorem zzWrite_is (base : Nat) (b : Value) (xs : List Nat) (acc r v k : Nat) (w : World) (hown : Own base w b xs) (hn : k ≤ 64) (hr : r < 8)
    (ha : acc < 18446744073709551616) (hv : v < 18446744073709551616) (hlen : xs.length ≤ 1999900) (hbase : base ≤ w.heap.size) (ys : List Nat) (A R : Nat) (hS : wrt ⟨xs, acc, r⟩ (bitsOf k v) = ⟨ys, A, R⟩) :
    Calls Try.prog 12 #[b, .int .u64 acc, .int .u64 r, .int .u64 v, .int .u64 k] w fun e w' => ∃ bv',
      e = .returned (.tuple #[bv', .int .u64 A, .int .u64 R]) ∧ Own base w' bv' ys ∧ w.grownBy w' b.ownBlock ∧ Moved w b bv' := by
  have := zzWrite_any base b xs acc r v k w hown hn hr ha hv hlen hbase
  rw [hS] at this
  exact this
theorem push_is (base : Nat) (v : Value) (xs : List Nat) (cur cnt x i : Nat) (w : World) (hi : i ≤ 64) (hc : cur < 2 ^ cnt) (h8 : cnt < 8) (hx : x < 18446744073709551616)
    (hown : Own base w v xs) (hbase : base ≤ w.heap.size) (hlen : xs.length ≤ 1000000) (ys : List Nat) (q m : Nat) (hS : psh ⟨xs, cur, cnt⟩ (bitsOf i x) = ⟨ys, q, m⟩) :
    Calls Try.prog 13 #[v, .int .u64 cur, .int .u64 cnt, .int .u64 x, .int .u64 i] w fun e w' => ∃ v',
      e = .returned (.tuple #[v', .int .u64 q, .int .u64 m]) ∧ Own base w' v' ys ∧ w.grownBy w' v.ownBlock ∧ Moved w v v' := by
  have := push_any base v xs cur cnt x i w hi hc h8 hx hown hbase hlen
  rw [hS] at this
  exact this
theorem shift_is (last x i : Nat) (w : World) (hi : i ≤ 64) (hl : last < 18446744073709551616) (hx : x < 18446744073709551616) (A : Nat) (hS : shf last (bitsOf i x) = A) :
    Calls Try.prog 14 #[.int .u64 last, .int .u64 x, .int .u64 i] w fun e w' => e = .returned (.int .u64 A) ∧ w = w' := by
  have := shift_any last x i w hi hl hx
  rw [hS] at this
  exact this

theorem zzBytes_yes (a : Option Addr) (len cap : Nat) (acc n v k j : Int) (w : World) (h : len ≤ 1048576) :
    Calls Try.prog 10 #[.slice a len cap, .int .u64 acc, .int .u64 n, .int .u64 v, .int .u64 k, .int .u64 j] w fun e w' => e = .returned (.bool true) ∧ w = w' := by
  go_enter Try.func10, Try.ntmps10
  go_wp2
  go_ret
  exact ⟨rfl, rfl⟩
theorem zzBytes_no (a : Option Addr) (len cap : Nat) (acc n v k j : Int) (w : World) (h : 1048576 < len) :
    Calls Try.prog 10 #[.slice a len cap, .int .u64 acc, .int .u64 n, .int .u64 v, .int .u64 k, .int .u64 j] w fun e w' => e = .returned (.bool false) ∧ w = w' := by
  go_enter Try.func10, Try.ntmps10
  go_wp2
  go_ret
  exact ⟨rfl, rfl⟩

set_option maxHeartbeats 4000000 in
theorem split_core (a : Option Addr) (len cap : Nat) (xs : List Nat) (acc n v k j v1 k1 : Nat) (w : World) (hlen : len ≤ 65536) (hx : xs.length = len)
    (hsrc : (a = none ∧ len = 0 ∧ cap = 0 ∧ xs = []) ∨ ∃ ad, a = some ad ∧ xs.length = len ∧ ∀ j v, (bcells xs)[j]? = some v → w.cell? (ad.add j) = some v)
    (hn : (n : Int) < 8) (hk : (k : Int) ≤ 64) (hj : (j : Int) ≤ (k : Int)) (ha : acc < 18446744073709551616) (hv : v < 18446744073709551616) (hv1 : v1 < 18446744073709551616)
    (ev : (v : Int) / 2 ^ j = (v1 : Int)) (ek : (k : Int) - (j : Int) = (k1 : Int))
    (ys ys2 : List Nat) (A A2 R R2 q C : Nat) (S1 : wrt ⟨xs, acc, n⟩ (bitsOf k v) = ⟨ys, A, R⟩) (S2 : wrt ⟨xs, acc, n⟩ (bitsOf k1 v1) = ⟨ys2, A2, R2⟩) (S3 : wrt ⟨ys2, A2, R2⟩ (bitsOf j v) = ⟨ys, A, R⟩)
    (P1 : psh ⟨xs, 0, 0⟩ (bitsOf n acc) = ⟨xs, q, n⟩) (P2 : psh ⟨xs, q, n⟩ (bitsOf k v) = ⟨ys, C, R⟩) (hq : q < 2 ^ n) (F1 : shf acc (bitsOf k v) = A)
    (hR2 : R2 < 8) (hR : R < 8) (hA2 : A2 < 18446744073709551616) (hy2 : ys2.length ≤ 65600) (hy : ys.length ≤ 65600) (eC : bits .and .u64 (A : Int) (IntKind.u64.wrap (IntKind.u64.wrap ((2 : Int) ^ R) - 1)) = (C : Int)) :
    Calls Try.prog 5 #[.slice a len cap, .int .u64 acc, .int .u64 n, .int .u64 v, .int .u64 k, .int .u64 j] w fun e w' => e = .returned (.bool true) ∧ Below w.heap.size w w' := by
  obtain ⟨base, hbase⟩ : ∃ base, base = w.heap.size := ⟨_, rfl⟩
  rw [← hbase]
  have hb0 := Below.refl base w
  have z0 : base ≤ w.heap.size := by omega
  have lx : xs.length ≤ 65536 := by omega
  clear hbase
  go_enter Try.func5, Try.ntmps5
  go_wp2_with (go_at_call 10; refine (zzBytes_yes _ _ _ _ _ _ _ _ _ (by omega)).mono ?_; rintro e w' ⟨rfl, rfl⟩)
  refine (clone_any base a len cap xs w z0 (by omega) hsrc).mono ?_
  rintro e w1 ⟨b1, rfl, ob, g1, f1⟩
  have b1b := below_none hb0 z0 g1
  have z1 : base ≤ w1.heap.size := Nat.le_trans z0 g1.size
  clear g1 f1 hb0 z0 hsrc
  go_wp2_with fail
  -- gb: the whole write
  refine (clone_own base b1 xs w1 z1 (by omega) ob).mono ?_
  rintro e w2 ⟨c1, rfl, oc1, g2, f2⟩
  have ob2 := own_kept0 ob g2
  have p1 : Apart b1 c1 := apart_fresh ob f2
  have b2b := below_none b1b z1 g2
  have z2 : base ≤ w2.heap.size := Nat.le_trans z1 g2.size
  clear g2 f2 ob b1b z1
  go_wp2_with fail
  refine (zzWrite_is base c1 xs acc n v k w2 oc1 (by omega) (by omega) ha hv (by omega) z2 ys A R S1).mono ?_
  rintro e w3 ⟨gb, rfl, og, g3, m3⟩
  have ob3 := own_kept ob2 g3 p1
  have p2 : Apart b1 gb := apart_moved ob2 p1 m3
  have b3b := below_own b2b z2 oc1 g3
  have z3 : base ≤ w3.heap.size := Nat.le_trans z2 g3.size
  clear g3 m3 ob2 b2b z2 oc1 p1
  go_wp2_with fail
  -- hb: the write in two parts
  refine (clone_own base b1 xs w3 z3 (by omega) ob3).mono ?_
  rintro e w4 ⟨c2, rfl, oc2, g4, f4⟩
  have ob4 := own_kept0 ob3 g4
  have og4 := own_kept0 og g4
  have p3 : Apart b1 c2 := apart_fresh ob3 f4
  have p4 : Apart gb c2 := apart_fresh og f4
  have b4b := below_none b3b z3 g4
  have z4 : base ≤ w4.heap.size := Nat.le_trans z3 g4.size
  clear g4 f4 ob3 og b3b z3 p2
  go_wp2_with fail
  refine (zzWrite_is base c2 xs acc n v1 k1 w4 oc2 (by omega) (by omega) ha hv1 (by omega) z4 ys2 A2 R2 S2).mono ?_
  rintro e w5 ⟨h1, rfl, oh1, g5, m5⟩
  have ob5 := own_kept ob4 g5 p3
  have og5 := own_kept og4 g5 p4
  have p5 : Apart b1 h1 := apart_moved ob4 p3 m5
  have p6 : Apart gb h1 := apart_moved og4 p4 m5
  have b5b := below_own b4b z4 oc2 g5
  have z5 : base ≤ w5.heap.size := Nat.le_trans z4 g5.size
  clear g5 m5 ob4 og4 b4b z4 oc2 p3 p4
  go_wp2_with fail
  refine (zzWrite_is base h1 ys2 A2 R2 v j w5 oh1 (by omega) hR2 hA2 hv (by omega) z5 ys A R S3).mono ?_
  rintro e w6 ⟨hb, rfl, oh, g6, m6⟩
  have ob6 := own_kept ob5 g6 p5
  have og6 := own_kept og5 g6 p6
  have b6b := below_own b5b z5 oh1 g6
  have z6 : base ≤ w6.heap.size := Nat.le_trans z5 g6.size
  clear g6 m6 ob5 og5 b5b z5 oh1 p5 p6
  go_wp2_with fail
  -- the model
  refine (clone_own base b1 xs w6 z6 (by omega) ob6).mono ?_
  rintro e w7 ⟨c3, rfl, oc3, g7, f7⟩
  have og7 := own_kept0 og6 g7
  have oh7 := own_kept0 oh g7
  have p7 : Apart gb c3 := apart_fresh og6 f7
  have p8 : Apart hb c3 := apart_fresh oh f7
  have b7b := below_none b6b z6 g7
  have z7 : base ≤ w7.heap.size := Nat.le_trans z6 g7.size
  clear g7 f7 og6 oh b6b z6 ob6
  go_wp2_with fail
  refine (push_is base c3 xs 0 0 acc n w7 (by omega) (by simp) (by omega) ha oc3 z7 (by omega) xs q n P1).mono ?_
  rintro e w8 ⟨o1, rfl, oo1, g8, m8⟩
  have og8 := own_kept og7 g8 p7
  have oh8 := own_kept oh7 g8 p8
  have p9 : Apart gb o1 := apart_moved og7 p7 m8
  have p10 : Apart hb o1 := apart_moved oh7 p8 m8
  have b8b := below_own b7b z7 oc3 g8
  have z8 : base ≤ w8.heap.size := Nat.le_trans z7 g8.size
  clear g8 m8 og7 oh7 b7b z7 oc3 p7 p8
  go_wp2_with fail
  refine (push_is base o1 xs q n v k w8 (by omega) hq (by omega) hv oo1 z8 (by omega) ys C R P2).mono ?_
  rintro e w9 ⟨o2, rfl, oo2, g9, m9⟩
  have og9 := own_kept og8 g9 p9
  have oh9 := own_kept oh8 g9 p10
  have b9b := below_own b8b z8 oo1 g9
  have z9 : base ≤ w9.heap.size := Nat.le_trans z8 g9.size
  clear g9 m9 og8 oh8 b8b z8 oo1 p9 p10
  go_wp2_with fail
  refine (shift_is acc v k w9 (by omega) ha hv A F1).mono ?_
  rintro e w9' ⟨rfl, rfl⟩
  go_wp2_with fail
  refine (same_any base gb o2 ys w9 og9 oo2 (by omega)).mono ?_
  rintro e w10 ⟨rfl, g10⟩
  have og10 := own_kept0 og9 g10
  have oh10 := own_kept0 oh9 g10
  have b10b := below_none b9b z9 g10
  have z10 : base ≤ w10.heap.size := Nat.le_trans z9 g10.size
  clear g10 og9 oh9 b9b z9 oo2 S1 S2 S3 P1 P2 F1 hq ha hv hv1 hA2
  by_cases hR0 : R = 0
  · subst hR0
    go_wp2_with fail
    refine (same_any base hb gb ys w10 oh10 og10 (by omega)).mono ?_
    rintro e w11 ⟨rfl, g11⟩
    have b11b := below_none b10b z10 g11
    clear g11 b10b
    go_wp2_with fail
    go_ret
    exact ⟨rfl, b11b⟩
  · have hRp : (0 : Int) < (R : Int) := by omega
    have hR8 : (R : Int) ≤ 64 := by omega
    go_wp2_with fail
    refine (same_any base hb gb ys w10 oh10 og10 (by omega)).mono ?_
    rintro e w11 ⟨rfl, g11⟩
    have b11b := below_none b10b z10 g11
    clear g11 b10b
    go_wp2_with fail
    go_ret
    exact ⟨rfl, b11b⟩
end Go.Proofs.Qxb6619644a
