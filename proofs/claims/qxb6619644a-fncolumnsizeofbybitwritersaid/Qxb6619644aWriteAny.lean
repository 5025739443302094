/-
  Seat b6619644a: (*bitWriter).write for up to 64 bits: it calls itself once.
-/
import Derived.Test.Qxb6619644aWrite
namespace Go.Proofs.Qxb6619644a
open Go.RowKit
attribute [local go_sem ↓] Go.wp_at_zero Go.wp_at_succ

theorem write_small_is (base : Nat) (w0 : World) (v0 : Value) (B : Nat) (bv : Value) (xs : List Nat) (acc r v n : Nat) (w : World) (hs : St base w0 v0 B w bv xs acc r) (hn : n ≤ 32) (hr : r < 8)
    (ha : acc < 18446744073709551616) (hv : v < 18446744073709551616) (hlen : xs.length ≤ 2000000) (hbase : base ≤ w.heap.size) (xs1 : List Nat) (acc1 r1 : Nat) (hS : wrt ⟨xs, acc, r⟩ (bitsOf n v) = ⟨xs1, acc1, r1⟩) :
    Calls Try.prog 19 #[.pointer (some ⟨B, 0, none⟩), .int .u64 v, .int .u64 n] w fun e w' => e = .returned (.tuple #[]) ∧ ∃ bv', St base w0 v0 B w' bv' xs1 acc1 r1 := by
  have := write_small base w0 v0 B bv xs acc r v n w hs hn hr ha hv hlen hbase
  rw [hS] at this
  exact this

theorem acc_spell32 (acc v : Nat) (hv : v < 18446744073709551616) :
    bits .or .u64 (IntKind.u64.wrap ((acc : Int) * 4294967296)) (bits .and .u64 (v : Int) 4294967295) = (((acc * 2 ^ 32 + v % 2 ^ 32) % 18446744073709551616 : Nat) : Int) := by
  have h := acc_spell acc v 32 (by omega) hv
  have e := mask_spell 32 (by omega)
  rw [e] at h
  exact h

set_option maxHeartbeats 4000000 in
theorem write_big (base : Nat) (w0 : World) (v0 : Value) (B : Nat) (bv : Value) (xs : List Nat) (acc r v n : Nat) (w : World) (hs : St base w0 v0 B w bv xs acc r) (hn : 32 < n) (hn64 : n ≤ 64) (hr : r < 8)
    (ha : acc < 18446744073709551616) (hv : v < 18446744073709551616) (hlen : xs.length ≤ 2000000) (hbase : base ≤ w0.heap.size) (v1 n1 : Nat) (ev : (v : Int) / 4294967296 = (v1 : Int)) (en : (n : Int) - 32 = (n1 : Int))
    (xs1 : List Nat) (acc1 r1 : Nat) (hS : wrt ⟨xs, acc, r⟩ (bitsOf n1 v1) = ⟨xs1, acc1, r1⟩) (hr1 : r1 < 8) (ha1 : acc1 < 18446744073709551616) (hlen1 : xs1.length ≤ 2000000) :
    Calls Try.prog 19 #[.pointer (some ⟨B, 0, none⟩), .int .u64 v, .int .u64 n] w fun e w' => e = .returned (.tuple #[]) ∧ ∃ bv',
      St base w0 v0 B w' bv' (wrt ⟨xs1, acc1, r1⟩ (bitsOf 32 v)).out (wrt ⟨xs1, acc1, r1⟩ (bitsOf 32 v)).acc (wrt ⟨xs1, acc1, r1⟩ (bitsOf 32 v)).r := by
  obtain ⟨i0, hi0, hz0, hz1, hz2⟩ := info_parts Try.info5
  rw [wrt_small xs1 acc1 r1 32 v hr1 (Nat.le_refl _) ha1]
  obtain ⟨A, hA⟩ : ∃ A : Nat, A = (acc1 * 2 ^ 32 + v % 2 ^ 32) % 18446744073709551616 := ⟨_, rfl⟩
  have E := acc_spell32 acc1 v hv
  rw [← hA] at E ⊢
  have hw := write_small_is base w0 v0 B bv xs acc r v1 n1 w hs (by omega) hr ha (by omega) hlen (Nat.le_trans hbase hs.grown.size) xs1 acc1 r1 hS
  clear hA ha hv ha1 hS
  have hn0 : (32 : Int) < (n : Int) := by omega
  go_enter Try.func19, Try.ntmps19
  go_wp2_with (go_at_call 19; refine hw.mono ?_; rintro e w' ⟨rfl, bv1, hs1⟩; have c0 := hs1.c0; have c1 := hs1.c1; have c2 := hs1.c2; have f1 := hs1.fr 1; have f2 := hs1.fr 2)
  clear hw
  have hbase1 : base ≤ w'.heap.size := Nat.le_trans hbase hs1.grown.size
  go_loopg [] ((r1 + 32) / 8) (fun k wr => ∃ (i d : Nat) (bv' : Value), i + k = (r1 + 32) / 8 ∧ d + 8 * i = r1 + 32 ∧ base ≤ wr.heap.size ∧ St base w0 v0 B wr bv' (xs1 ++ (List.range i).map (byteAt A (r1 + 32))) A d)
  case atStart => exact ⟨0, r1 + 32, bv1, by omega, by omega, by simpa [World.setCell] using hbase1, by simpa using (hs1.setAcc A).setR (r1 + 32)⟩
  case round =>
    obtain ⟨i, d, bv', hi, hd, hbs, hst⟩ := hrel
    clear hs hs1 c0 c1 c2 f1 f2 E
    have c0 := hst.c0
    have c1 := hst.c1
    have c2 := hst.c2
    have f0 := hst.fr 0
    have f1 := hst.fr 1
    have f2 := hst.fr 2
    by_cases h8 : 8 ≤ d
    · obtain ⟨d', hd'⟩ : ∃ d' : Nat, (d : Int) - 8 = (d' : Int) := ⟨d - 8, by omega⟩
      go_wp2_with fail
      have hst2 := hst.setR d'
      clear hst c0 c1 c2 f0 f1 f2
      obtain ⟨w2, hw2⟩ : ∃ w2, w2 = wr.setCell ⟨B, 2, none⟩ (.int .u64 (d' : Int)) := ⟨_, rfl⟩
      have hbs2 : base ≤ w2.heap.size := by rw [hw2]; simpa [World.setCell] using hbs
      rw [← hw2] at hst2 ⊢
      clear hw2 hbs
      obtain ⟨b, hb⟩ : ∃ b : Nat, b = A / 2 ^ d' % 256 := ⟨_, rfl⟩
      have EB := byte_spell A d'
      rw [← hb] at EB
      have HB : Hid (b = A / 2 ^ d' % 256) := hb
      have HD : Hid ((d : Int) - 8 = (d' : Int)) := hd'
      have hd64 : (d' : Int) ≤ 64 := by omega
      have hd0 : (0 : Int) ≤ (d' : Int) := by omega
      have hlt := hst2.lt
      have hne := own_ne hst2.own hst2.blk
      have c0 := hst2.c0
      have c1 := hst2.c1
      have c2 := hst2.c2
      have f0 := hst2.fr 0
      have ho : w2.ownsRow base 5 1 bv' (xs1 ++ (List.range i).map (byteAt A (r1 + 32))).length (bcells (xs1 ++ (List.range i).map (byteAt A (r1 + 32)))) := hst2.own
      have hl2 : (xs1 ++ (List.range i).map (byteAt A (r1 + 32))).length ≤ 2000010 := by simp; omega
      generalize hys : xs1 ++ (List.range i).map (byteAt A (r1 + 32)) = ys at *
      have HYS : Hid (xs1 ++ (List.range i).map (byteAt A (r1 + 32)) = ys) := hys
      have HB1 : Hid (ys.length + 1 ≤ maxLen) := by unfold Hid maxLen; omega
      have b2 : (ys.length + 1) * 1 ≤ 140737488355328 := by omega
      have F0 : Hid (∀ o, (w2.alloc o).frozen? ⟨B, 0, none⟩ = false) := fun o => (World.frozen?_alloc_old _ _ _ (by show B ≠ _; omega)).trans f0
      have C0 : Hid (∀ o, (w2.alloc o).cell? ⟨B, 0, none⟩ = some bv') := fun o => (World.cell?_of_block (Below.heap_alloc _ _ _ hlt)).trans c0
      clear hys hb hd'
      go_region_law
        ((refine step_append_lies _ (by rfl) _ _ _ (by rfl) base 5 i0 _ 1 1 Try.underlying28 hi0 hz0 hz1 hz2 rfl (by omega) bv' ys.length (bcells ys) (by rfl) ((ho.alloc _).drew)
            ⟨w2.heap.size, 0, none⟩ 1 1 [.int .u8 (b : Int)] (by rfl) (by rfl) (World.news_of_block (cs := #[.int .u8 (b : Int)]) (t := 5) (fr := (0, 0)) (heap_alloc_new w2 _)) (by simp [Value.oneCell'])
            (by omega) HB1.out b2 (by simp; omega) (w2.heap.size + 1) (by simp) ?_; intro g cap w1 hown1 hgrow hat hlt1; have f0' : w1.frozen? ⟨B, 0, none⟩ = false := (hgrow.frozen_far ⟨B, 0, none⟩ (by simp; omega) (Ne.symm hne)).trans (F0.out _); have c0' : w1.cell? ⟨B, 0, none⟩ = some bv' := (hgrow.cell_far ⟨B, 0, none⟩ (by simp; omega) (Ne.symm hne)).trans (C0.out _)))
      all_goals
        have R := hst2.app hown1 (grown_undrew hgrow) hat
        have hsz : base ≤ w1.heap.size := by have := hgrow.size; simp at this; omega
        clear hown1 hgrow hat ho hst2 F0 C0 c0 c1 c2 f0 c0' f0' hlt1
        go_wp2_with fail
        go_roundg (gk - 1)
        case measure => omega
        case rel => exact ⟨i + 1, d', _, by omega, by have := HD.out; omega, by simpa [World.setCell] using hsz, by rw [emit_step xs1 ys A (r1 + 32) i d' b HYS.out HB.out (by have := HD.out; omega)]; exact R⟩
    · go_wp2_with fail
      go_end0
      have e1 : i = (r1 + 32) / 8 := by omega
      have e2 : d = (r1 + 32) % 8 := by omega
      refine ⟨rfl, bv', ?_⟩
      rw [← e2]
      unfold emit
      rw [← e1]
      exact hst

theorem write_any (base : Nat) (w0 : World) (v0 : Value) (B : Nat) (bv : Value) (xs : List Nat) (acc r v n : Nat) (w : World) (hs : St base w0 v0 B w bv xs acc r) (hn : n ≤ 64) (hr : r < 8)
    (ha : acc < 18446744073709551616) (hv : v < 18446744073709551616) (hlen : xs.length ≤ 1999900) (hbase : base ≤ w0.heap.size) :
    Calls Try.prog 19 #[.pointer (some ⟨B, 0, none⟩), .int .u64 v, .int .u64 n] w fun e w' => e = .returned (.tuple #[]) ∧ ∃ bv',
      St base w0 v0 B w' bv' (wrt ⟨xs, acc, r⟩ (bitsOf n v)).out (wrt ⟨xs, acc, r⟩ (bitsOf n v)).acc (wrt ⟨xs, acc, r⟩ (bitsOf n v)).r := by
  by_cases h : n ≤ 32
  · exact write_small base w0 v0 B bv xs acc r v n w hs h hr ha hv (by omega) (Nat.le_trans hbase hs.grown.size)
  · obtain ⟨n1, rfl⟩ : ∃ n1, n = n1 + 32 := ⟨n - 32, by omega⟩
    have hb := bitsOf_bits n1 (v / 2 ^ 32)
    have hl := (psh_bound (bitsOf n1 (v / 2 ^ 32)) ⟨xs, acc % 2 ^ r, r⟩ hr (Nat.mod_lt _ (Nat.pow_pos (by omega))) hb).2.2
    rw [bitsOf_length] at hl
    have hl' : (wrt ⟨xs, acc, r⟩ (bitsOf n1 (v / 2 ^ 32))).out.length ≤ 2000000 := by
      show (psh ⟨xs, acc % 2 ^ r, r⟩ (bitsOf n1 (v / 2 ^ 32))).out.length ≤ _
      simp only at hl
      omega
    rw [bitsOf_split, wrt_append _ _ _ hr hb]
    exact write_big base w0 v0 B bv xs acc r v (n1 + 32) w hs (by omega) hn hr ha hv (by omega) hbase (v / 2 ^ 32) n1 (by omega) (by omega) _ _ _ rfl
      (wrt_cnt ⟨xs, acc, r⟩ _ hr hb) (shf_lt acc _ ha) hl'
end Go.Proofs.Qxb6619644a
