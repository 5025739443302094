/-
  Seat b6619644a: the walk of (*bitWriter).write for at most 32 bits.
-/
import Derived.Test.Qxb6619644aPush
import Derived.Deep.RegionLaw
import Derived.Deep.DrawnRows
import Derived.BigRegion
import Derived.Deep.LoopGhost
namespace Go.Proofs.Qxb6619644a
open Go.RowKit
attribute [local go_sem ↓] Go.wp_at_zero Go.wp_at_succ

/-- THE WRITER IN MEMORY: block B holds its three fields; of what w0 had nothing has turned but the row of v0. -/
structure St (base : Nat) (w0 : World) (v0 : Value) (B : Nat) (w : World) (bv : Value) (xs : List Nat) (acc r : Nat) : Prop where
  grown : w0.grownBy w v0.ownBlock
  blk : w.heap[B]? = some (.cells #[bv, .int .u64 (acc : Int), .int .u64 (r : Int)] 45 (0, 0))
  own : Own base w bv xs
  moved : Moved w0 v0 bv
  new : w0.heap.size ≤ B

theorem St.c0 {base : Nat} {w0 : World} {v0 : Value} {B : Nat} {w : World} {bv : Value} {xs : List Nat} {acc r : Nat} (h : St base w0 v0 B w bv xs acc r) : w.cell? ⟨B, 0, none⟩ = some bv := by
  rw [cell_of_row w B 0 _ _ _ h.blk]; rfl
theorem St.c1 {base : Nat} {w0 : World} {v0 : Value} {B : Nat} {w : World} {bv : Value} {xs : List Nat} {acc r : Nat} (h : St base w0 v0 B w bv xs acc r) : w.cell? ⟨B, 1, none⟩ = some (.int .u64 (acc : Int)) := by
  rw [cell_of_row w B 1 _ _ _ h.blk]; rfl
theorem St.c2 {base : Nat} {w0 : World} {v0 : Value} {B : Nat} {w : World} {bv : Value} {xs : List Nat} {acc r : Nat} (h : St base w0 v0 B w bv xs acc r) : w.cell? ⟨B, 2, none⟩ = some (.int .u64 (r : Int)) := by
  rw [cell_of_row w B 2 _ _ _ h.blk]; rfl
theorem St.fr {base : Nat} {w0 : World} {v0 : Value} {B : Nat} {w : World} {bv : Value} {xs : List Nat} {acc r : Nat} (h : St base w0 v0 B w bv xs acc r) (j : Nat) : w.frozen? ⟨B, j, none⟩ = false :=
  frozen_of_row w B j _ _ h.blk
theorem St.lt {base : Nat} {w0 : World} {v0 : Value} {B : Nat} {w : World} {bv : Value} {xs : List Nat} {acc r : Nat} (h : St base w0 v0 B w bv xs acc r) : B < w.heap.size := lt_of_block h.blk

/-- The writer's block is none of the bytes'. -/
theorem own_ne {base : Nat} {w : World} {bv : Value} {xs : List Nat} {B : Nat} {cs : Array Value} (ho : Own base w bv xs) (hb : w.heap[B]? = some (.cells cs 45 (0, 0))) : bv.ownBlock ≠ some B := by
  rcases ho.2 with ⟨rfl, _⟩ | ⟨g, cap, cur, rfl, _, hg, _⟩
  · simp [Value.ownBlock]
  · intro e
    have : g = B := by simpa [Value.ownBlock] using e
    subst this
    rw [hg] at hb
    simp at hb

theorem grown_set {w0 w : World} {row : Option Nat} (h : w0.grownBy w row) {a : Addr} (ha : w0.heap.size ≤ a.block) (u : Value) : w0.grownBy (w.setCell a u) row :=
  ⟨h.os, h.tape, h.output, by have := h.size; simpa [World.setCell] using this, fun k hk hne => by rw [Below.heap_setCell _ _ _ _ (by omega)]; exact h.block k hk hne⟩

theorem St.setAcc {base : Nat} {w0 : World} {v0 : Value} {B : Nat} {w : World} {bv : Value} {xs : List Nat} {acc r : Nat} (h : St base w0 v0 B w bv xs acc r) (a : Nat) :
    St base w0 v0 B (w.setCell ⟨B, 1, none⟩ (.int .u64 (a : Int))) bv xs a r :=
  ⟨grown_set h.grown h.new _, heap_setCell_same w B 1 _ 45 _ h.blk, ownsRow_setCell_other h.own (own_ne h.own h.blk) _, h.moved, h.new⟩
theorem St.setR {base : Nat} {w0 : World} {v0 : Value} {B : Nat} {w : World} {bv : Value} {xs : List Nat} {acc r : Nat} (h : St base w0 v0 B w bv xs acc r) (a : Nat) :
    St base w0 v0 B (w.setCell ⟨B, 2, none⟩ (.int .u64 (a : Int))) bv xs acc a :=
  ⟨grown_set h.grown h.new _, heap_setCell_same w B 2 _ 45 _ h.blk, ownsRow_setCell_other h.own (own_ne h.own h.blk) _, h.moved, h.new⟩

/-- Behind 'w.b = append(w.b, x)'. -/
theorem St.app {base : Nat} {w0 : World} {v0 : Value} {B : Nat} {w w1 : World} {bv : Value} {xs : List Nat} {acc r b g cap : Nat} {o : Obj} (h : St base w0 v0 B w bv xs acc r)
    (hown1 : w1.ownsRow base 5 1 (.slice (some ⟨g, 0, none⟩) (xs.length + 1) cap) (xs.length + 1) (bcells xs ++ [Value.int .u8 (b : Int)]))
    (hgrow : (w.alloc o).grownBy w1 bv.ownBlock) (hat : bv.ownBlock = some g ∨ g = w.heap.size + 1) :
    St base w0 v0 B (w1.setCell ⟨B, 0, none⟩ (.slice (some ⟨g, 0, none⟩) (xs.length + 1) cap)) (.slice (some ⟨g, 0, none⟩) (xs.length + 1) cap) (xs ++ [b]) acc r := by
  obtain ⟨a1, a2, a3⟩ := app_step h.moved h.grown hown1 hgrow hat
  have hlt := h.lt
  have hne := own_ne h.own h.blk
  have hb1 : w1.heap[B]? = some (.cells #[bv, .int .u64 (acc : Int), .int .u64 (r : Int)] 45 (0, 0)) := by
    rw [hgrow.block B (by simp; omega) (Ne.symm hne), Below.heap_alloc _ _ _ hlt]
    exact h.blk
  exact ⟨grown_set a2 h.new _, heap_setCell_same w1 B 0 _ 45 _ hb1, ownsRow_setCell_other a1 (own_ne a1 hb1) _, a3, h.new⟩

theorem grown_undrew {w w1 : World} {row : Option Nat} (h : w.drew.grownBy w1 row) : w.grownBy w1 row := ⟨h.os, h.tape, h.output, h.size, h.block⟩

theorem emit_step (xs ys : List Nat) (A R i d b : Nat) (hy : xs ++ (List.range i).map (byteAt A R) = ys) (hb : b = A / 2 ^ d % 256) (hd : d + 8 * (i + 1) = R) :
    xs ++ (List.range (i + 1)).map (byteAt A R) = ys ++ [b] := by
  rw [List.range_succ, List.map_append, ← List.append_assoc, hy, hb]
  congr 1
  show [byteAt A R i] = _
  unfold byteAt
  rw [show R - 8 * (i + 1) = d by omega]

set_option maxHeartbeats 4000000 in
theorem write_small (base : Nat) (w0 : World) (v0 : Value) (B : Nat) (bv : Value) (xs : List Nat) (acc r v n : Nat) (w : World) (hs : St base w0 v0 B w bv xs acc r) (hn : n ≤ 32) (hr : r < 8)
    (ha : acc < 18446744073709551616) (hv : v < 18446744073709551616) (hlen : xs.length ≤ 2000000) (hbase : base ≤ w.heap.size) :
    Calls Try.prog 19 #[.pointer (some ⟨B, 0, none⟩), .int .u64 v, .int .u64 n] w fun e w' => e = .returned (.tuple #[]) ∧ ∃ bv',
      St base w0 v0 B w' bv' (wrt ⟨xs, acc, r⟩ (bitsOf n v)).out (wrt ⟨xs, acc, r⟩ (bitsOf n v)).acc (wrt ⟨xs, acc, r⟩ (bitsOf n v)).r := by
  obtain ⟨i0, hi0, hz0, hz1, hz2⟩ := info_parts Try.info5
  rw [wrt_small xs acc r n v hr hn ha]
  obtain ⟨A, hA⟩ : ∃ A : Nat, A = (acc * 2 ^ n + v % 2 ^ n) % 18446744073709551616 := ⟨_, rfl⟩
  have E := acc_spell acc v n (by omega) hv
  rw [← hA] at E ⊢
  clear hA ha hv
  have hn0 : (0 : Int) ≤ (n : Int) := by omega
  have hn1 : (n : Int) ≤ 32 := by omega
  have c0 := hs.c0
  have c1 := hs.c1
  have c2 := hs.c2
  have f1 := hs.fr 1
  have f2 := hs.fr 2
  go_enter Try.func19, Try.ntmps19
  go_wp2_with fail
  go_loopg [] ((r + n) / 8) (fun k wr => ∃ (i d : Nat) (bv' : Value), i + k = (r + n) / 8 ∧ d + 8 * i = r + n ∧ base ≤ wr.heap.size ∧ St base w0 v0 B wr bv' (xs ++ (List.range i).map (byteAt A (r + n))) A d)
  case atStart => exact ⟨0, r + n, bv, by omega, by omega, by simpa [World.setCell] using hbase, by simpa using (hs.setAcc A).setR (r + n)⟩
  case round =>
    obtain ⟨i, d, bv', hi, hd, hbs, hst⟩ := hrel
    clear hs c0 c1 c2 f1 f2 E
    have c0 := hst.c0
    have c1 := hst.c1
    have c2 := hst.c2
    have f0 := hst.fr 0
    have f1 := hst.fr 1
    have f2 := hst.fr 2
    by_cases h8 : 8 ≤ d
    · obtain ⟨d', hd'⟩ : ∃ d' : Nat, (d : Int) - 8 = (d' : Int) := ⟨d - 8, by omega⟩
      go_wp2_with fail
      have hst2 := hst.setR d'
      clear hst c0 c1 c2 f0 f1 f2
      obtain ⟨w2, hw2⟩ : ∃ w2, w2 = wr.setCell ⟨B, 2, none⟩ (.int .u64 (d' : Int)) := ⟨_, rfl⟩
      have hbs2 : base ≤ w2.heap.size := by rw [hw2]; simpa [World.setCell] using hbs
      rw [← hw2] at hst2 ⊢
      clear hw2 hbs
      obtain ⟨b, hb⟩ : ∃ b : Nat, b = A / 2 ^ d' % 256 := ⟨_, rfl⟩
      have EB := byte_spell A d'
      rw [← hb] at EB
      have HB : Hid (b = A / 2 ^ d' % 256) := hb
      have HD : Hid ((d : Int) - 8 = (d' : Int)) := hd'
      have hd64 : (d' : Int) ≤ 64 := by omega
      have hd0 : (0 : Int) ≤ (d' : Int) := by omega
      have hlt := hst2.lt
      have hne := own_ne hst2.own hst2.blk
      have c0 := hst2.c0
      have c1 := hst2.c1
      have c2 := hst2.c2
      have f0 := hst2.fr 0
      have ho : w2.ownsRow base 5 1 bv' (xs ++ (List.range i).map (byteAt A (r + n))).length (bcells (xs ++ (List.range i).map (byteAt A (r + n)))) := hst2.own
      have hl2 : (xs ++ (List.range i).map (byteAt A (r + n))).length ≤ 2000010 := by simp; omega
      generalize hys : xs ++ (List.range i).map (byteAt A (r + n)) = ys at *
      have HYS : Hid (xs ++ (List.range i).map (byteAt A (r + n)) = ys) := hys
      have HB1 : Hid (ys.length + 1 ≤ maxLen) := by unfold Hid maxLen; omega
      have b2 : (ys.length + 1) * 1 ≤ 140737488355328 := by omega
      have F0 : Hid (∀ o, (w2.alloc o).frozen? ⟨B, 0, none⟩ = false) := fun o => (World.frozen?_alloc_old _ _ _ (by show B ≠ _; omega)).trans f0
      have C0 : Hid (∀ o, (w2.alloc o).cell? ⟨B, 0, none⟩ = some bv') := fun o => (World.cell?_of_block (Below.heap_alloc _ _ _ hlt)).trans c0
      clear hys hb hd'
      go_region_law
        ((refine step_append_lies _ (by rfl) _ _ _ (by rfl) base 5 i0 _ 1 1 Try.underlying28 hi0 hz0 hz1 hz2 rfl (by omega) bv' ys.length (bcells ys) (by rfl) ((ho.alloc _).drew)
            ⟨w2.heap.size, 0, none⟩ 1 1 [.int .u8 (b : Int)] (by rfl) (by rfl) (World.news_of_block (cs := #[.int .u8 (b : Int)]) (t := 5) (fr := (0, 0)) (heap_alloc_new w2 _)) (by simp [Value.oneCell'])
            (by omega) HB1.out b2 (by simp; omega) (w2.heap.size + 1) (by simp) ?_; intro g cap w1 hown1 hgrow hat hlt1; have f0' : w1.frozen? ⟨B, 0, none⟩ = false := (hgrow.frozen_far ⟨B, 0, none⟩ (by simp; omega) (Ne.symm hne)).trans (F0.out _); have c0' : w1.cell? ⟨B, 0, none⟩ = some bv' := (hgrow.cell_far ⟨B, 0, none⟩ (by simp; omega) (Ne.symm hne)).trans (C0.out _)))
      all_goals
        have R := hst2.app hown1 (grown_undrew hgrow) hat
        have hsz : base ≤ w1.heap.size := by have := hgrow.size; simp at this; omega
        clear hown1 hgrow hat ho hst2 F0 C0 c0 c1 c2 f0 c0' f0' hlt1
        go_wp2_with fail
        go_roundg (gk - 1)
        case measure => omega
        case rel => exact ⟨i + 1, d', _, by omega, by have := HD.out; omega, by simpa [World.setCell] using hsz, by rw [emit_step xs ys A (r + n) i d' b HYS.out HB.out (by have := HD.out; omega)]; exact R⟩
    · go_wp2_with fail
      go_end0
      have e1 : i = (r + n) / 8 := by omega
      have e2 : d = (r + n) % 8 := by omega
      refine ⟨rfl, bv', ?_⟩
      rw [← e2]
      unfold emit
      rw [← e1]
      exact hst
end Go.Proofs.Qxb6619644a
