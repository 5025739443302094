/-
  Seat b6619644a: ZZBitWriterWrite, cloneBytes, sameBytes.
-/
import Derived.Test.Qxb6619644aWriteAny
import Derived.Deep.QuietTactic
import Derived.BigQuiet
import Derived.Laws.CopyOwn
import Derived.Lib.SliceRun
namespace Go.Proofs.Qxb6619644a
open Go.RowKit

theorem own_form {base : Nat} {w : World} {v : Value} {xs : List Nat} (h : Own base w v xs) : ∃ ao c, v = .slice ao xs.length c := by
  rcases h.2 with ⟨rfl, h0⟩ | ⟨g, cap, cur, rfl, _⟩
  · exact ⟨none, 0, by rw [h0]⟩
  · exact ⟨_, _, rfl⟩

theorem grown_drewN {w w1 : World} {row : Option Nat} (h : w.grownBy w1 row) (n : Nat) : w.grownBy (w1.drewN n) row := ⟨h.os, h.tape, h.output, h.size, h.block⟩

set_option maxHeartbeats 1000000 in
theorem zzWrite_any (base : Nat) (b : Value) (xs : List Nat) (acc r v k : Nat) (w : World) (hown : Own base w b xs) (hn : k ≤ 64) (hr : r < 8)
    (ha : acc < 18446744073709551616) (hv : v < 18446744073709551616) (hlen : xs.length ≤ 1999900) (hbase : base ≤ w.heap.size) :
    Calls Try.prog 12 #[b, .int .u64 acc, .int .u64 r, .int .u64 v, .int .u64 k] w fun e w' => ∃ bv',
      e = .returned (.tuple #[bv', .int .u64 (wrt ⟨xs, acc, r⟩ (bitsOf k v)).acc, .int .u64 (wrt ⟨xs, acc, r⟩ (bitsOf k v)).r]) ∧
      Own base w' bv' (wrt ⟨xs, acc, r⟩ (bitsOf k v)).out ∧ w.grownBy w' b.ownBlock ∧ Moved w b bv' := by
  obtain ⟨ao, c, rfl⟩ := own_form hown
  have hst : St base w (.slice ao xs.length c) w.heap.size (w.alloc (.cells #[.slice ao xs.length c, .int .u64 acc, .int .u64 r] 45)) (.slice ao xs.length c) xs acc r :=
    ⟨World.grownBy_alloc _ _ _, heap_alloc_new w _, World.ownsRow.alloc hown _, Moved.refl _ _, Nat.le_refl _⟩
  have hw := write_any base w _ w.heap.size _ xs acc r v k _ hst hn hr ha hv hlen hbase
  generalize wrt ⟨xs, acc, r⟩ (bitsOf k v) = S at *
  obtain ⟨xs1, acc1, r1⟩ := S
  simp only at hw ⊢
  clear ha hv
  clear hst
  go_enter Try.func12, Try.ntmps12
  go_wp2_with (go_at_call 19; refine hw.mono ?_; rintro e w' ⟨rfl, bv1, hs1⟩; have c0 := hs1.c0; have c1 := hs1.c1; have c2 := hs1.c2)
  go_quiet (fail)
  go_wp2_with fail
  go_ret3
  exact ⟨bv1, rfl, hs1.own, grown_drewN hs1.grown _, hs1.moved⟩

theorem bcells_one (xs : List Nat) : ∀ u ∈ bcells xs, u.oneCell' = true := by
  intro u hu
  obtain ⟨b, _, rfl⟩ := List.mem_map.1 hu
  rfl

theorem clone_nil (w : World) : Calls Try.prog 11 #[.slice none 0 0] w fun e w' => e = .returned (.slice none 0 0) ∧ w = w' := by
  have qT := fun (w : World) (a : Option Addr) (n c n' c' : Nat) => Lib.run_eql_slice_nil (P := Try.prog) w 28 5 a n c n' c' Try.underlying28
  go_enter Try.func11, Try.ntmps11
  go_wp2_with fail
  go_ret
  exact ⟨rfl, rfl⟩

theorem own_made {base : Nat} {w wm : World} {n : Nat} {L : List Value} {xs : List Nat} (hb : base ≤ w.heap.size) (hx : xs.length = n) (ho : wm.ownsRow base 5 1 (.slice (some ⟨w.heap.size, 0, none⟩) n n) n L) (hg : w.grownBy wm none) :
    ∃ cur : Array Value, wm.heap[w.heap.size]? = some (.cells cur 5 (0, 0)) ∧ cur.size = n ∧
      Own base (wm.setRow w.heap.size (bcells xs ++ List.drop (bcells xs).length cur.toList).toArray) (.slice (some ⟨w.heap.size, 0, none⟩) n n) xs ∧
      w.grownBy (wm.setRow w.heap.size (bcells xs ++ List.drop (bcells xs).length cur.toList).toArray) none := by
  rcases ho.2 with ⟨h, _⟩ | ⟨g, cap, cur, hv, _, hgg, _, hm, hs, _⟩
  · cases h
  · simp only [Value.slice.injEq, Option.some.injEq, Addr.mk.injEq] at hv
    obtain ⟨⟨hv1, _, _⟩, _, hv2⟩ := hv
    subst hv2
    subst hv1
    have e : bcells xs ++ List.drop (bcells xs).length cur.toList = bcells xs := by
      rw [bcells_length, List.drop_of_length_le (by simp; omega), List.append_nil]
    refine ⟨cur, hgg, by omega, ?_, ?_⟩
    · rw [e]
      refine ⟨by rw [bcells_length]; omega, .inr ⟨_, n, _, by rw [hx], hb, setRow_heap wm _ cur _ 5 _ hgg, by omega, hm, by simp [bcells_length]; omega, ?_⟩⟩
      simp
      rw [List.take_of_length_le (by rw [bcells_length]; omega)]
    · exact ⟨hg.os, hg.tape, hg.output, by have := hg.size; simpa [World.setRow] using this, fun k hk hne => by rw [setRow_other wm _ k _ (by omega)]; exact hg.block k hk hne⟩

set_option maxHeartbeats 1000000 in
theorem clone_some (base : Nat) (ad : Addr) (cap : Nat) (xs : List Nat) (w : World) (hbase : base ≤ w.heap.size) (hlen : xs.length ≤ 2000000)
    (hsrc : ∀ j v, (bcells xs)[j]? = some v → w.cell? (ad.add j) = some v) :
    Calls Try.prog 11 #[.slice (some ad) xs.length cap] w fun e w' => e = .returned (.slice (some ⟨w.heap.size, 0, none⟩) xs.length xs.length) ∧
      Own base w' (.slice (some ⟨w.heap.size, 0, none⟩) xs.length xs.length) xs ∧ w.grownBy w' none := by
  obtain ⟨i0, hi0, hz0, hz1, hz2⟩ := info_parts Try.info5
  have hsz : Option.map (fun x => x.size) (Try.prog.info? 5) = some 1 := by rw [hi0]; simp [hz1]
  have qT := fun (w : World) (a : Option Addr) (n c n' c' : Nat) => Lib.run_eql_slice_nil (P := Try.prog) w 28 5 a n c n' c' Try.underlying28
  obtain ⟨n, hn⟩ : ∃ n, n = xs.length := ⟨_, rfl⟩
  rw [← hn] at hlen ⊢
  have HN : Hid (n = xs.length) := hn
  clear hn
  go_enter Try.func11, Try.ntmps11
  go_wp2_with (at_make; refine wpList_make_full _ rfl _ _ 28 rfl base 5 i0 (.int .u8 0) 1 Try.underlying28 hi0 hz0 hz1 _ _ _ _ n rfl rfl rfl rfl ?b2 ?b3 hbase ?_)
  case b2 => rw [hz2]; omega
  case b3 => unfold maxLen; omega
  intro wm hown hgrow
  obtain ⟨cur, hc1, hc2, hc3, hc4⟩ := own_made (xs := xs) hbase HN.out.symm hown hgrow
  have hsrc' : ∀ j v, (bcells xs)[j]? = some v → wm.cell? (ad.add j) = some v := fun j v h => hgrow.cell (hsrc j v h) (by simp)
  have HF : Hid (0 + (bcells xs).length ≤ cur.size) := by unfold Hid; rw [bcells_length, hc2, HN.out]; omega
  have HL : Hid ((bcells xs).length = n.min n) := by unfold Hid; rw [bcells_length, HN.out]; simp
  clear hown hsrc hc2
  go_wp2_with (refine wpList_copy_own rfl (.tmp 9) (.tmp 10) 28 28 rfl 5 Try.underlying28 hsz w.heap.size 0 n n ad n cap rfl rfl cur 5 hc1 (bcells xs) HL.out hsrc' HF.out (bcells_one xs) ?_)
  go_ret
  exact ⟨rfl, hc3, hc4⟩

theorem own_cell {base : Nat} {w : World} {v : Value} {xs : List Nat} (h : Own base w v xs) (hpos : 0 < xs.length) : ∃ g cap, v = .slice (some ⟨g, 0, none⟩) xs.length cap ∧ ∀ j (hj : j < xs.length), w.cell? ⟨g, j, none⟩ = some (.int .u8 ((xs[j] : Nat) : Int)) := by
  obtain ⟨g, cap, rfl, _, _⟩ := World.ownsRow.form h hpos
  refine ⟨g, cap, rfl, fun j hj => ?_⟩
  rw [World.ownsRow.cellAt h j (by omega)]
  simp [bcells, List.getElem?_eq_getElem hj]

theorem same_nil (ao bo : Option Addr) (c d : Nat) (w : World) : Calls Try.prog 15 #[.slice ao 0 c, .slice bo 0 d] w fun e w' => e = .returned (.bool true) ∧ ∃ m, w' = w.drewN m := by
  go_enter Try.func15, Try.ntmps15
  go_wp2_with fail
  refine wp_loop_rounds 1 ?_
  rw [rounds_succ]
  go_wp2_with fail
  go_ret
  exact ⟨rfl, 0, rfl⟩

set_option maxHeartbeats 1000000 in
theorem same_some (g h c d n : Nat) (xs : List Nat) (w : World) (hn : xs.length = n) (hlen : n ≤ 3000000) (hg : ∀ j (hj : j < xs.length), w.cell? ⟨g, j, none⟩ = some (.int .u8 ((xs[j] : Nat) : Int)))
    (hh : ∀ j (hj : j < xs.length), w.cell? ⟨h, j, none⟩ = some (.int .u8 ((xs[j] : Nat) : Int))) :
    Calls Try.prog 15 #[.slice (some ⟨g, 0, none⟩) n c, .slice (some ⟨h, 0, none⟩) n d] w fun e w' => e = .returned (.bool true) ∧ ∃ m, w' = w.drewN m := by
  have HN : Hid (xs.length = n) := hn
  clear hn
  have HG : Hid (∀ j (hj : j < xs.length), w.cell? ⟨g, j, none⟩ = some (.int .u8 ((xs[j] : Nat) : Int))) := hg
  have HH : Hid (∀ j (hj : j < xs.length), w.cell? ⟨h, j, none⟩ = some (.int .u8 ((xs[j] : Nat) : Int))) := hh
  clear hg hh
  go_enter Try.func15, Try.ntmps15
  go_wp2_with fail
  go_loopw [5] (fun i wr => ∃ k m : Nat, k ≤ n ∧ i = .int .i64 k ∧ wr = w.drewN m) (fun i _ => n - (intOf i).toNat)
  case atStart => exact ⟨0, 0, Nat.zero_le _, rfl, rfl⟩
  case round =>
    obtain ⟨k, m, hk, rfl, rfl⟩ := hrel
    by_cases hlt : k < n
    · have hk' : k < xs.length := by rw [HN.out]; exact hlt
      obtain ⟨b, hb⟩ : ∃ b : Nat, b = xs[k] := ⟨_, rfl⟩
      have cg : w.cell? ⟨g, k, none⟩ = some (.int .u8 (b : Int)) := by rw [hb]; exact HG.out k hk'
      have ch : w.cell? ⟨h, k, none⟩ = some (.int .u8 (b : Int)) := by rw [hb]; exact HH.out k hk'
      have k0 : (0 : Int) ≤ (k : Int) := by omega
      have k1 : (k : Int) < (n : Int) := by omega
      clear hb hk'
      go_wp2_with fail
      go_quiet (fail)
      go_wp2_with fail
      go_roundw
      case rel => exact ⟨k + 1, m + nq, by omega, by go_num, rfl⟩
      case measure => simp [intOf]; omega
    · go_wp2_with fail
      go_ret
      exact ⟨rfl, m, rfl⟩

theorem grown_refl_drewN (w : World) (n : Nat) (row : Option Nat) : w.grownBy (w.drewN n) row := grown_drewN (World.grownBy.refl w row) n

theorem same_any (base : Nat) (a b : Value) (xs : List Nat) (w : World) (ha : Own base w a xs) (hb : Own base w b xs) (hlen : xs.length ≤ 3000000) :
    Calls Try.prog 15 #[a, b] w fun e w' => e = .returned (.bool true) ∧ w.grownBy w' none := by
  by_cases h0 : 0 < xs.length
  · obtain ⟨g, c, rfl, hg⟩ := own_cell ha h0
    obtain ⟨h, d, rfl, hh⟩ := own_cell hb h0
    exact (same_some g h c d xs.length xs w rfl hlen hg hh).mono fun e w' ⟨he, m, hm⟩ => ⟨he, by rw [hm]; exact grown_refl_drewN w m none⟩
  · obtain ⟨ao, c, rfl⟩ := own_form ha
    obtain ⟨bo, d, rfl⟩ := own_form hb
    rw [show xs.length = 0 by omega]
    exact (same_nil ao bo c d w).mono fun e w' ⟨he, m, hm⟩ => ⟨he, by rw [hm]; exact grown_refl_drewN w m none⟩

theorem clone_any (base : Nat) (a : Option Addr) (len cap : Nat) (xs : List Nat) (w : World) (hbase : base ≤ w.heap.size) (hlen : xs.length ≤ 2000000)
    (h : (a = none ∧ len = 0 ∧ cap = 0 ∧ xs = []) ∨ ∃ ad, a = some ad ∧ xs.length = len ∧ ∀ j v, (bcells xs)[j]? = some v → w.cell? (ad.add j) = some v) :
    Calls Try.prog 11 #[.slice a len cap] w fun e w' => ∃ v', e = .returned v' ∧ Own base w' v' xs ∧ w.grownBy w' none ∧ ∀ g, v'.ownBlock = some g → w.heap.size ≤ g := by
  rcases h with ⟨rfl, rfl, rfl, rfl⟩ | ⟨ad, rfl, rfl, hsrc⟩
  · exact (clone_nil w).mono fun e w' ⟨he, hw⟩ => ⟨_, he, World.ownsRow_nil _ _ _ _, by rw [← hw]; exact World.grownBy.refl _ _, fun g hg => by simp [Value.ownBlock] at hg⟩
  · exact (clone_some base ad cap xs w hbase hlen hsrc).mono fun e w' ⟨he, h1, h2⟩ => ⟨_, he, h1, h2, fun g hg => by
      have : w.heap.size = g := by simpa [Value.ownBlock] using hg
      omega⟩

theorem clone_own (base : Nat) (v : Value) (xs : List Nat) (w : World) (hbase : base ≤ w.heap.size) (hlen : xs.length ≤ 2000000) (ho : Own base w v xs) :
    Calls Try.prog 11 #[v] w fun e w' => ∃ v', e = .returned v' ∧ Own base w' v' xs ∧ w.grownBy w' none ∧ ∀ g, v'.ownBlock = some g → w.heap.size ≤ g := by
  rcases ho.2 with ⟨hv, h0⟩ | ⟨g, cap, cur, hv, _⟩
  · subst hv
    have : xs = [] := List.length_eq_zero_iff.1 h0
    exact clone_any base none 0 0 xs w hbase hlen (.inl ⟨rfl, rfl, rfl, this⟩)
  · subst hv
    exact clone_any base _ xs.length cap xs w hbase hlen (.inr ⟨_, rfl, rfl, World.ownsRow.cells ho rfl⟩)
end Go.Proofs.Qxb6619644a
