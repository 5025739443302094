/-
  Seat b6619644a: the walks of shiftIn and pushBits; words for a slice of bytes that the call owns.
-/
import Derived.Test.Qxb6619644aRows
import Derived.Test.Qxb6619644aSpell
import Derived.WalkSpells
import Derived.WalkLawsBesides
import Derived.Deep.AppendLies
namespace Go.Proofs.Qxb6619644a
open Go.RowKit

theorem Try.info5 : (Try.prog.info? 5).map (fun i => (i.zero, i.size, i.bytes)) = some (some (.int .u8 0), 1, 1) := by kernel_rfl

def bcells (xs : List Nat) : List Value := xs.map fun b : Nat => Value.int .u8 (b : Int)
theorem bcells_length (xs : List Nat) : (bcells xs).length = xs.length := by simp [bcells]
theorem bcells_snoc (xs : List Nat) (b : Nat) : bcells (xs ++ [b]) = bcells xs ++ [Value.int .u8 (b : Int)] := by simp [bcells]

/-- The value v owns the bytes xs. -/
def Own (base : Nat) (w : World) (v : Value) (xs : List Nat) : Prop := w.ownsRow base 5 1 v xs.length (bcells xs)
/-- v' lies where v lay, or in memory that w has not. -/
def Moved (w : World) (v v' : Value) : Prop := v'.ownBlock = v.ownBlock ∨ ∀ g, v'.ownBlock = some g → w.heap.size ≤ g

theorem Moved.refl (w : World) (v : Value) : Moved w v v := .inl rfl

theorem app_step {base : Nat} {w wr w1 : World} {v v' : Value} {ys : List Nat} {b g cap : Nat} {o : Obj} (hm : Moved w v v') (hg : w.grownBy wr v.ownBlock)
    (hown1 : w1.ownsRow base 5 1 (.slice (some ⟨g, 0, none⟩) (ys.length + 1) cap) (ys.length + 1) (bcells ys ++ [Value.int .u8 (b : Int)]))
    (hgrow : (wr.alloc o).grownBy w1 v'.ownBlock) (hat : v'.ownBlock = some g ∨ g = wr.heap.size + 1) :
    Own base w1 (.slice (some ⟨g, 0, none⟩) (ys.length + 1) cap) (ys ++ [b]) ∧ w.grownBy w1 v.ownBlock ∧ Moved w v (.slice (some ⟨g, 0, none⟩) (ys.length + 1) cap) := by
  refine ⟨?_, ?_, ?_⟩
  · unfold Own
    rw [bcells_snoc, List.length_append]
    exact hown1
  · have hs : (wr.alloc o).heap.size = wr.heap.size + 1 := by simp
    refine ⟨hgrow.os.trans hg.os, hgrow.tape.trans hg.tape, hgrow.output.trans hg.output, ?_, fun k hk hne => ?_⟩
    · have := hg.size; have := hgrow.size; omega
    · have hlt := hg.size
      rw [hgrow.block k (by omega) ?_, Below.heap_alloc _ _ _ (by omega), hg.block k hk hne]
      rcases hm with hm | hm
      · rw [hm]; exact hne
      · intro e
        have := hm k e.symm
        omega
  · rcases hat with hat | hat
    · rcases hm with hm | hm
      · exact .inl (by rw [← hm, hat]; rfl)
      · exact .inr fun g' hg' => hm g' (by rw [hat]; exact hg')
    · refine .inr fun g' hg' => ?_
      have : g = g' := by simpa [Value.ownBlock] using hg'
      have := hg.size
      omega

theorem shf_next (q x k m : Nat) (hk : k = m + 1) : shf ((q * 2 + x / 2 ^ (k - 1) % 2) % 18446744073709551616) (bitsOf (k - 1) x) = shf q (bitsOf k x) := by
  subst hk
  rw [bitsOf_cons]
  rfl

set_option maxHeartbeats 1000000 in
theorem shift_any (last x i : Nat) (w : World) (hi : i ≤ 64) (hl : last < 18446744073709551616) (hx : x < 18446744073709551616) :
    Calls Try.prog 14 #[.int .u64 last, .int .u64 x, .int .u64 i] w fun e w' => e = .returned (.int .u64 (shf last (bitsOf i x) : Nat)) ∧ w = w' := by
  go_enter Try.func14, Try.ntmps14
  go_wp2_with fail
  go_loop [0, 7] (fun l c => ∃ (q k : Nat), q < 18446744073709551616 ∧ k ≤ i ∧ l = .int .u64 q ∧ c = .int .u64 k ∧ shf q (bitsOf k x) = shf last (bitsOf i x)) (fun _ c => (intOf c).toNat)
  case atStart => exact ⟨last, i, hl, Nat.le_refl _, rfl, rfl, rfl⟩
  case round =>
    obtain ⟨q, k, hq, hk, rfl, rfl, hs⟩ := hrel
    have HS : Hid (shf q (bitsOf k x) = shf last (bitsOf i x)) := hs
    clear hs
    by_cases h0 : 0 < k
    · have h1 : (0 : Int) < k := by omega
      have h2 : (k : Int) ≤ 64 := by omega
      go_wp2_with fail
      go_round
      case rel => exact ⟨_, k - 1, Nat.mod_lt _ (by omega), by omega, congrArg (Value.int .u64) (bit_spell q x (k - 1) hx), by congr 1; omega, by rw [shf_next q x k (k - 1) (by omega)]; exact HS.out⟩
      case measure => simp [intOf]; omega
    · obtain rfl : k = 0 := by omega
      go_wp2_with fail
      go_ret
      exact ⟨by rw [← HS.out]; rfl, rfl⟩

theorem psh_cons (s : Sb) (x m : Nat) : psh s (bitsOf (m + 1) x) = psh (stp s (x / 2 ^ m % 2)) (bitsOf m x) := by rw [bitsOf_cons]; rfl

theorem push_bit (out : List Nat) (cur cnt x k : Nat) (h0 : 0 < k) (h8 : ¬ cnt + 1 = 8) : psh ⟨out, cur * 2 + x / 2 ^ (k - 1) % 2, cnt + 1⟩ (bitsOf (k - 1) x) = psh ⟨out, cur, cnt⟩ (bitsOf k x) := by
  obtain ⟨m, rfl⟩ : ∃ m, k = m + 1 := ⟨k - 1, by omega⟩
  rw [psh_cons]
  unfold stp
  rw [if_neg h8]
  rfl
theorem push_byte (out : List Nat) (cur cnt x k : Nat) (h0 : 0 < k) (h8 : cnt + 1 = 8) : psh ⟨out ++ [cur * 2 + x / 2 ^ (k - 1) % 2], 0, 0⟩ (bitsOf (k - 1) x) = psh ⟨out, cur, cnt⟩ (bitsOf k x) := by
  obtain ⟨m, rfl⟩ : ∃ m, k = m + 1 := ⟨k - 1, by omega⟩
  rw [psh_cons]
  unfold stp
  rw [if_pos h8]
  rfl
theorem cur_lt (cur cnt b : Nat) (hc : cur < 2 ^ cnt) (hb : b < 2) : cur * 2 + b < 2 ^ (cnt + 1) := by rw [Nat.pow_succ]; omega
theorem pow_le_128 (cnt : Nat) (h : cnt < 8) : 2 ^ cnt ≤ 128 := by
  have := Nat.pow_le_pow_right (show 0 < 2 by omega) (show cnt ≤ 7 by omega)
  omega

set_option maxHeartbeats 2000000 in
theorem push_any (base : Nat) (v : Value) (xs : List Nat) (cur cnt x i : Nat) (w : World) (hi : i ≤ 64) (hc : cur < 2 ^ cnt) (h8 : cnt < 8) (hx : x < 18446744073709551616)
    (hown : Own base w v xs) (hbase : base ≤ w.heap.size) (hlen : xs.length ≤ 1000000) :
    Calls Try.prog 13 #[v, .int .u64 cur, .int .u64 cnt, .int .u64 x, .int .u64 i] w fun e w' => ∃ v', 
      e = .returned (.tuple #[v', .int .u64 (psh ⟨xs, cur, cnt⟩ (bitsOf i x)).cur, .int .u64 (psh ⟨xs, cur, cnt⟩ (bitsOf i x)).cnt]) ∧
      Own base w' v' (psh ⟨xs, cur, cnt⟩ (bitsOf i x)).out ∧ w.grownBy w' v.ownBlock ∧ Moved w v v' := by
  obtain ⟨i0, hi0, hz0, hz1, hz2⟩ := info_parts Try.info5
  go_enter Try.func13, Try.ntmps13
  go_wp2_with fail
  go_loopw [0, 1, 2, 13] (fun o c n j wr => ∃ (ys : List Nat) (q m k : Nat), q < 2 ^ m ∧ m < 8 ∧ k ≤ i ∧ ys.length + k ≤ xs.length + i ∧ c = .int .u64 q ∧ n = .int .u64 m ∧ j = .int .u64 k ∧
      psh ⟨ys, q, m⟩ (bitsOf k x) = psh ⟨xs, cur, cnt⟩ (bitsOf i x) ∧ Own base wr o ys ∧ w.grownBy wr v.ownBlock ∧ Moved w v o) (fun _ _ _ j _ => (intOf j).toNat)
  case atStart => exact ⟨xs, cur, cnt, i, hc, h8, Nat.le_refl _, Nat.le_refl _, rfl, rfl, rfl, rfl, hown, World.grownBy.refl _ _, Moved.refl _ _⟩
  case round =>
    obtain ⟨ys, q, m, k, hq, hm, hk, hl, rfl, rfl, rfl, hs, ho, hg, hmv⟩ := hrel
    have HS : Hid (psh ⟨ys, q, m⟩ (bitsOf k x) = psh ⟨xs, cur, cnt⟩ (bitsOf i x)) := hs
    clear hs
    by_cases h0 : 0 < k
    · have h1 : (0 : Int) < k := by omega
      have h2 : (k : Int) ≤ 64 := by omega
      have hb : x / 2 ^ (k - 1) % 2 < 2 := Nat.mod_lt _ (by omega)
      have hq2 := cur_lt q m _ hq hb
      have hp := pow_le_128 m hm
      have hqq : q * 2 + x / 2 ^ (k - 1) % 2 ≤ 255 := by omega
      obtain ⟨q', hq'⟩ : ∃ q' : Nat, q' = q * 2 + x / 2 ^ (k - 1) % 2 := ⟨_, rfl⟩
      have E := bit_spell q x (k - 1) hx
      rw [Nat.mod_eq_of_lt (show q * 2 + x / 2 ^ (k - 1) % 2 < 18446744073709551616 by omega), ← hq'] at E
      rw [← hq'] at hqq
      have HQ : Hid (q' = q * 2 + x / 2 ^ (k - 1) % 2) := hq'
      have HP : Hid (q < 2 ^ m) := hq
      clear hq hq2 hp hb hq'
      by_cases h7 : m + 1 = 8
      · obtain rfl : m = 7 := by omega
        have ho' : wr.ownsRow base 5 1 u0 ys.length (bcells ys) := ho
        have b1 : ys.length + 1 ≤ maxLen := by unfold maxLen; omega
        have b2 : (ys.length + 1) * 1 ≤ 140737488355328 := by omega
        have b3 : base ≤ wr.heap.size + 1 := by have := hg.size; omega
        have HB1 : Hid (ys.length + 1 ≤ maxLen) := b1
        clear b1
        go_wp2_with (at_builtin; refine wpList_append_lies _ rfl (.tmp 31) (.tmp 34) 28 rfl base 5 i0 (.int .u8 0) 1 1 Try.underlying28 hi0 hz0 hz1 hz2 rfl (by decide) u0 ys.length (bcells ys) rfl (ho'.alloc _) ⟨wr.heap.size, 0, none⟩ 1 1 [.int .u8 (q' : Int)] rfl rfl (cell_one_new _ _ _) (by intro u hu; simp at hu; subst hu; rfl) (by decide) HB1.out b2 (by simp; exact b3) (wr.heap.size + 1) (by simp) ?_; intro g cap w1 hown1 hgrow hat hlt)
        have R := app_step hmv hg hown1 hgrow hat
        clear hown1 hgrow hat ho ho' hg hmv
        go_roundw
        case rel => exact ⟨ys ++ [q'], 0, 0, k - 1, by simp, by omega, by omega, by simp; omega, rfl, rfl, by congr 1; omega, by rw [HQ.out, push_byte ys q 7 x k h0 rfl]; exact HS.out, R.1, R.2.1, R.2.2⟩
        case measure => simp [intOf]; omega
      · have h77 : ((m : Int) + 1 == 8) = false := by rw [beq_eq_false_iff_ne]; omega
        go_wp2_with fail
        go_roundw
        case rel => exact ⟨ys, q', m + 1, k - 1, by rw [HQ.out]; exact cur_lt q m _ HP.out (Nat.mod_lt _ (by omega)), by omega, by omega, by omega, rfl, by go_num, by congr 1; omega, by rw [HQ.out, push_bit ys q m x k h0 h7]; exact HS.out, ho, hg, hmv⟩
        case measure => simp [intOf]; omega
    · obtain rfl : k = 0 := by omega
      go_wp2_with fail
      go_ret3
      exact ⟨_, by rw [← HS.out]; rfl, by rw [← HS.out]; exact ho, hg, hmv⟩
end Go.Proofs.Qxb6619644a
