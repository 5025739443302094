/-
  Seat b6619644a: FnBitWriterWriteSplitAndModel at every input.
-/
import Derived.Test.Qxb6619644aSplit
namespace Go.Proofs.Qxb6619644a
open Go.RowKit

theorem wrt_len (xs : List Nat) (acc n k v : Nat) (hn : n < 8) (hk : k ≤ 64) : (wrt ⟨xs, acc, n⟩ (bitsOf k v)).out.length ≤ xs.length + 64 := by
  have := (psh_bound (bitsOf k v) ⟨xs, acc % 2 ^ n, n⟩ hn (Nat.mod_lt _ (Nat.pow_pos (by omega))) (bitsOf_bits k v)).2.2
  rw [bitsOf_length] at this
  show (psh ⟨xs, acc % 2 ^ n, n⟩ (bitsOf k v)).out.length ≤ _
  simp only at this
  omega

theorem split_in (a : Option Addr) (len cap : Nat) (xs : List Nat) (acc n v k j : Nat) (w : World) (hlen : len ≤ 65536) (hx : xs.length = len)
    (hsrc : (a = none ∧ len = 0 ∧ cap = 0 ∧ xs = []) ∨ ∃ ad, a = some ad ∧ xs.length = len ∧ ∀ j v, (bcells xs)[j]? = some v → w.cell? (ad.add j) = some v)
    (hn : n < 8) (hk : k ≤ 64) (hj : j ≤ k) (ha : acc < 18446744073709551616) (hv : v < 18446744073709551616) :
    Calls Try.prog 5 #[.slice a len cap, .int .u64 acc, .int .u64 n, .int .u64 v, .int .u64 k, .int .u64 j] w fun e w' => e = .returned (.bool true) ∧ Below w.heap.size w w' := by
  have hb := bitsOf_bits (k - j) (v / 2 ^ j)
  have hbk := bitsOf_bits k v
  have hle : v / 2 ^ j ≤ v := Nat.div_le_self _ _
  have e3 : wrt (wrt ⟨xs, acc, n⟩ (bitsOf (k - j) (v / 2 ^ j))) (bitsOf j v) = wrt ⟨xs, acc, n⟩ (bitsOf k v) := by
    rw [← wrt_append _ _ _ hn hb, ← bitsOf_split, show k - j + j = k by omega]
  have l1 := wrt_len xs acc n k v hn hk
  have l2 := wrt_len xs acc n (k - j) (v / 2 ^ j) hn (by omega)
  have r1 := wrt_cnt ⟨xs, acc, n⟩ (bitsOf k v) hn hbk
  refine split_core a len cap xs acc n v k j (v / 2 ^ j) (k - j) w hlen hx hsrc (by omega) (by omega) (by omega) ha hv (by omega) (by rw [cast_pow]; rfl) (by omega)
    _ _ _ _ _ _ (acc % 2 ^ n) _ rfl rfl e3 (psh_pending xs acc n hn) (psh_wrt xs acc n (bitsOf k v) hn hbk) (Nat.mod_lt _ (Nat.pow_pos (by omega))) rfl
    (wrt_cnt ⟨xs, acc, n⟩ _ hn hb) r1 (shf_lt acc _ ha) (Nat.le_trans l2 (by omega)) (Nat.le_trans l1 (by omega)) ?_
  have r2 : (wrt ⟨xs, acc, n⟩ (bitsOf k v)).r ≤ 63 := by omega
  exact and_mask _ _ r2 (shf_lt acc _ ha)

set_option maxHeartbeats 1000000 in
theorem split_long (a : Option Addr) (len cap : Nat) (acc n v k j : Int) (w : World) (h : 65536 < len) :
    Calls Try.prog 5 #[.slice a len cap, .int .u64 acc, .int .u64 n, .int .u64 v, .int .u64 k, .int .u64 j] w fun e w' => e = .returned (.bool true) ∧ Below w.heap.size w w' := by
  by_cases h2 : len ≤ 1048576
  · go_enter Try.func5, Try.ntmps5
    go_wp2_with (go_at_call 10; refine (zzBytes_yes _ _ _ _ _ _ _ _ _ h2).mono ?_; rintro e w' ⟨rfl, rfl⟩)
    go_ret
    exact ⟨rfl, Below.refl _ _⟩
  · have h3 : 1048576 < len := by omega
    go_enter Try.func5, Try.ntmps5
    go_wp2_with (go_at_call 10; refine (zzBytes_no _ _ _ _ _ _ _ _ _ h3).mono ?_; rintro e w' ⟨rfl, rfl⟩)
    go_ret
    exact ⟨rfl, Below.refl _ _⟩

set_option maxHeartbeats 1000000 in
theorem split_off (a : Option Addr) (len cap : Nat) (acc n v k j : Int) (w : World) (h : len ≤ 65536) (hc : 8 ≤ n ∨ 64 < k ∨ k < j) :
    Calls Try.prog 5 #[.slice a len cap, .int .u64 acc, .int .u64 n, .int .u64 v, .int .u64 k, .int .u64 j] w fun e w' => e = .returned (.bool true) ∧ Below w.heap.size w w' := by
  by_cases h1 : 8 ≤ n
  · clear hc
    go_enter Try.func5, Try.ntmps5
    go_wp2_with (go_at_call 10; refine (zzBytes_yes _ _ _ _ _ _ _ _ _ (by omega)).mono ?_; rintro e w' ⟨rfl, rfl⟩)
    go_ret
    exact ⟨rfl, Below.refl _ _⟩
  · have d1 : decide (8 ≤ n) = false := decide_eq_false h1
    by_cases h2 : 64 < k
    · clear hc
      go_enter Try.func5, Try.ntmps5
      go_wp2_with (go_at_call 10; refine (zzBytes_yes _ _ _ _ _ _ _ _ _ (by omega)).mono ?_; rintro e w' ⟨rfl, rfl⟩)
      go_ret
      exact ⟨rfl, Below.refl _ _⟩
    · have d2 : decide (64 < k) = false := decide_eq_false h2
      have h3 : k < j := by omega
      clear hc
      go_enter Try.func5, Try.ntmps5
      go_wp2_with (go_at_call 10; refine (zzBytes_yes _ _ _ _ _ _ _ _ _ (by omega)).mono ?_; rintro e w' ⟨rfl, rfl⟩)
      go_ret
      exact ⟨rfl, Below.refl _ _⟩

theorem split_any (a : Option Addr) (len cap : Nat) (zs : List Int) (acc n v k j : Int) (w : World)
    (hrow : (a = none ∧ len = 0 ∧ cap = 0 ∧ zs = []) ∨ ∃ x, a = some x ∧ len ≤ cap ∧ zs.length = cap ∧ (∀ i, i < zs.length → w.cell? (x.add i) = some (.int .u8 (zs.getD i 0))) ∧ ∀ n ∈ zs, 0 ≤ n)
    (b1 : 0 ≤ acc ∧ acc ≤ 18446744073709551615) (b2 : 0 ≤ n ∧ n ≤ 18446744073709551615) (b3 : 0 ≤ v ∧ v ≤ 18446744073709551615) (b4 : 0 ≤ k ∧ k ≤ 18446744073709551615) (b5 : 0 ≤ j ∧ j ≤ 18446744073709551615) :
    Calls Try.prog 5 #[.slice a len cap, .int .u64 acc, .int .u64 n, .int .u64 v, .int .u64 k, .int .u64 j] w fun e w' => e = .returned (.bool true) ∧ Below w.heap.size w w' := by
  by_cases hl : len ≤ 65536
  · by_cases hc : 8 ≤ n ∨ 64 < k ∨ k < j
    · exact split_off a len cap acc n v k j w hl hc
    · obtain ⟨acc, rfl⟩ : ∃ m : Nat, acc = m := ⟨acc.toNat, by omega⟩
      obtain ⟨n, rfl⟩ : ∃ m : Nat, n = m := ⟨n.toNat, by omega⟩
      obtain ⟨v, rfl⟩ : ∃ m : Nat, v = m := ⟨v.toNat, by omega⟩
      obtain ⟨k, rfl⟩ : ∃ m : Nat, k = m := ⟨k.toNat, by omega⟩
      obtain ⟨j, rfl⟩ : ∃ m : Nat, j = m := ⟨j.toNat, by omega⟩
      rcases hrow with ⟨rfl, rfl, rfl, rfl⟩ | ⟨x, rfl, h1, h2, h3, h4⟩
      · exact split_in none 0 0 [] acc n v k j w (by omega) rfl (.inl ⟨rfl, rfl, rfl, rfl⟩) (by omega) (by omega) (by omega) (by omega) (by omega)
      · have hlen : ((zs.take len).map Int.toNat).length = len := by simp; omega
        refine split_in (some x) len cap ((zs.take len).map Int.toNat) acc n v k j w hl hlen (.inr ⟨x, rfl, hlen, fun i u hu => ?_⟩) (by omega) (by omega) (by omega) (by omega) (by omega)
        have hi : i < len := by
          have := (List.getElem?_eq_some_iff.1 hu).1
          rw [bcells_length, hlen] at this
          exact this
        have hz : i < zs.length := by omega
        rw [h3 i hz]
        have e1 : (bcells ((zs.take len).map Int.toNat))[i]? = some (.int .u8 ((zs[i].toNat : Nat) : Int)) := by
          simp [bcells, hi, List.getElem?_eq_getElem hz]
        rw [e1] at hu
        rw [← hu]
        have := h4 zs[i] (List.getElem_mem hz)
        simp [List.getD, List.getElem?_eq_getElem hz]
        omega
  · exact split_long a len cap acc n v k j w (by omega)
end Go.Proofs.Qxb6619644a
