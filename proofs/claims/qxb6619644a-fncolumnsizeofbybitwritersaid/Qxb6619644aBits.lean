/-
  Seat b6619644a: bits, plainly: a number's low bits, high first; the stream of bytes that they fill; the accumulator that they are shifted into. Nothing of the program.
-/
import Derived.WalkKit
namespace Go.Proofs.Qxb6619644a

/-- The low n bits of x, the highest first. -/
def bitsOf : Nat → Nat → List Nat
  | 0, _ => []
  | n + 1, x => bitsOf n (x / 2) ++ [x % 2]

theorem bitsOf_cons : ∀ (n x : Nat), bitsOf (n + 1) x = (x / 2 ^ n % 2) :: bitsOf n x
  | 0, x => by simp [bitsOf]
  | n + 1, x => by
    rw [bitsOf, bitsOf_cons n (x / 2), bitsOf]
    rw [Nat.div_div_eq_div_mul, Nat.pow_succ, Nat.mul_comm]
    rfl

theorem bitsOf_split : ∀ (a b x : Nat), bitsOf (a + b) x = bitsOf a (x / 2 ^ b) ++ bitsOf b x
  | a, 0, x => by simp [bitsOf]
  | a, b + 1, x => by
    rw [← Nat.add_assoc, bitsOf, bitsOf_split a b (x / 2), bitsOf, Nat.div_div_eq_div_mul, Nat.pow_succ, Nat.mul_comm 2, List.append_assoc]

theorem bitsOf_length : ∀ n x : Nat, (bitsOf n x).length = n
  | 0, _ => rfl
  | n + 1, x => by rw [bitsOf, List.length_append, bitsOf_length n]; rfl

/-- A stream: whole bytes, and the cnt bits (cur) behind them. -/
structure Sb where
  out : List Nat
  cur : Nat
  cnt : Nat

def stp (s : Sb) (b : Nat) : Sb := if s.cnt + 1 = 8 then ⟨s.out ++ [s.cur * 2 + b], 0, 0⟩ else ⟨s.out, s.cur * 2 + b, s.cnt + 1⟩
def psh (s : Sb) (bs : List Nat) : Sb := bs.foldl stp s
def shf (a : Nat) (bs : List Nat) : Nat := bs.foldl (fun a b => (a * 2 + b) % 18446744073709551616) a

theorem psh_append (s : Sb) (a b : List Nat) : psh s (a ++ b) = psh (psh s a) b := by unfold psh; exact List.foldl_append
theorem shf_append (s : Nat) (a b : List Nat) : shf s (a ++ b) = shf (shf s a) b := by unfold shf; exact List.foldl_append
theorem psh_one (s : Sb) (b : Nat) : psh s [b] = stp s b := rfl
theorem shf_one (a b : Nat) : shf a [b] = (a * 2 + b) % 18446744073709551616 := rfl
theorem shf_lt (a : Nat) (bs : List Nat) (h : a < 18446744073709551616) : shf a bs < 18446744073709551616 := by
  induction bs generalizing a with
  | nil => exact h
  | cons b bs ih => exact ih _ (Nat.mod_lt _ (by omega))

theorem m_step (a n v : Nat) : (a * 2 ^ n + v / 2 % 2 ^ n) * 2 + v % 2 = a * 2 ^ (n + 1) + v % 2 ^ (n + 1) := by
  have h : v % 2 ^ (n + 1) = v / 2 % 2 ^ n * 2 + v % 2 := by
    rw [Nat.pow_succ, Nat.mul_comm (2 ^ n) 2, Nat.mod_mul]; omega
  rw [h, Nat.pow_succ, Nat.add_mul, Nat.mul_assoc, Nat.add_assoc]

theorem shf_bitsOf : ∀ (n a v : Nat), a < 18446744073709551616 → shf a (bitsOf n v) = (a * 2 ^ n + v % 2 ^ n) % 18446744073709551616
  | 0, a, v, h => by
    show a = (a * 1 + v % 1) % _
    rw [Nat.mod_one, Nat.mul_one, Nat.add_zero, Nat.mod_eq_of_lt h]
  | n + 1, a, v, h => by
    rw [bitsOf, shf_append, shf_bitsOf n a (v / 2) h, shf_one, ← m_step a n v]
    omega

/-- The bytes that the loop takes off: the i-th is the eight bits at R - 8 (i + 1). -/
def byteAt (m R i : Nat) : Nat := m / 2 ^ (R - 8 * (i + 1)) % 256
def emit (m R : Nat) : List Nat := (List.range (R / 8)).map (byteAt m R)

theorem emit_low (m R : Nat) (h : R < 8) : emit m R = [] := by
  unfold emit
  rw [Nat.div_eq_of_lt h]
  rfl

theorem byteAt_step (m b R i : Nat) (hb : b < 2) (hi : i < R / 8) : byteAt (m * 2 + b) (R + 1) i = byteAt m R i := by
  unfold byteAt
  have e : R + 1 - 8 * (i + 1) = (R - 8 * (i + 1)) + 1 := by omega
  rw [e, Nat.pow_succ, Nat.mul_comm (2 ^ _) 2, ← Nat.div_div_eq_div_mul, show (m * 2 + b) / 2 = m by omega]

theorem emit_same (m b R : Nat) (hb : b < 2) (h : ¬ R % 8 + 1 = 8) : emit (m * 2 + b) (R + 1) = emit m R := by
  unfold emit
  rw [show (R + 1) / 8 = R / 8 by omega]
  apply List.map_congr_left
  intro i hi
  exact byteAt_step m b R i hb (List.mem_range.1 hi)

theorem emit_more (m b R : Nat) (hb : b < 2) (h : R % 8 + 1 = 8) : emit (m * 2 + b) (R + 1) = emit m R ++ [(m * 2 + b) % 256] := by
  unfold emit
  rw [show (R + 1) / 8 = R / 8 + 1 by omega, List.range_succ, List.map_append]
  congr 1
  · apply List.map_congr_left
    intro i hi
    exact byteAt_step m b R i hb (List.mem_range.1 hi)
  · show [byteAt (m * 2 + b) (R + 1) (R / 8)] = _
    unfold byteAt
    rw [show R + 1 - 8 * (R / 8 + 1) = 0 by omega, Nat.pow_zero, Nat.div_one]

theorem pow_mod_step (m b c : Nat) (hb : b < 2) : (m % 2 ^ c) * 2 + b = (m * 2 + b) % 2 ^ (c + 1) := by
  rw [Nat.pow_succ, Nat.mul_comm (2 ^ c) 2, Nat.mod_mul]
  rw [show (m * 2 + b) % 2 = b by omega, show (m * 2 + b) / 2 = m by omega]
  omega

theorem psh_bitsOf (out : List Nat) (cur cnt : Nat) (hc : cur < 2 ^ cnt) (h8 : cnt < 8) : ∀ n v : Nat,
    psh ⟨out, cur, cnt⟩ (bitsOf n v) = ⟨out ++ emit (cur * 2 ^ n + v % 2 ^ n) (cnt + n), (cur * 2 ^ n + v % 2 ^ n) % 2 ^ ((cnt + n) % 8), (cnt + n) % 8⟩
  | 0, v => by
    show (⟨out, cur, cnt⟩ : Sb) = _
    rw [Nat.pow_zero, Nat.mul_one, Nat.mod_one, Nat.add_zero, Nat.add_zero, Nat.mod_eq_of_lt h8, emit_low _ _ h8, List.append_nil, Nat.mod_eq_of_lt hc]
  | n + 1, v => by
    have hb : v % 2 < 2 := Nat.mod_lt _ (by omega)
    rw [bitsOf, psh_append, psh_bitsOf out cur cnt hc h8 n (v / 2), psh_one, ← m_step cur n v, ← Nat.add_assoc]
    generalize cur * 2 ^ n + v / 2 % 2 ^ n = m
    generalize hT : cnt + n = T
    generalize v % 2 = b at hb
    unfold stp
    by_cases h : T % 8 + 1 = 8
    · rw [if_pos h, emit_more m b T hb h, show (T + 1) % 8 = 0 by omega, Nat.pow_zero, Nat.mod_one, List.append_assoc]
      simp only
      rw [pow_mod_step m b _ hb, show T % 8 + 1 = 8 from h]
    · rw [if_neg h, emit_same m b T hb h, show (T + 1) % 8 = T % 8 + 1 by omega]
      simp only
      rw [pow_mod_step m b _ hb]

/-- A writer: its bytes, its accumulator, its pending count. -/
structure Ws where
  out : List Nat
  acc : Nat
  r : Nat
def wrt (s : Ws) (bs : List Nat) : Ws := ⟨(psh ⟨s.out, s.acc % 2 ^ s.r, s.r⟩ bs).out, shf s.acc bs, (psh ⟨s.out, s.acc % 2 ^ s.r, s.r⟩ bs).cnt⟩

theorem pow64 : (18446744073709551616 : Nat) = 2 ^ 64 := by decide
theorem mod64_mod (x c : Nat) (h : c ≤ 64) : x % 18446744073709551616 % 2 ^ c = x % 2 ^ c := by
  rw [pow64]; exact Nat.mod_mod_of_dvd x (Nat.pow_dvd_pow 2 h)

theorem stp_cur (out : List Nat) (a r b : Nat) (hr : r < 8) (hb : b < 2) :
    stp ⟨out, a % 2 ^ r, r⟩ b = ⟨(stp ⟨out, a % 2 ^ r, r⟩ b).out, (a * 2 + b) % 18446744073709551616 % 2 ^ (stp ⟨out, a % 2 ^ r, r⟩ b).cnt, (stp ⟨out, a % 2 ^ r, r⟩ b).cnt⟩ ∧ (stp ⟨out, a % 2 ^ r, r⟩ b).cnt < 8 := by
  unfold stp
  by_cases h : r + 1 = 8
  · rw [if_pos h]
    refine ⟨?_, by simp⟩
    simp only [Nat.pow_zero, Nat.mod_one]
  · rw [if_neg h]
    refine ⟨?_, by simp only; omega⟩
    simp only
    rw [mod64_mod _ _ (by omega), pow_mod_step a b r hb]

theorem psh_cur : ∀ (bs : List Nat) (out : List Nat) (a r : Nat), r < 8 → (∀ b ∈ bs, b < 2) →
    psh ⟨out, a % 2 ^ r, r⟩ bs = ⟨(psh ⟨out, a % 2 ^ r, r⟩ bs).out, shf a bs % 2 ^ (psh ⟨out, a % 2 ^ r, r⟩ bs).cnt, (psh ⟨out, a % 2 ^ r, r⟩ bs).cnt⟩ ∧ (psh ⟨out, a % 2 ^ r, r⟩ bs).cnt < 8
  | [], _, _, _, hr, _ => ⟨rfl, hr⟩
  | b :: bs, out, a, r, hr, hb => by
    have h1 := stp_cur out a r b hr (hb b List.mem_cons_self)
    show psh (stp ⟨out, a % 2 ^ r, r⟩ b) bs = ⟨(psh (stp ⟨out, a % 2 ^ r, r⟩ b) bs).out, shf ((a * 2 + b) % 18446744073709551616) bs % 2 ^ (psh (stp ⟨out, a % 2 ^ r, r⟩ b) bs).cnt, (psh (stp ⟨out, a % 2 ^ r, r⟩ b) bs).cnt⟩ ∧ (psh (stp ⟨out, a % 2 ^ r, r⟩ b) bs).cnt < 8
    rw [h1.1]
    exact psh_cur bs _ _ _ h1.2 (fun x hx => hb x (List.mem_cons_of_mem _ hx))

theorem bitsOf_bits : ∀ (n x : Nat), ∀ b ∈ bitsOf n x, b < 2
  | 0, _, b, h => by cases h
  | n + 1, x, b, h => by
    rw [bitsOf] at h
    rcases List.mem_append.1 h with h | h
    · exact bitsOf_bits n _ b h
    · rw [List.mem_singleton.1 h]; exact Nat.mod_lt _ (by omega)

theorem wrt_append (s : Ws) (a b : List Nat) (hr : s.r < 8) (ha : ∀ x ∈ a, x < 2) : wrt s (a ++ b) = wrt (wrt s a) b := by
  have h := (psh_cur a s.out s.acc s.r hr ha).1
  unfold wrt
  simp only
  rw [psh_append, shf_append, h]
theorem wrt_cnt (s : Ws) (a : List Nat) (hr : s.r < 8) (ha : ∀ x ∈ a, x < 2) : (wrt s a).r < 8 := (psh_cur a s.out s.acc s.r hr ha).2

theorem byteAt_mod (m R i : Nat) (hi : i < R / 8) (K : Nat) (hK : R ≤ K) : byteAt (m % 2 ^ K) R i = byteAt m R i := by
  unfold byteAt
  obtain ⟨d, hd⟩ : ∃ d, K = (R - 8 * (i + 1)) + (8 + d) := ⟨K - (R - 8 * (i + 1)) - 8, by omega⟩
  rw [hd, Nat.pow_add, Nat.mod_mul_right_div_self, Nat.pow_add]
  exact Nat.mod_mod_of_dvd _ (Nat.dvd_mul_right _ _)

theorem emit_mod (m R K : Nat) (hK : R ≤ K) : emit (m % 2 ^ K) R = emit m R := by
  unfold emit
  apply List.map_congr_left
  intro i hi
  exact byteAt_mod m R i (List.mem_range.1 hi) K hK

theorem low_bits (a r n y : Nat) (hy : y < 2 ^ n) : (a * 2 ^ n + y) % 2 ^ (r + n) = (a % 2 ^ r) * 2 ^ n + y := by
  rw [Nat.add_comm r n, Nat.pow_add, Nat.mod_mul]
  have h1 : (a * 2 ^ n + y) % 2 ^ n = y := by rw [Nat.add_comm, Nat.add_mul_mod_self_right, Nat.mod_eq_of_lt hy]
  have h2 : (a * 2 ^ n + y) / 2 ^ n = a := by
    rw [Nat.add_comm, Nat.add_mul_div_right _ _ (Nat.pow_pos (by omega)), Nat.div_eq_of_lt hy, Nat.zero_add]
  rw [h1, h2, Nat.add_comm, Nat.mul_comm]

/-- What the text of 'write' does for at most 32 bits. -/
theorem wrt_small (out : List Nat) (acc r n v : Nat) (hr : r < 8) (hn : n ≤ 32) (ha : acc < 18446744073709551616) :
    wrt ⟨out, acc, r⟩ (bitsOf n v) = ⟨out ++ emit ((acc * 2 ^ n + v % 2 ^ n) % 18446744073709551616) (r + n), (acc * 2 ^ n + v % 2 ^ n) % 18446744073709551616, (r + n) % 8⟩ := by
  have hy : v % 2 ^ n < 2 ^ n := Nat.mod_lt _ (Nat.pow_pos (by omega))
  have e1 : emit ((acc * 2 ^ n + v % 2 ^ n) % 18446744073709551616) (r + n) = emit ((acc % 2 ^ r) * 2 ^ n + v % 2 ^ n) (r + n) := by
    rw [pow64, emit_mod _ _ 64 (by omega), ← low_bits acc r n _ hy, emit_mod _ _ (r + n) (Nat.le_refl _)]
  unfold wrt
  simp only
  rw [psh_bitsOf out (acc % 2 ^ r) r (Nat.mod_lt _ (Nat.pow_pos (by omega))) hr n v, shf_bitsOf n acc v ha, e1]

/-- The model: the n pending bits of acc, pushed onto whole bytes. -/
theorem psh_pending (out : List Nat) (acc n : Nat) (hn : n < 8) : psh ⟨out, 0, 0⟩ (bitsOf n acc) = ⟨out, acc % 2 ^ n, n⟩ := by
  rw [psh_bitsOf out 0 0 (by simp) (by omega) n acc, Nat.zero_mul, Nat.zero_add, Nat.zero_add, emit_low _ _ hn, List.append_nil, Nat.mod_eq_of_lt hn, Nat.mod_mod]

theorem psh_wrt (out : List Nat) (acc r : Nat) (bs : List Nat) (hr : r < 8) (hb : ∀ x ∈ bs, x < 2) :
    psh ⟨out, acc % 2 ^ r, r⟩ bs = ⟨(wrt ⟨out, acc, r⟩ bs).out, (wrt ⟨out, acc, r⟩ bs).acc % 2 ^ (wrt ⟨out, acc, r⟩ bs).r, (wrt ⟨out, acc, r⟩ bs).r⟩ :=
  (psh_cur bs out acc r hr hb).1

theorem psh_bound : ∀ (bs : List Nat) (s : Sb), s.cnt < 8 → s.cur < 2 ^ s.cnt → (∀ b ∈ bs, b < 2) → (psh s bs).cnt < 8 ∧ (psh s bs).cur < 2 ^ (psh s bs).cnt ∧ (psh s bs).out.length ≤ s.out.length + bs.length
  | [], s, h1, h2, _ => ⟨h1, h2, by show s.out.length ≤ _; simp⟩
  | b :: bs, s, h1, h2, hb => by
    have hb0 := hb b List.mem_cons_self
    have IH := psh_bound bs (stp s b)
    have h3 : (stp s b).cnt < 8 ∧ (stp s b).cur < 2 ^ (stp s b).cnt ∧ (stp s b).out.length ≤ s.out.length + 1 := by
      unfold stp
      by_cases h : s.cnt + 1 = 8
      · rw [if_pos h]; exact ⟨by simp, by simp, by simp⟩
      · rw [if_neg h]
        refine ⟨by simp only; omega, ?_, by simp⟩
        simp only
        rw [Nat.pow_succ]
        omega
    have := IH h3.1 h3.2.1 (fun x hx => hb x (List.mem_cons_of_mem _ hx))
    refine ⟨this.1, this.2.1, ?_⟩
    show (psh (stp s b) bs).out.length ≤ _
    rw [List.length_cons]
    omega
end Go.Proofs.Qxb6619644a
