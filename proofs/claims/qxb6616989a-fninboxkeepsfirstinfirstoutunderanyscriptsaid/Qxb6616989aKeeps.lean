/-
  Seat b6616989a: the walk of FnInboxKeepsFirstInFirstOutUnderAnyScript.
-/
import Derived.Test.Qxb6616989aKeepsPlain
namespace Go.Proofs.Qxb6616989a
open Go.RowKit

theorem Try.info3 : (Try.prog.info? 3).map (fun i => (i.zero, i.size, i.bytes)) = some (some (.int .i64 0), 1, 8) := by kernel_rfl

theorem bytesK_yes (a : Option Addr) (len cap : Nat) (w : World) (h : len ≤ 1048576) : Calls Try.prog 12 #[.slice a len cap] w fun e w' => e = .returned (.bool true) ∧ w = w' := by
  go_enter Try.func12, Try.ntmps12
  go_wp2
  go_ret
  exact ⟨rfl, rfl⟩
theorem bytesK_no (a : Option Addr) (len cap : Nat) (w : World) (h : 1048576 < len) : Calls Try.prog 12 #[.slice a len cap] w fun e w' => e = .returned (.bool false) ∧ w = w' := by
  go_enter Try.func12, Try.ntmps12
  go_wp2
  go_ret
  exact ⟨rfl, rfl⟩

set_option maxHeartbeats 4000000 in
theorem keeps_core (b off len cap : Nat) (zs : List Int) (w : World) (hlen : len ≤ 4096) (hb : b < w.heap.size) (hc : ∀ j, j < len → w.cell? ⟨b, off + j, none⟩ = some (.int .i64 (zs.getD j 0))) :
    Calls Try.prog 4 #[.slice (some ⟨b, off, none⟩) len cap] w fun e w' => e = .returned (.bool true) ∧ Below w.heap.size w w' := by
  obtain ⟨i0, hi, hz0, hz1, hz2⟩ := info_parts Try.info3
  obtain ⟨base, hbase⟩ : ∃ base, base = w.heap.size := ⟨_, rfl⟩
  have HBS : Hid (base = w.heap.size) := hbase
  rw [← hbase] at hb ⊢
  clear hbase
  have HC : Hid (∀ j, j < len → w.cell? ⟨b, off + j, none⟩ = some (.int .i64 (zs.getD j 0))) := hc
  clear hc
  go_enter Try.func4, Try.ntmps4
  go_wp2_with (go_at_call 12; refine (bytesK_yes _ _ _ _ (by omega)).mono ?_; rintro e w' ⟨rfl, rfl⟩)
  refine (newInbox_any w).mono ?_
  rintro e w1 ⟨B, c1, c2, rfl, hI1, hF1⟩
  rw [← HBS.out] at hI1 hF1
  have hs1 : base ≤ w1.heap.size := by rw [HBS.out]; exact hF1.size
  have hbl1 : Below base w w1 := Frm.below (Below.refl _ _) hF1
  go_wp2_with (at_make; refine wpList_make_own _ rfl _ _ 22 rfl base 3 i0 (.int .i64 0) 1 Try.underlying22 hi hz0 hz1 _ _ _ len rfl rfl (by omega) ?b2 ?b3 hs1 ?_)
  case b2 => rw [hz2]; omega
  case b3 => unfold maxLen; omega
  intro w2 hown2 hgrow2
  have hI2 : IB base B c1 c2 w2 (.slice none 0 0) [] 0 .nilIface := ⟨(hgrow2.block B hI1.lt (by simp)).trans hI1.blk, items_nil _ _, hI1.room.kept (hgrow2.block c2 hI1.room.lt (by simp)), hI1.hB, hI1.hc⟩
  have hbl2 : Below base w w2 := hbl1.grown hgrow2 hs1 (fun k h => by cases h)
  have hs2 : base ≤ w2.heap.size := Nat.le_trans hs1 hgrow2.size
  obtain ⟨G, hG⟩ : ∃ G, G = w1.heap.size := ⟨_, rfl⟩
  rw [← hG] at hown2 ⊢
  clear hgrow2 hbl1 hI1 hF1 hs1 hG
  go_wp2_with fail
  go_loopw [4, 5, 6, 7] (fun qv fv hv iv wr => ∃ (k f : Nat) (qs : List Int) (xs : List (Addr × Int)) (v : Value), k ≤ len ∧ f ≤ qs.length ∧ qs.length ≤ k ∧ (∀ x ∈ qs, 1 ≤ x ∧ x ≤ 1073741824) ∧ xs.map Prod.snd = qs.drop f ∧
      iv = .int .i64 k ∧ fv = .int .i64 f ∧ hv = .int .i64 (sm (qs.drop f)) ∧ qv = .slice (some ⟨G, 0, none⟩) qs.length len ∧ wr.ownsRow base 3 1 (.slice (some ⟨G, 0, none⟩) qs.length len) qs.length (icells qs) ∧
      IB base B c1 c2 wr v xs (sm (qs.drop f)) .nilIface ∧ Below base w wr ∧ base ≤ wr.heap.size)
    (fun _ _ _ iv _ => len - (intOf iv).toNat)
  case atStart => exact ⟨0, 0, [], [], _, Nat.zero_le _, by simp, by simp, by simp, rfl, rfl, rfl, rfl, rfl, hown2, hI2, hbl2, hs2⟩
  case round =>
    obtain ⟨k, f, qs, xs, v, hk, hf, hq, hqs, hxs, rfl, rfl, rfl, rfl, hown, hI, hbl, hs⟩ := hrel
    clear hown2 hI2 hbl2 hs2
    by_cases hlt : k < len
    · obtain ⟨z, hz⟩ : ∃ z, z = zs.getD k 0 := ⟨_, rfl⟩
      have cz : wr.cell? ⟨b, off + k, none⟩ = some (.int .i64 z) := by rw [hz]; exact (hbl.cell (by exact hb)).trans (HC.out k hlt)
      clear hz
      have hxl : xs.length = qs.length - f := by have := congrArg List.length hxs; simpa using this
      have hdq : ∀ x ∈ qs.drop f, 1 ≤ x ∧ x ≤ 1073741824 := fun x hx => hqs x (List.mem_of_mem_drop hx)
      have hsb := sm_bd (qs.drop f) hdq
      obtain ⟨S, hS⟩ : ∃ S, S = sm (qs.drop f) := ⟨_, rfl⟩
      have HS : Hid (S = sm (qs.drop f)) := hS
      rw [← hS] at hI hsb ⊢
      have hS1 : 0 ≤ S := hsb.1
      have hS2 : S ≤ 4398046511104 := by have := hsb.2; simp at this; omega
      clear hS hsb
      by_cases hz : 1 ≤ z ∧ z ≤ 1073741824
      · obtain ⟨z1, z2⟩ := hz
        go_wp2_with fail
        refine (push_any base B c1 c2 wr v xs S z .nilIface hI (by omega) hS1 (by omega) z1 z2).mono ?_
        rintro e w3 ⟨rfl, ⟨v', a, hI3⟩, hF3⟩
        have hown3 := own3_frm hown hF3
        have hbl3 := Frm.below hbl hF3
        have hs3 : base ≤ w3.heap.size := Nat.le_trans hs hF3.size
        clear hI hF3 hown hbl hs cz
        go_wp2_with (at_builtin; refine wpList_append_fits _ rfl (.tmp 40) (.tmp 42) 22 rfl base 3 i0 1 Try.underlying22 hi hz1 G qs.length len _ rfl (hown3.alloc _) ⟨w3.heap.size, 0, none⟩ 1 1 [.int .i64 z] rfl rfl (cell_one_new _ _ _) (by intro u hu; simp at hu; subst hu; rfl) (by omega) ?_; intro w4 hown4 hgrow4)
        obtain ⟨_, cs3, hcs3⟩ := own3_block hown3
        have hI4 := (hI3.alloc (.cells #[.int .i64 z] 3)).ints ((Below.heap_alloc _ _ _ (lt_of_block hcs3)).trans hcs3) hgrow4
        have hbl4 := below_own3 (hbl3.alloc hs3 (.cells #[.int .i64 z] 3)) (by simp; omega) (hown3.alloc _) hgrow4
        have hs4 : base ≤ w4.heap.size := by have := hgrow4.size; simp at this; omega
        clear hI3 hgrow4 hown3 hbl3 hs3 hcs3
        refine (held_any base B c1 c2 w4 v' _ _ _ hI4).mono ?_
        rintro e w' ⟨rfl, rfl⟩
        go_wp2_with fail
        refine (len_any base B c1 c2 w4 v' _ _ _ hI4).mono ?_
        rintro e w' ⟨rfl, rfl⟩
        have hl4 : ((xs ++ [(a, z)]).length : Int) = (qs.length : Int) + 1 - f := by simp; omega
        rw [hl4]
        go_wp2_with fail
        have hd : (qs ++ [z]).drop f = qs.drop f ++ [z] := List.drop_append_of_le_length hf
        have hI5 : IB base B c1 c2 w4 v' (xs ++ [(a, z)]) (sm ((qs ++ [z]).drop f)) .nilIface := by rw [hd, sm_snoc, ← HS.out]; exact hI4
        have hown5 : w4.ownsRow base 3 1 (.slice (some ⟨G, 0, none⟩) (qs ++ [z]).length len) (qs ++ [z]).length (icells (qs ++ [z])) := by rw [icells_snoc, List.length_append]; exact hown4
        go_roundw
        case rel => exact ⟨k + 1, f, qs ++ [z], xs ++ [(a, z)], v', by omega, by simp; omega, by simp; omega, fun x hx => (List.mem_append.1 hx).elim (hqs x) (fun h => by rw [List.mem_singleton.1 h]; exact ⟨z1, z2⟩), by rw [hd, List.map_append, hxs]; rfl, by go_num, rfl, by rw [hd, sm_snoc, ← HS.out], by simp, hown5, hI5, hbl4, hs4⟩
        case measure => simp [intOf]; omega
      · have hzz : z < 1 ∨ (1 ≤ z ∧ 1073741824 < z) := by omega
        clear hz
        by_cases hfq : f < qs.length
        · obtain ⟨a, ys, rfl, hys⟩ := head_of hxs hfq
          obtain ⟨q, hq0⟩ : ∃ q, q = qs[f] := ⟨_, rfl⟩
          rw [← hq0] at hI
          have hqm := hqs qs[f] (List.getElem_mem hfq)
          rw [← hq0] at hqm
          obtain ⟨q1, q2⟩ := hqm
          have hSq : Hid (S - q = sm (qs.drop (f + 1))) := by unfold Hid; rw [HS.out, drop_cons qs f hfq, sm_cons, ← hq0]; omega
          have cq : ∀ W : World, W.ownsRow base 3 1 (.slice (some ⟨G, 0, none⟩) qs.length len) qs.length (icells qs) → W.cell? ⟨G, f, none⟩ = some (.int .i64 q) := fun W hW => by
            rw [hW.cellAt f (by omega)]
            simp [icells, List.getElem?_eq_getElem hfq, hq0]
          have f0 : (0 : Int) ≤ (f : Int) := by omega
          have f1 : (f : Int) < (qs.length : Int) := by omega
          have hyl : ys.length ≤ 4096 := by have := congrArg List.length hys; simp at this; omega
          clear hq0 hxs hxl
          rcases hzz with hzz | ⟨hz3, hz4⟩
          · have dz : decide (1 ≤ z) = false := decide_eq_false (by omega)
            go_wp2_with fail
            refine (zzNext_some base B c1 c2 wr v ys S q a .nilIface hI (by omega) hS1 (by omega) (by omega) (by omega)).mono ?_
            rintro e w3 ⟨rfl, ⟨v', hI3⟩, hF3⟩
            have hown3 := own3_frm hown hF3
            have hbl3 := Frm.below hbl hF3
            have hs3 : base ≤ w3.heap.size := Nat.le_trans hs hF3.size
            have cq3 := cq w3 hown3
            clear hI hF3 hown hbl hs cz cq
            go_wp2_with fail
            refine (held_any base B c1 c2 w3 v' _ _ _ hI3).mono ?_
            rintro e w' ⟨rfl, rfl⟩
            go_wp2_with fail
            refine (len_any base B c1 c2 w3 v' _ _ _ hI3).mono ?_
            rintro e w' ⟨rfl, rfl⟩
            have hl4 : (ys.length : Int) = (qs.length : Int) - ((f : Int) + 1) := by have := congrArg List.length hys; simp at this; omega
            rw [hl4]
            go_wp2_with fail
            rw [hSq.out] at hI3
            go_roundw
            case rel => exact ⟨k + 1, f + 1, qs, ys, v', by omega, by omega, by omega, hqs, hys, by go_num, by go_num, by rw [hSq.out], rfl, hown3, hI3, hbl3, hs3⟩
            case measure => simp [intOf]; omega
          · have dz : decide (z ≤ 1073741824) = false := decide_eq_false (by omega)
            go_wp2_with fail
            refine (zzNext_some base B c1 c2 wr v ys S q a .nilIface hI (by omega) hS1 (by omega) (by omega) (by omega)).mono ?_
            rintro e w3 ⟨rfl, ⟨v', hI3⟩, hF3⟩
            have hown3 := own3_frm hown hF3
            have hbl3 := Frm.below hbl hF3
            have hs3 : base ≤ w3.heap.size := Nat.le_trans hs hF3.size
            have cq3 := cq w3 hown3
            clear hI hF3 hown hbl hs cz cq
            go_wp2_with fail
            refine (held_any base B c1 c2 w3 v' _ _ _ hI3).mono ?_
            rintro e w' ⟨rfl, rfl⟩
            go_wp2_with fail
            refine (len_any base B c1 c2 w3 v' _ _ _ hI3).mono ?_
            rintro e w' ⟨rfl, rfl⟩
            have hl4 : (ys.length : Int) = (qs.length : Int) - ((f : Int) + 1) := by have := congrArg List.length hys; simp at this; omega
            rw [hl4]
            go_wp2_with fail
            rw [hSq.out] at hI3
            go_roundw
            case rel => exact ⟨k + 1, f + 1, qs, ys, v', by omega, by omega, by omega, hqs, hys, by go_num, by go_num, by rw [hSq.out], rfl, hown3, hI3, hbl3, hs3⟩
            case measure => simp [intOf]; omega
        · rcases hzz with hzz | ⟨hz3, hz4⟩
          · have dz : decide (1 ≤ z) = false := decide_eq_false (by omega)
            go_wp2_with fail
            refine (held_any base B c1 c2 wr v _ _ _ hI).mono ?_
            rintro e w' ⟨rfl, rfl⟩
            go_wp2_with fail
            refine (len_any base B c1 c2 wr v _ _ _ hI).mono ?_
            rintro e w' ⟨rfl, rfl⟩
            have hl4 : (xs.length : Int) = (qs.length : Int) - (f : Int) := by omega
            rw [hl4]
            go_wp2_with fail
            rw [HS.out] at hI
            go_roundw
            case rel => exact ⟨k + 1, f, qs, xs, v, by omega, hf, by omega, hqs, hxs, by go_num, rfl, by rw [HS.out], rfl, hown, hI, hbl, hs⟩
            case measure => simp [intOf]; omega
          · have dz : decide (z ≤ 1073741824) = false := decide_eq_false (by omega)
            go_wp2_with fail
            refine (held_any base B c1 c2 wr v _ _ _ hI).mono ?_
            rintro e w' ⟨rfl, rfl⟩
            go_wp2_with fail
            refine (len_any base B c1 c2 wr v _ _ _ hI).mono ?_
            rintro e w' ⟨rfl, rfl⟩
            have hl4 : (xs.length : Int) = (qs.length : Int) - (f : Int) := by omega
            rw [hl4]
            go_wp2_with fail
            rw [HS.out] at hI
            go_roundw
            case rel => exact ⟨k + 1, f, qs, xs, v, by omega, hf, by omega, hqs, hxs, by go_num, rfl, by rw [HS.out], rfl, hown, hI, hbl, hs⟩
            case measure => simp [intOf]; omega
    · go_wp2_with fail
      go_ret
      exact ⟨rfl, hbl⟩

set_option maxHeartbeats 1000000 in
theorem keeps_zero (a : Option Addr) (cap : Nat) (w : World) :
    Calls Try.prog 4 #[.slice a 0 cap] w fun e w' => e = .returned (.bool true) ∧ Below w.heap.size w w' := by
  obtain ⟨i0, hi, hz0, hz1, hz2⟩ := info_parts Try.info3
  go_enter Try.func4, Try.ntmps4
  go_wp2_with (go_at_call 12; refine (bytesK_yes _ _ _ _ (by omega)).mono ?_; rintro e w' ⟨rfl, rfl⟩)
  refine (newInbox_any w).mono ?_
  rintro e w1 ⟨B, c1, c2, rfl, hI1, hF1⟩
  have hs1 : w.heap.size ≤ w1.heap.size := hF1.size
  have hbl1 : Below w.heap.size w w1 := Frm.below (Below.refl _ _) hF1
  go_wp2_with (at_make; refine wpList_make_own _ rfl _ _ 22 rfl w.heap.size 3 i0 (.int .i64 0) 1 Try.underlying22 hi hz0 hz1 _ _ _ 0 rfl rfl (by omega) ?b2 ?b3 hs1 ?_)
  case b2 => rw [hz2]; omega
  case b3 => unfold maxLen; omega
  intro w2 hown2 hgrow2
  have hbl2 : Below w.heap.size w w2 := hbl1.grown hgrow2 hs1 (fun k h => by cases h)
  clear hown2 hgrow2 hbl1 hs1 hI1 hF1
  go_wp2_with fail
  refine wp_loop_rounds 1 ?_
  rw [rounds_succ]
  go_wp2_with fail
  go_ret
  exact ⟨rfl, hbl2⟩

set_option maxHeartbeats 1000000 in
theorem keeps_long (a : Option Addr) (len cap : Nat) (w : World) (h : 4096 < len) :
    Calls Try.prog 4 #[.slice a len cap] w fun e w' => e = .returned (.bool true) ∧ Below w.heap.size w w' := by
  by_cases h2 : len ≤ 1048576
  · go_enter Try.func4, Try.ntmps4
    go_wp2_with (go_at_call 12; refine (bytesK_yes _ _ _ _ h2).mono ?_; rintro e w' ⟨rfl, rfl⟩)
    go_ret
    exact ⟨rfl, Below.refl _ _⟩
  · have h3 : 1048576 < len := by omega
    go_enter Try.func4, Try.ntmps4
    go_wp2_with (go_at_call 12; refine (bytesK_no _ _ _ _ h3).mono ?_; rintro e w' ⟨rfl, rfl⟩)
    go_ret
    exact ⟨rfl, Below.refl _ _⟩

theorem keeps_any (a : Option Addr) (len cap : Nat) (zs : List Int) (w : World)
    (hrow : (a = none ∧ len = 0 ∧ cap = 0 ∧ zs = []) ∨ ∃ x, a = some x ∧ len ≤ cap ∧ zs.length = cap ∧ ∀ i, i < zs.length → w.cell? (x.add i) = some (.int .i64 (zs.getD i 0))) :
    Calls Try.prog 4 #[.slice a len cap] w fun e w' => e = .returned (.bool true) ∧ Below w.heap.size w w' := by
  by_cases hl : len ≤ 4096
  · by_cases h0 : len = 0
    · subst h0
      exact keeps_zero a cap w
    · rcases hrow with ⟨_, h, _, _⟩ | ⟨x, rfl, h1, h2, h3⟩
      · exact absurd h h0
      · obtain ⟨b, off, rfl, hc⟩ := ints_at h3 (by omega)
        have hb : b < w.heap.size := World.block_lt_of_cell? w _ (hc 0 (by omega))
        exact keeps_core b off len cap zs w hl hb (fun j hj => hc j (by omega))
  · exact keeps_long a len cap w (by omega)
end Go.Proofs.Qxb6616989a
