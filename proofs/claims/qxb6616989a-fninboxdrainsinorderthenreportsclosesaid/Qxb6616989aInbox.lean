/-
  Seat b6616989a: the inbox in memory; errors.New, ZZnewInbox, ZZinboxPush, ZZinboxClose, ZZinboxHeld, ZZinboxLen.
-/
import Derived.Test.Qxb6616989aItems
import Derived.Test.Qxb6616989aWake
import Derived.Test.Qxb6616989aLocks
import Derived.WalkLawsBesides
import Derived.Deep.RegionLaw
import Derived.Deep.DrawnRows
import Derived.Conc.MuLone
namespace Go.Proofs.Qxb6616989a
open Go.RowKit
attribute [local go_sem ↓] Go.wp_at_zero Go.wp_at_succ

theorem info51 : (Try.prog.info? 51).map (fun i => (i.zero, i.size, i.bytes)) = some (some (.agg #[.nilIface, .nilIface, .int .i64 0]), 3, 40) := by kernel_rfl

/-- Nothing below 'base' and no row of ints has turned. -/
structure Frm (base : Nat) (w w' : World) : Prop where
  os : w'.os = w.os
  tape : w'.tape = w.tape
  output : w'.output = w.output
  size : w.heap.size ≤ w'.heap.size
  low : ∀ k, k < base → w'.heap[k]? = w.heap[k]?
  ints : ∀ (k : Nat) (cs : Array Value) (fr : Nat × Nat), w.heap[k]? = some (.cells cs 3 fr) → w'.heap[k]? = w.heap[k]?

theorem Frm.refl (base : Nat) (w : World) : Frm base w w := ⟨rfl, rfl, rfl, Nat.le_refl _, fun _ _ => rfl, fun _ _ _ _ => rfl⟩
theorem Frm.trans {base : Nat} {a b c : World} (h : Frm base a b) (k : Frm base b c) : Frm base a c :=
  ⟨k.os.trans h.os, k.tape.trans h.tape, k.output.trans h.output, Nat.le_trans h.size k.size, fun i hi => (k.low i hi).trans (h.low i hi), fun i cs fr hc => (k.ints i cs fr ((h.ints i cs fr hc).trans hc)).trans (h.ints i cs fr hc)⟩
theorem Frm.of_grown {base : Nat} {w w' : World} {row : Option Nat} (hg : w.grownBy w' row) (hb : base ≤ w.heap.size) (hr : ∀ k, row = some k → base ≤ k ∧ ∀ (cs : Array Value) (fr : Nat × Nat), w.heap[k]? ≠ some (.cells cs 3 fr)) : Frm base w w' :=
  ⟨hg.os, hg.tape, hg.output, hg.size, fun k hk => hg.block k (by omega) (fun e => by have := (hr k e.symm).1; omega), fun k cs fr hc => hg.block k (Array.getElem?_eq_some_iff.1 hc).1 (fun e => (hr k e.symm).2 cs fr hc)⟩
theorem Frm.of_none {base : Nat} {w w' : World} (hg : w.grownBy w' none) (hb : base ≤ w.heap.size) : Frm base w w' := Frm.of_grown hg hb (fun k h => by cases h)
theorem Frm.below {base : Nat} {w0 w w' : World} (hb : Below base w0 w) (h : Frm base w w') : Below base w0 w' := hb.trans ⟨h.os, h.tape, h.output, h.size, h.low⟩

/-- The inbox at block B: its queue is xs, the value v its slice; c1, c2: its two channels. -/
structure IB (base B c1 c2 : Nat) (w : World) (v : Value) (xs : List (Addr × Int)) (held : Int) (cl : Value) : Prop where
  blk : w.heap[B]? = some (.cells #[.int .i32 0, .int .u32 0, v, .int .i64 held, cl, .int .i64 0, .chan (some c1), .chan (some c2)] 44 (0, 0))
  items : Items base w v xs
  room : Chan1 w c2
  hB : base ≤ B
  hc : base ≤ c2

theorem errNew_any (s : ByteArray) (w : World) :
    Calls Try.prog 13 #[.string s] w fun e w' => e = .returned (.iface 57 (.pointer (some ⟨w.heap.size, 0, none⟩))) ∧ w' = w.alloc (.cells #[.string s] 59) := by
  go_enter Try.func13, Try.ntmps13
  go_wp2
  go_ret
  exact ⟨rfl, rfl⟩

/-- AT A STEP OF A REGION THAT DRAWS: an item is appended. -/
theorem step_append_items {ops : Array Oper} {o : Oper} {a : Act} {w : World} {K : Act → World → Prop} {Q : Exit → Act → World → Prop} {E : Prop} (hgd : o.guard = none) (s x : Operand)
    (ho : o.op = .call { callee := .builtin .append, args := #[s, x], argTypes := #[42, 42] }) (base : Nat) (v : Value) (xs : List (Addr × Int)) (y : Addr × Int) (hs : a.eval s = v) (h : Items base w v xs) (hb : base ≤ w.heap.size)
    (ad : Addr) (c : Nat) (hx : a.eval x = .slice (some ad) 1 c) (hnews : ∀ j u, (ecell y)[j]? = some u → w.cell? (ad.add j) = some u) (hlen : xs.length ≤ 1000000)
    (hK : ∀ ao cap w', Items base w' (.slice ao (xs.length + 1) cap) (xs ++ [y]) → w.grownBy w' v.ownBlock → K (a.put o.dst (.slice ao (xs.length + 1) cap)) w') :
    if Region.wanted o (yielded ops a.tmps) = true then Oper.wp Try.prog o a w K Q else E := by
  have hw : Region.wanted o (yielded ops a.tmps) = true := by simp [Region.wanted, hgd]
  rw [if_pos hw]
  obtain ⟨i, hi, hz0, hz1, hz2⟩ := info_parts info51
  obtain ⟨v', w', hrun, r1, r2⟩ := run_append_items (P := Try.prog) Try.underlying42 hi hz0 hz1 hz2 rfl base w v xs y h hb o.type ad c hnews hlen
  obtain ⟨ao, cap, rfl⟩ := r1.form
  have e : (xs ++ [y]).length = xs.length + 1 := by simp
  rw [e] at hrun r1
  unfold Oper.wp execOp
  simp only [ho, resolve, invoke, builtin, Sem.run_bind, Sem.run_pure, Result.andThen_ok, List.map_toArray, List.map_cons, List.map_nil, hs, hx, hrun]
  exact hK ao cap w' r1 r2

theorem heap3 (w : World) (a b c : Obj) (k : Nat) : (((w.alloc a).alloc b).alloc c).drew.heap[k]? = if k = w.heap.size + 1 + 1 then some c else if k = w.heap.size + 1 then some b else if k = w.heap.size then some a else w.heap[k]? := by
  show (((w.heap.push a).push b).push c)[k]? = _
  simp only [Array.getElem?_push, Array.size_push]

theorem ib_new (w : World) (c1 c2 : Nat) (hc : (c1 = w.heap.size ∧ c2 = w.heap.size + 1) ∨ (c1 = w.heap.size + 1 ∧ c2 = w.heap.size)) (W : World)
    (hW : W = (((w.alloc (.chan 1 #[] false 0 0 false)).alloc (.chan 1 #[] false 0 0 false)).alloc (.cells #[.int .i32 0, .int .u32 0, .slice none 0 0, .int .i64 0, .nilIface, .int .i64 0, .chan (some c1), .chan (some c2)] 44)).drew) :
    IB w.heap.size (w.heap.size + 1 + 1) c1 c2 W (.slice none 0 0) [] 0 .nilIface ∧ Frm w.heap.size w W := by
  subst hW
  refine ⟨⟨?_, items_nil _ _, ⟨#[], 0, 0, false, ?_⟩, by omega, by omega⟩, ⟨rfl, rfl, rfl, ?_, fun k hk => ?_, fun k cs fr hk => ?_⟩⟩
  · rw [heap3, if_pos rfl]
  · rw [heap3]
    rcases hc with ⟨_, rfl⟩ | ⟨_, rfl⟩
    · rw [if_neg (by omega), if_pos rfl]
    · rw [if_neg (by omega), if_neg (by omega), if_pos rfl]
  · show w.heap.size ≤ (((w.heap.push _).push _).push _).size
    simp
    omega
  · rw [heap3, if_neg (by omega), if_neg (by omega), if_neg (by omega)]
  · have := (Array.getElem?_eq_some_iff.1 hk).1
    rw [heap3, if_neg (by omega), if_neg (by omega), if_neg (by omega)]

set_option maxHeartbeats 1000000 in
theorem newInbox_any (w : World) :
    Calls Try.prog 6 #[] w fun e w' => ∃ B c1 c2, e = .returned (.pointer (some ⟨B, 0, none⟩)) ∧ IB w.heap.size B c1 c2 w' (.slice none 0 0) [] 0 .nilIface ∧ Frm w.heap.size w w' := by
  obtain ⟨i35, hi35, hb35⟩ : ∃ i, Try.prog.info? 35 = some i ∧ i.bytes = 0 := by
    have h : (Try.prog.info? 35).map (·.bytes) = some 0 := by kernel_rfl
    obtain ⟨i, hi, hb⟩ := Option.map_eq_some_iff.1 h
    exact ⟨i, hi, hb⟩
  have mk : ∀ w : World, (Instr.makeChan 34 (.int .i64 1)).run Try.prog w = .ok (.chan (some w.heap.size)) (w.alloc (.chan 1 #[] false 0 0 false)) := fun w => by
    simpa using Go.Conc.run_makeChan (P := Try.prog) (w := w) Try.underlying34 hi35 .i64 1 (by omega) (by rw [hb35]; omega)
  go_enter Try.func6, Try.ntmps6
  go_wp2_with fail
  go_region
  all_goals go_wp2_with fail
  · go_ret
    obtain ⟨h1, h2⟩ := ib_new w w.heap.size (w.heap.size + 1) (.inl ⟨rfl, rfl⟩) _ rfl
    exact ⟨_, _, _, rfl, h1, h2⟩
  · go_ret
    obtain ⟨h1, h2⟩ := ib_new w (w.heap.size + 1) w.heap.size (.inr ⟨rfl, rfl⟩) _ rfl
    exact ⟨_, _, _, rfl, h1, h2⟩

theorem IB.cell {base B c1 c2 : Nat} {w : World} {v : Value} {xs : List (Addr × Int)} {held : Int} {cl : Value} (h : IB base B c1 c2 w v xs held cl) :
    w.cell? ⟨B, 0, none⟩ = some (.int .i32 0) ∧ w.cell? ⟨B, 2, none⟩ = some v ∧ w.cell? ⟨B, 3, none⟩ = some (.int .i64 held) ∧ w.cell? ⟨B, 4, none⟩ = some cl ∧ w.cell? ⟨B, 7, none⟩ = some (.chan (some c2)) ∧ ∀ j, w.frozen? ⟨B, j, none⟩ = false := by
  refine ⟨?_, ?_, ?_, ?_, ?_, fun j => frozen_of_row w B j _ _ h.blk⟩
  all_goals rw [cell_of_row w B _ _ _ _ h.blk]; rfl
theorem IB.lt {base B c1 c2 : Nat} {w : World} {v : Value} {xs : List (Addr × Int)} {held : Int} {cl : Value} (h : IB base B c1 c2 w v xs held cl) : B < w.heap.size := lt_of_block h.blk
theorem IB.ne {base B c1 c2 : Nat} {w : World} {v : Value} {xs : List (Addr × Int)} {held : Int} {cl : Value} (h : IB base B c1 c2 w v xs held cl) : v.ownBlock ≠ some B := fun e => by
  obtain ⟨_, cs, hcs⟩ := h.items.own51 B e
  rw [h.blk] at hcs
  simp at hcs
theorem IB.cne {base B c1 c2 : Nat} {w : World} {v : Value} {xs : List (Addr × Int)} {held : Int} {cl : Value} (h : IB base B c1 c2 w v xs held cl) : v.ownBlock ≠ some c2 ∧ c2 ≠ B := by
  obtain ⟨buf, s, r, tm, hc⟩ := h.room
  refine ⟨fun e => ?_, fun e => ?_⟩
  · obtain ⟨_, cs, hcs⟩ := h.items.own51 c2 e
    rw [hc] at hcs
    cases hcs
  · subst e
    have hb := h.blk
    rw [hc] at hb
    cases hb

set_option maxHeartbeats 400000 in
theorem held_any (base B c1 c2 : Nat) (w : World) (v : Value) (xs : List (Addr × Int)) (held : Int) (cl : Value) (h : IB base B c1 c2 w v xs held cl) :
    Calls Try.prog 10 #[.pointer (some ⟨B, 0, none⟩)] w fun e w' => e = .returned (.int .i64 held) ∧ w = w' := by
  obtain ⟨_, _, h3, _, _, _⟩ := h.cell
  go_enter Try.func10, Try.ntmps10
  go_wp2
  go_ret
  exact ⟨rfl, rfl⟩
set_option maxHeartbeats 400000 in
theorem len_any (base B c1 c2 : Nat) (w : World) (v : Value) (xs : List (Addr × Int)) (held : Int) (cl : Value) (h : IB base B c1 c2 w v xs held cl) :
    Calls Try.prog 11 #[.pointer (some ⟨B, 0, none⟩)] w fun e w' => e = .returned (.int .i64 (xs.length : Int)) ∧ w = w' := by
  obtain ⟨_, h2, _, _, _, _⟩ := h.cell
  obtain ⟨ao, cap, rfl⟩ := h.items.form
  clear h
  go_enter Try.func11, Try.ntmps11
  go_wp2
  go_ret
  exact ⟨rfl, rfl⟩

theorem Items.alloc {base : Nat} {w : World} {v : Value} {xs : List (Addr × Int)} (h : Items base w v xs) (o : Obj) : Items base (w.alloc o) v xs :=
  h.kept fun _ _ hc => Below.heap_alloc _ _ _ (Array.getElem?_eq_some_iff.1 hc).1
theorem Chan1.kept {w w' : World} {c : Nat} (h : Chan1 w c) (hk : w'.heap[c]? = w.heap[c]?) : Chan1 w' c := by
  obtain ⟨buf, s, r, tm, hc⟩ := h
  exact ⟨buf, s, r, tm, hk.trans hc⟩
theorem Chan1.lt {w : World} {c : Nat} (h : Chan1 w c) : c < w.heap.size := by
  obtain ⟨buf, s, r, tm, hc⟩ := h
  exact (Array.getElem?_eq_some_iff.1 hc).1
theorem IB.alloc {base B c1 c2 : Nat} {w : World} {v : Value} {xs : List (Addr × Int)} {held : Int} {cl : Value} (h : IB base B c1 c2 w v xs held cl) (o : Obj) : IB base B c1 c2 (w.alloc o) v xs held cl :=
  ⟨(Below.heap_alloc _ _ _ h.lt).trans h.blk, h.items.alloc o, h.room.kept (Below.heap_alloc _ _ _ h.room.lt), h.hB, h.hc⟩
theorem frm_alloc (base : Nat) (w : World) (o : Obj) (hb : base ≤ w.heap.size) : Frm base w (w.alloc o) := Frm.of_none (World.grownBy_alloc w o none) hb
/-- A store into the inbox's own block. -/
theorem frm_set {base B : Nat} {w : World} {cs : Array Value} {fr : Nat × Nat} (hb : w.heap[B]? = some (.cells cs 44 fr)) (hB : base ≤ B) (j : Nat) (u : Value) : Frm base w (w.setCell ⟨B, j, none⟩ u) :=
  ⟨rfl, rfl, rfl, by simp [World.setCell], fun k hk => Below.heap_setCell _ _ _ _ (by show k ≠ B; omega), fun k cs' fr' hc => Below.heap_setCell _ _ _ _ (fun e => by
    have e' : k = B := e
    subst e'
    rw [hb] at hc
    simp at hc)⟩
theorem IB.set {base B c1 c2 : Nat} {w : World} {v v' : Value} {xs : List (Addr × Int)} {held held' : Int} {cl cl' : Value} (h : IB base B c1 c2 w v xs held cl) (j : Nat) (u : Value) (hv : v' = v)
    (ha : (#[.int .i32 0, .int .u32 0, v, .int .i64 held, cl, .int .i64 0, .chan (some c1), .chan (some c2)] : Array Value).setIfInBounds j u = #[.int .i32 0, .int .u32 0, v', .int .i64 held', cl', .int .i64 0, .chan (some c1), .chan (some c2)]) :
    IB base B c1 c2 (w.setCell ⟨B, j, none⟩ u) v' xs held' cl' := by
  subst hv
  refine ⟨(heap_setCell_same w B j _ 44 u h.blk).trans (by rw [ha]), h.items.kept fun k cs hc => heap_setCell_other _ _ _ _ (fun e => ?_), h.room.kept (heap_setCell_other _ _ _ _ h.cne.2), h.hB, h.hc⟩
  have e' : k = B := e
  subst e'
  rw [h.blk] at hc
  simp at hc

set_option maxHeartbeats 400000 in
theorem close_any (base B c1 c2 : Nat) (w : World) (v : Value) (xs : List (Addr × Int)) (held : Int) (cl : Value) (h : IB base B c1 c2 w v xs held cl) (hb : base ≤ w.heap.size) :
    Calls Try.prog 8 #[.pointer (some ⟨B, 0, none⟩)] w fun e w' => e = .returned (.tuple #[]) ∧ (∃ a, IB base B c1 c2 w' v xs held (.iface 57 (.pointer (some a)))) ∧ Frm base w w' := by
  have h1 := fun s : ByteArray => h.alloc (.cells #[.string s] 59)
  have f4 := fun s : ByteArray => (h1 s).cell.2.2.2.2.2 4
  have c4 := fun s : ByteArray => (h1 s).cell.2.2.2.1
  go_enter Try.func8, Try.ntmps8
  go_wp2_with (go_at_call 13; refine (errNew_any _ _).mono ?_; rintro e w' ⟨rfl, rfl⟩)
  go_end0
  exact ⟨rfl, ⟨_, (h1 _).set 4 _ rfl rfl⟩, (frm_alloc base w _ hb).trans (frm_set (h1 _).blk h.hB 4 _)⟩
end Go.Proofs.Qxb6616989a
