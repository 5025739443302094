/-
  Seat b6616989a: (*inbox).next where an item lies in the queue.
-/
import Derived.Test.Qxb6616989aPush
namespace Go.Proofs.Qxb6616989a
open Go.RowKit Go.MuLone
attribute [local go_sem ↓] Go.wp_at_zero Go.wp_at_succ

theorem frm_setT {base k t : Nat} {w : World} {cs : Array Value} {fr : Nat × Nat} (hb : w.heap[k]? = some (.cells cs t fr)) (ht : t ≠ 3) (hk : base ≤ k) (j : Nat) (u : Value) : Frm base w (w.setCell ⟨k, j, none⟩ u) :=
  ⟨rfl, rfl, rfl, by simp [World.setCell], fun i hi => Below.heap_setCell _ _ _ _ (by show i ≠ k; omega), fun i cs' fr' hc => Below.heap_setCell _ _ _ _ (fun e => by
    have e' : i = k := e
    subst e'
    rw [hb] at hc
    simp at hc
    exact ht hc.2.1)⟩

/-- The stores that taking the head makes while the lock is held. -/
def popX (w : World) (B g off : Nat) (v' : Value) (h' : Int) : World :=
  (((((w.setCell ⟨B, 0, none⟩ (.int .i32 1)).setCell ⟨g, off, none⟩ .nilIface).setCell ⟨g, off + 1, none⟩ .nilIface).setCell ⟨g, off + 2, none⟩ (.int .i64 0)).setCell ⟨B, 2, none⟩ v').setCell ⟨B, 3, none⟩ (.int .i64 h')

theorem popX_size (w : World) (B g off : Nat) (v' : Value) (h' : Int) : (popX w B g off v' h').heap.size = w.heap.size := by simp [popX, World.setCell]
theorem popX_other (w : World) (B g off : Nat) (v' : Value) (h' : Int) (k : Nat) (h1 : k ≠ B) (h2 : k ≠ g) : (popX w B g off v' h').heap[k]? = w.heap[k]? := by
  unfold popX
  rw [heap_setCell_other _ _ _ _ h1, heap_setCell_other _ _ _ _ h1, heap_setCell_other _ _ _ _ h2, heap_setCell_other _ _ _ _ h2, heap_setCell_other _ _ _ _ h2, heap_setCell_other _ _ _ _ h1]
theorem popX_B (w : World) (B g off : Nat) (v v' : Value) (h h' : Int) (cl : Value) (c1 c2 : Nat) (hne : B ≠ g)
    (hb : w.heap[B]? = some (.cells #[.int .i32 0, .int .u32 0, v, .int .i64 h, cl, .int .i64 0, .chan (some c1), .chan (some c2)] 44 (0, 0))) :
    (popX w B g off v' h').heap[B]? = some (.cells #[.int .i32 1, .int .u32 0, v', .int .i64 h', cl, .int .i64 0, .chan (some c1), .chan (some c2)] 44 (0, 0)) := by
  unfold popX
  have s1 := heap_setCell_same w B 0 _ 44 (.int .i32 1) hb
  have s2 := (heap_setCell_other (w.setCell ⟨B, 0, none⟩ (.int .i32 1)) ⟨g, off, none⟩ B .nilIface hne).trans s1
  have s3 := (heap_setCell_other _ ⟨g, off + 1, none⟩ B .nilIface hne).trans s2
  have s4 := (heap_setCell_other _ ⟨g, off + 2, none⟩ B (.int .i64 0) hne).trans s3
  have s5 := heap_setCell_same _ B 2 _ 44 v' s4
  exact heap_setCell_same _ B 3 _ 44 (.int .i64 h') s5
theorem popX_g (w : World) (B g off : Nat) (v' : Value) (h' : Int) (cur : Array Value) (hne : g ≠ B) (hg : w.heap[g]? = some (.cells cur 51 (0, 0))) :
    (popX w B g off v' h').heap[g]? = some (.cells (((cur.setIfInBounds off .nilIface).setIfInBounds (off + 1) .nilIface).setIfInBounds (off + 1 + 1) (.int .i64 0)) 51 (0, 0)) := by
  unfold popX
  rw [heap_setCell_other _ _ _ _ hne, heap_setCell_other _ _ _ _ hne]
  have s1 := (heap_setCell_other w ⟨B, 0, none⟩ g (.int .i32 1) hne).trans hg
  have s2 := heap_setCell_same _ g off _ 51 .nilIface s1
  have s3 := heap_setCell_same _ g (off + 1) _ 51 .nilIface s2
  exact heap_setCell_same _ g (off + 1 + 1) _ 51 (.int .i64 0) s3

theorem pop_cells {cur : Array Value} {off cap off' : Nat} {a : Addr} {q : Int} {ys : List (Addr × Int)} (hle : ys.length + 1 ≤ cap) (hfit : off + 3 * cap ≤ cur.size) (hcells : ∀ j u, (ecells ((a, q) :: ys))[j]? = some u → cur[off + j]? = some u)
    (ho : (cap = 1 ∧ off' = off) ∨ off' = off + 3) :
    off' + 3 * (cap - 1) ≤ (((cur.setIfInBounds off .nilIface).setIfInBounds (off + 1) .nilIface).setIfInBounds (off + 1 + 1) (.int .i64 0)).size ∧
    ∀ j u, (ecells ys)[j]? = some u → (((cur.setIfInBounds off .nilIface).setIfInBounds (off + 1) .nilIface).setIfInBounds (off + 1 + 1) (.int .i64 0))[off' + j]? = some u := by
  refine ⟨by simp only [Array.size_setIfInBounds]; omega, fun j u hu => ?_⟩
  rw [get_set3 cur off _ _ _ _ (by omega)]
  have hj : j < ys.length * 3 := by
    have := (List.getElem?_eq_some_iff.1 hu).1
    rwa [ecells_length] at this
  have e3 : off' = off + 3 := by rcases ho with ⟨h1, _⟩ | h2 <;> omega
  have := hcells (3 + j) u (by rw [ecells_cons, List.getElem?_append_right (by rw [ecell_length]; omega), ecell_length, show 3 + j - 3 = j by omega]; exact hu)
  rw [if_neg (by omega), if_neg (by omega), if_neg (by omega), e3, show off + 3 + j = off + (3 + j) by omega]
  exact this

theorem setCell_os (w : World) (a : Addr) (v : Value) : (w.setCell a v).os = w.os := rfl
theorem setCell_tape (w : World) (a : Addr) (v : Value) : (w.setCell a v).tape = w.tape := rfl
theorem setCell_output (w : World) (a : Addr) (v : Value) : (w.setCell a v).output = w.output := rfl
theorem pop_frm (base : Nat) (w : World) (B g off : Nat) (v' : Value) (h' : Int) (cs cur : Array Value) (hB : base ≤ B) (hg : base ≤ g) (bB : w.heap[B]? = some (.cells cs 44 (0, 0))) (bg : w.heap[g]? = some (.cells cur 51 (0, 0))) : Frm base w (popX w B g off v' h') := by
  refine ⟨by unfold popX; simp only [setCell_os], by unfold popX; simp only [setCell_tape], by unfold popX; simp only [setCell_output], Nat.le_of_eq (popX_size w B g off v' h').symm, fun k hk => popX_other w B g off v' h' k (by omega) (by omega), fun k cs' fr hc => popX_other w B g off v' h' k (fun e => ?_) (fun e => ?_)⟩
  · subst e; rw [bB] at hc; simp at hc
  · subst e; rw [bg] at hc; simp at hc

/-- The head is taken; the lock is given back. -/
theorem pop_IB {base B c1 c2 : Nat} {w : World} {g off cap : Nat} {cur : Array Value} {a : Addr} {q : Int} {ys : List (Addr × Int)} {held : Int} {cl : Value} (h : IB base B c1 c2 w (.slice (some ⟨g, off, none⟩) (ys.length + 1) cap) ((a, q) :: ys) held cl)
    (hgB : g ≠ B) (hbase : base ≤ g) (hg : w.heap[g]? = some (.cells cur 51 (0, 0))) (hle : ys.length + 1 ≤ cap) (hfit : off + 3 * cap ≤ cur.size) (hcells : ∀ j u, (ecells ((a, q) :: ys))[j]? = some u → cur[off + j]? = some u) (off' : Nat)
    (ho : (cap = 1 ∧ off' = off) ∨ off' = off + 3) (h' : Int) (X : World) (hX : X = popX w B g off (.slice (some ⟨g, off', none⟩) ys.length (cap - 1)) h') :
    IB base B c1 c2 (X.setCell ⟨B, 0, none⟩ (.int .i32 0)) (.slice (some ⟨g, off', none⟩) ys.length (cap - 1)) ys h' cl ∧ Frm base w (X.setCell ⟨B, 0, none⟩ (.int .i32 0)) ∧
      X.cell? ⟨B, 0, none⟩ = some (.int .i32 1) ∧ X.frozen? ⟨B, 0, none⟩ = false ∧ X.heap.size = w.heap.size := by
  have hB := popX_B w B g off _ (.slice (some ⟨g, off', none⟩) ys.length (cap - 1)) held h' cl c1 c2 (Ne.symm hgB) h.blk
  have hG := popX_g w B g off (.slice (some ⟨g, off', none⟩) ys.length (cap - 1)) h' cur hgB hg
  have hcB := h.cne.2
  have hcg : c2 ≠ g := fun e => h.cne.1 (by rw [e]; rfl)
  have hC := popX_other w B g off (.slice (some ⟨g, off', none⟩) ys.length (cap - 1)) h' c2 hcB hcg
  have hF := pop_frm base w B g off (.slice (some ⟨g, off', none⟩) ys.length (cap - 1)) h' _ cur h.hB hbase h.blk hg
  have hZ := popX_size w B g off (.slice (some ⟨g, off', none⟩) ys.length (cap - 1)) h'
  obtain ⟨p1, p2⟩ := pop_cells hle hfit hcells ho
  rw [← hX] at hB hG hC hF hZ
  clear hX
  refine ⟨⟨heap_setCell_same _ B 0 _ 44 _ hB, .inr ⟨g, off', cap - 1, _, rfl, by omega, hbase, (heap_setCell_other _ _ _ _ hgB).trans hG, p1, p2⟩, h.room.kept ((heap_setCell_other _ _ _ _ hcB).trans hC), h.hB, h.hc⟩,
    hF.trans (frm_set hB h.hB 0 _), by rw [cell_of_row X B 0 _ _ _ hB]; rfl, frozen_of_row X B 0 _ _ hB, hZ⟩

theorem IB.drew {base B c1 c2 : Nat} {w : World} {v : Value} {xs : List (Addr × Int)} {held : Int} {cl : Value} (h : IB base B c1 c2 w v xs held cl) : IB base B c1 c2 w.drew v xs held cl := ⟨h.blk, h.items, h.room, h.hB, h.hc⟩
theorem Frm.drew {base : Nat} {w w' : World} (h : Frm base w w') : Frm base w w'.drew := ⟨h.os, h.tape, h.output, h.size, h.low, h.ints⟩
/-- Behind wake. -/
theorem IB.woke {base B c1 c2 : Nat} {w w' : World} {v : Value} {xs : List (Addr × Int)} {held : Int} {cl : Value} (h : IB base B c1 c2 w v xs held cl) (hc : Chan1 w' c2) (hg : w.grownBy w' (some c2)) : IB base B c1 c2 w' v xs held cl ∧ Frm base w w' := by
  have hroom := h.room
  obtain ⟨buf, s, r, tm, hcc⟩ := hroom
  refine ⟨⟨(hg.block B h.lt (fun e => h.cne.2 (Option.some.inj e).symm)).trans h.blk, h.items.grown hg (fun k cs hk e => ?_), hc, h.hB, h.hc⟩, Frm.of_grown hg (Nat.le_of_lt (Nat.lt_of_le_of_lt h.hB h.lt)) (fun k hk => ?_)⟩
  · have e' : c2 = k := Option.some.inj e
    subst e'
    rw [hcc] at hk
    cases hk
  · have e' : c2 = k := Option.some.inj hk
    subst e'
    exact ⟨h.hc, fun cs fr e => by rw [hcc] at e; cases e⟩
/-- A store into a block that is none of the inbox's. -/
theorem IB.other {base B c1 c2 : Nat} {w : World} {v : Value} {xs : List (Addr × Int)} {held : Int} {cl : Value} (h : IB base B c1 c2 w v xs held cl) {k : Nat} {cs : Array Value} {t : Nat} (hk : w.heap[k]? = some (.cells cs t (0, 0))) (h1 : t ≠ 44) (h2 : t ≠ 51) (j : Nat) (u : Value) :
    IB base B c1 c2 (w.setCell ⟨k, j, none⟩ u) v xs held cl := by
  refine ⟨(heap_setCell_other _ _ _ _ (fun e => ?_)).trans h.blk, h.items.kept fun i cs' hc => heap_setCell_other _ _ _ _ (fun e => ?_), h.room.kept (heap_setCell_other _ _ _ _ (fun e => ?_)), h.hB, h.hc⟩
  · have e' : B = k := e
    subst e'
    have hb := h.blk
    have hk' : w.heap[B]? = some (.cells cs t (0, 0)) := hk
    rw [hb] at hk'
    simp only [Option.some.injEq, Obj.cells.injEq] at hk'
    exact h1 hk'.2.1.symm
  · have e' : i = k := e
    subst e'
    have hk' : w.heap[i]? = some (.cells cs t (0, 0)) := hk
    rw [hc] at hk'
    simp only [Option.some.injEq, Obj.cells.injEq] at hk'
    exact h2 hk'.2.1.symm
  · have e' : c2 = k := e
    subst e'
    obtain ⟨buf, s, r, tm, hcc⟩ := h.room
    rw [hcc] at hk
    cases hk
end Go.Proofs.Qxb6616989a
