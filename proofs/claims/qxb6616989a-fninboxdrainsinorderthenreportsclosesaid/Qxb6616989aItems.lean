/-
  Seat b6616989a: the queue's slice in memory: its elements' cells; an append at its end; its head taken off.
-/
import Derived.Test.Qxb6616989aRows
import Derived.WalkKit
import Derived.WalkSpells
import Derived.ArgAppend
import Derived.Laws.OwnMore
namespace Go.Proofs.Qxb6616989a
open Go.RowKit

/-- The three cells of one queued item: no message, an error that is not nil, its size. -/
def ecell (x : Addr × Int) : List Value := [.nilIface, .iface 57 (.pointer (some x.1)), .int .i64 x.2]
def ecells (xs : List (Addr × Int)) : List Value := xs.flatMap ecell
theorem ecells_nil : ecells [] = [] := rfl
theorem ecells_cons (x : Addr × Int) (xs : List (Addr × Int)) : ecells (x :: xs) = ecell x ++ ecells xs := by simp [ecells]
theorem ecells_snoc (x : Addr × Int) (xs : List (Addr × Int)) : ecells (xs ++ [x]) = ecells xs ++ ecell x := by simp [ecells]
theorem ecell_length (x : Addr × Int) : (ecell x).length = 3 := rfl
theorem ecells_length : ∀ xs : List (Addr × Int), (ecells xs).length = xs.length * 3
  | [] => rfl
  | x :: xs => by rw [ecells_cons, List.length_append, ecells_length xs, ecell_length, List.length_cons]; omega
theorem ecell_one (x : Addr × Int) : ∀ u ∈ ecell x, u.oneCell' = true := by
  intro u hu
  simp only [ecell, List.mem_cons, List.not_mem_nil, or_false] at hu
  rcases hu with rfl | rfl | rfl <;> rfl

/-- v is a slice over the call's own memory whose elements are the items xs. -/
def Items (base : Nat) (w : World) (v : Value) (xs : List (Addr × Int)) : Prop :=
  (v = .slice none 0 0 ∧ xs = []) ∨
  ∃ g off cap cur, v = .slice (some ⟨g, off, none⟩) xs.length cap ∧ xs.length ≤ cap ∧ base ≤ g ∧ w.heap[g]? = some (.cells cur 51 (0, 0)) ∧ off + 3 * cap ≤ cur.size ∧ ∀ j u, (ecells xs)[j]? = some u → cur[off + j]? = some u

theorem items_nil (base : Nat) (w : World) : Items base w (.slice none 0 0) [] := .inl ⟨rfl, rfl⟩

theorem Items.form {base : Nat} {w : World} {v : Value} {xs : List (Addr × Int)} (h : Items base w v xs) : ∃ ao cap, v = .slice ao xs.length cap := by
  rcases h with ⟨rfl, rfl⟩ | ⟨g, off, cap, cur, rfl, _⟩
  · exact ⟨none, 0, rfl⟩
  · exact ⟨_, _, rfl⟩

/-- It stays what it is while other blocks turn. -/
theorem Items.kept {base : Nat} {w w' : World} {v : Value} {xs : List (Addr × Int)} (h : Items base w v xs) (hk : ∀ (k : Nat) (cs : Array Value), w.heap[k]? = some (.cells cs 51 (0, 0)) → w'.heap[k]? = w.heap[k]?) : Items base w' v xs := by
  rcases h with h | ⟨g, off, cap, cur, h1, h2, h3, h4, h5⟩
  · exact .inl h
  · exact .inr ⟨g, off, cap, cur, h1, h2, h3, (hk g cur h4).trans h4, h5⟩
theorem Items.grown {base : Nat} {w w' : World} {v : Value} {xs : List (Addr × Int)} {row : Option Nat} (h : Items base w v xs) (hg : w.grownBy w' row) (hne : ∀ (k : Nat) (cs : Array Value), w.heap[k]? = some (.cells cs 51 (0, 0)) → row ≠ some k) : Items base w' v xs :=
  h.kept fun k cs hc => hg.block k (Array.getElem?_eq_some_iff.1 hc).1 (Ne.symm (hne k cs hc))

theorem Items.own51 {base : Nat} {w : World} {v : Value} {xs : List (Addr × Int)} (h : Items base w v xs) : ∀ k, v.ownBlock = some k → base ≤ k ∧ ∃ cs, w.heap[k]? = some (.cells cs 51 (0, 0)) := by
  intro k hk
  rcases h with ⟨rfl, _⟩ | ⟨g, off, cap, cur, rfl, _, h3, h4, _⟩
  · simp [Value.ownBlock] at hk
  · have : g = k := by simpa [Value.ownBlock] using hk
    subst this
    exact ⟨h3, _, h4⟩

theorem add_plain (b off j : Nat) : (⟨b, off, none⟩ : Addr).add j = ⟨b, off + j, none⟩ := by unfold Addr.add; split <;> simp_all

theorem heap_set3 (w : World) (g o : Nat) (cur : Array Value) (t : TypeId) (a b c : Value) (hg : w.heap[g]? = some (.cells cur t (0, 0))) :
    (w.setCells g o [a, b, c]).heap[g]? = some (.cells (((cur.setIfInBounds o a).setIfInBounds (o + 1) b).setIfInBounds (o + 1 + 1) c) t (0, 0)) := by
  have h1 := heap_setCell_same w g o cur t a hg
  have h2 := heap_setCell_same _ g (o + 1) _ t b h1
  exact heap_setCell_same _ g (o + 1 + 1) _ t c h2
theorem heap_set3_other (w : World) (g o k : Nat) (a b c : Value) (h : k ≠ g) : (w.setCells g o [a, b, c]).heap[k]? = w.heap[k]? := by
  show (((w.setCell ⟨g, o, none⟩ a).setCell ⟨g, o + 1, none⟩ b).setCell ⟨g, o + 1 + 1, none⟩ c).heap[k]? = _
  rw [heap_setCell_other _ _ _ _ h, heap_setCell_other _ _ _ _ h, heap_setCell_other _ _ _ _ h]
theorem size_set3 (w : World) (g o : Nat) (a b c : Value) : (w.setCells g o [a, b, c]).heap.size = w.heap.size := by
  show (((w.setCell ⟨g, o, none⟩ a).setCell ⟨g, o + 1, none⟩ b).setCell ⟨g, o + 1 + 1, none⟩ c).heap.size = _
  simp [World.setCell]

theorem get_set3 (cur : Array Value) (o i : Nat) (a b c : Value) (h : o + 3 ≤ cur.size) :
    (((cur.setIfInBounds o a).setIfInBounds (o + 1) b).setIfInBounds (o + 1 + 1) c)[i]? = if i = o then some a else if i = o + 1 then some b else if i = o + 2 then some c else cur[i]? := by
  simp only [Array.getElem?_setIfInBounds, Array.size_setIfInBounds]
  repeat' split
  all_goals first | rfl | (exfalso; omega)

/-- THE APPEND OF ONE ITEM, whether there is room or not. -/
theorem run_append_items {P : Program} (ht : P.underlying 42 = some (.slice 51)) {i : TypeInfo} {z : Value} (hi : P.info? 51 = some i) (hz : i.zero = some z) (hs : i.size = 3) (hby : i.bytes = 40) (hzs : z.cells.size = 3)
    (base : Nat) (w : World) (v : Value) (xs : List (Addr × Int)) (x : Addr × Int) (h : Items base w v xs) (hb : base ≤ w.heap.size) (ty : TypeId) (ad : Addr) (c : Nat)
    (hnews : ∀ j u, (ecell x)[j]? = some u → w.cell? (ad.add j) = some u) (hlen : xs.length ≤ 1000000) :
    ∃ v' w', (Builtin.append_ #[42, 42] ty #[v, .slice (some ad) 1 c]).run P w = .ok v' w' ∧ Items base w' v' (xs ++ [x]) ∧ w.grownBy w' v.ownBlock := by
  have grows : ∀ v' w', w'.ownsRow w.heap.size 51 3 v' (xs.length + 1) (ecells xs ++ ecell x) → Items base w' v' (xs ++ [x]) := by
    intro v' w' ho
    rcases ho.2 with ⟨_, h0⟩ | ⟨g, cap, cur, rfl, h1, h2, h3, _, h5, h6⟩
    · omega
    · refine .inr ⟨g, 0, cap, cur, by simp, by simp; omega, by omega, h2, by omega, fun j u hu => ?_⟩
      rw [ecells_snoc, ← h6, List.getElem?_take] at hu
      rw [Nat.zero_add]
      split at hu
      · simpa using hu
      · cases hu
  rcases h with ⟨rfl, rfl⟩ | ⟨g, off, cap, cur, rfl, h1, h2, h3, h4, h5⟩
  · obtain ⟨v', w', hrun, r1, r2, _⟩ := run_append_own (P := P) w w.heap.size 42 ty 51 i z 3 40 ht hi hz hs hby hzs (by omega) (.slice none 0 0) 0 [] (World.ownsRow_nil w _ 51 3) ad 1 c (ecell x) rfl hnews (ecell_one x) (by unfold maxLen; omega) (by omega) (Nat.le_refl _)
    exact ⟨v', w', hrun, grows v' w' r1, ⟨r2.os, r2.tape, r2.output, r2.size, fun k hk hne => r2.block k hk hne⟩⟩
  · by_cases hroom : xs.length + 1 ≤ cap
    · have hfit : off + xs.length * 3 + 3 ≤ cur.size := by omega
      have hcell : ∀ j, j < 3 → (w.cell? ⟨g, off + xs.length * i.size + j, none⟩).isSome = true := fun j hj => by
        rw [hs, cell_of_row w g _ cur 51 (0, 0) h3]
        simp
        omega
      have hrun := run_append_room_cells (P := P) w 42 ty 51 i ht hi g off xs.length cap ad 1 c (ecell x) (by rw [hs]; rfl) hnews (ecell_one x) hroom (fun j hj => hcell j hj) (fun j _ => frozen_of_row w g _ cur 51 h3)
      refine ⟨_, _, hrun, ?_, ?_⟩
      · rw [hs]
        refine .inr ⟨g, off, cap, _, by simp, by simp; omega, h2, heap_set3 w g (off + xs.length * 3) cur 51 _ _ _ h3, by simpa using h4, fun j u hu => ?_⟩
        rw [get_set3 cur _ _ _ _ _ hfit]
        rw [ecells_snoc] at hu
        by_cases hj : j < xs.length * 3
        · rw [List.getElem?_append_left (by rw [ecells_length]; omega)] at hu
          rw [if_neg (by omega), if_neg (by omega), if_neg (by omega)]
          exact h5 j u hu
        · rw [List.getElem?_append_right (by rw [ecells_length]; omega), ecells_length] at hu
          rcases (show j - xs.length * 3 = 0 ∨ j - xs.length * 3 = 1 ∨ j - xs.length * 3 = 2 ∨ 3 ≤ j - xs.length * 3 by omega) with e | e | e | e
          · rw [e] at hu; rw [if_pos (by omega)]; exact hu
          · rw [e] at hu; rw [if_neg (by omega), if_pos (by omega)]; exact hu
          · rw [e] at hu; rw [if_neg (by omega), if_neg (by omega), if_pos (by omega)]; exact hu
          · rw [List.getElem?_eq_none (by rw [ecell_length]; exact e)] at hu; cases hu
      · rw [hs]
        exact ⟨rfl, rfl, rfl, Nat.le_of_eq (size_set3 w g _ _ _ _).symm, fun k _ hne => heap_set3_other w g _ k _ _ _ (fun e => hne (by simp [Value.ownBlock, e]))⟩
    · obtain ⟨v', w', hrun, r1, r2⟩ := run_append_arg_grows (P := P) w 42 ty 51 i z 3 40 ht hi hz hs hby hzs (by omega) ⟨g, off, none⟩ xs.length cap (ecells xs) (ecells_length xs)
        (fun j u hu => by rw [add_plain, cell_of_row w g _ cur 51 (0, 0) h3]; exact h5 j u hu) ad 1 c (ecell x) rfl hnews (by omega) (by unfold maxLen; omega) (by omega)
      exact ⟨v', w', hrun, grows v' w' r1, ⟨r2.os, r2.tape, r2.output, r2.size, fun k hk _ => r2.block k hk (by simp)⟩⟩
end Go.Proofs.Qxb6616989a
