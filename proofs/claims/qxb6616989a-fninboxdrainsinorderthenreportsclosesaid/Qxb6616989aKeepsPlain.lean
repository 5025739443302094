/-
  Seat b6616989a: plain facts for the laws on the inbox: sums; what stays while the other memory turns.
-/
import Derived.Test.Qxb6616989aNextAny
import Derived.OpenShut
namespace Go.Proofs.Qxb6616989a
open Go.RowKit

def sm (l : List Int) : Int := l.foldr (· + ·) 0
theorem sm_nil : sm [] = 0 := rfl
theorem sm_cons (x : Int) (l : List Int) : sm (x :: l) = x + sm l := rfl
theorem sm_snoc (l : List Int) (x : Int) : sm (l ++ [x]) = sm l + x := by
  induction l with
  | nil => simp [sm]
  | cons y l ih => rw [List.cons_append, sm_cons, sm_cons, ih]; omega
theorem sm_bd (l : List Int) (h : ∀ x ∈ l, 1 ≤ x ∧ x ≤ 1073741824) : 0 ≤ sm l ∧ sm l ≤ 1073741824 * (l.length : Int) := by
  induction l with
  | nil => simp [sm]
  | cons y l ih =>
    have h1 := h y List.mem_cons_self
    have h2 := ih (fun x hx => h x (List.mem_cons_of_mem _ hx))
    rw [sm_cons, List.length_cons]
    omega

/-- An owned row of ints stays owned while the inbox works. -/
theorem own3_frm {base : Nat} {w w' : World} {v : Value} {n : Nat} {xs : List Value} (h : w.ownsRow base 3 1 v n xs) (hf : Frm base w w') : w'.ownsRow base 3 1 v n xs := by
  refine ⟨h.1, ?_⟩
  rcases h.2 with h2 | ⟨g, cap, cur, h3, h4, h5, h6⟩
  · exact .inl h2
  · exact .inr ⟨g, cap, cur, h3, h4, (hf.ints g cur (0, 0) h5).trans h5, h6⟩

/-- The inbox stays while a row of ints is written. -/
theorem IB.ints {base B c1 c2 : Nat} {w w' : World} {v : Value} {xs : List (Addr × Int)} {held : Int} {cl : Value} (h : IB base B c1 c2 w v xs held cl) {G : Nat} {cs : Array Value} (hG : w.heap[G]? = some (.cells cs 3 (0, 0))) (hg : w.grownBy w' (some G)) :
    IB base B c1 c2 w' v xs held cl := by
  refine ⟨(hg.block B h.lt (fun e => ?_)).trans h.blk, h.items.grown hg (fun k cs' hk e => ?_), h.room.kept (hg.block c2 h.room.lt (fun e => ?_)), h.hB, h.hc⟩
  · have e' : B = G := Option.some.inj e
    subst e'
    have hb := h.blk
    rw [hG] at hb
    simp at hb
  · have e' : G = k := Option.some.inj e
    subst e'
    rw [hG] at hk
    simp at hk
  · have e' : c2 = G := Option.some.inj e
    subst e'
    obtain ⟨buf, s, r, tm, hc⟩ := h.room
    rw [hc] at hG
    cases hG
theorem own3_block {base : Nat} {w : World} {G n cap : Nat} {xs : List Value} (h : w.ownsRow base 3 1 (.slice (some ⟨G, 0, none⟩) n cap) n xs) : base ≤ G ∧ ∃ cs, w.heap[G]? = some (.cells cs 3 (0, 0)) := by
  rcases h.2 with ⟨h2, _⟩ | ⟨g, c, cur, h3, h4, h5, _⟩
  · cases h2
  · simp only [Value.slice.injEq, Option.some.injEq, Addr.mk.injEq] at h3
    obtain ⟨⟨rfl, _⟩, _⟩ := h3
    exact ⟨h4, cur, h5⟩
theorem below_own3 {base : Nat} {w0 w w' : World} {G n cap : Nat} {xs : List Value} (hb : Below base w0 w) (hs : base ≤ w.heap.size) (ho : w.ownsRow base 3 1 (.slice (some ⟨G, 0, none⟩) n cap) n xs) (hg : w.grownBy w' (some G)) : Below base w0 w' :=
  hb.grown hg hs (fun k hk => by have := (own3_block ho).1; cases hk; exact this)

def icells (l : List Int) : List Value := l.map (Value.int .i64)
theorem icells_snoc (l : List Int) (x : Int) : icells (l ++ [x]) = icells l ++ [Value.int .i64 x] := by simp [icells]

theorem drop_cons (qs : List Int) (f : Nat) (h : f < qs.length) : qs.drop f = qs[f] :: qs.drop (f + 1) := List.drop_eq_getElem_cons h
/-- What the queue of the inbox holds, against the model's queue. -/
theorem head_of {xs : List (Addr × Int)} {qs : List Int} {f : Nat} (h : xs.map Prod.snd = qs.drop f) (hf : f < qs.length) : ∃ a ys, xs = (a, qs[f]) :: ys ∧ ys.map Prod.snd = qs.drop (f + 1) := by
  rw [drop_cons qs f hf] at h
  cases xs with
  | nil => cases h
  | cons x ys =>
    simp only [List.map_cons, List.cons.injEq] at h
    obtain ⟨h1, h2⟩ := h
    exact ⟨x.1, ys, by rw [← h1], h2⟩
end Go.Proofs.Qxb6616989a
