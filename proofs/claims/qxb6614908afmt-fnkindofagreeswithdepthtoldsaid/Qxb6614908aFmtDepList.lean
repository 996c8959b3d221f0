import Derived.Test.Qxb6614908aFmtDepEnv
namespace Go.Proofs.Qxb6614908aFmt.Dep
open Go.ChangeShapes Go.WideShapes Go.ChangeAt Go.RowKit

/-- Two rows of different element types lie in different blocks. -/
theorem apart_of_types {w : World} {a b : Nat} {c1 c2 : Array Value} {t1 t2 : TypeId} {f1 f2 : Nat × Nat} (h1 : w.heap[a]? = some (.cells c1 t1 f1)) (h2 : w.heap[b]? = some (.cells c2 t2 f2)) (hne : t1 ≠ t2) : a ≠ b := by
  intro e
  rw [e, h2] at h1
  injection h1 with h1
  injection h1 with _ h3
  exact hne h3.symm
/-- The block of a slice that owns a row. -/
theorem row_block {w : World} {base : Nat} {e : TypeId} {size : Nat} {v : Value} {n : Nat} {xs : List Value} (h : w.ownsRow base e size v n xs) {j : Nat} (hj : v.ownBlock = some j) : ∃ cur, w.heap[j]? = some (.cells cur e (0, 0)) := by
  rcases h.2 with ⟨h1, _⟩ | ⟨g, cap, cur, h1, _, hh, _⟩
  · rw [h1] at hj; simp [Value.ownBlock] at hj
  · rw [h1] at hj
    simp [Value.ownBlock] at hj
    subst hj
    exact ⟨cur, hh⟩

def NotVal (w : World) (r : Option Nat) : Prop := ∀ j o, r = some j → w.heap[j]? = some o → ¬ IsVal o
theorem notVal_none (w : World) : NotVal w none := fun _ _ h => by cases h
theorem notVal_of {w : World} {j : Nat} {c : Array Value} {t : TypeId} {f : Nat × Nat} (h : w.heap[j]? = some (.cells c t f)) (ht : t ≠ 20) : NotVal w (some j) := by
  intro i o hi ho hv
  cases hi
  rw [h] at ho
  cases ho
  rcases hv with ⟨cur, h1⟩ | ⟨es, cc, h1⟩
  · injection h1 with _ h2; exact ht h2
  · cases h1
theorem OwnT.notVal {W w : World} {t : Value} {bs : List Int} (h : OwnT W w t bs) : NotVal w t.ownBlock := by
  intro j o hj ho hv
  obtain ⟨cur, hc⟩ := row_block h hj
  exact notVal_of hc (by decide) j o rfl ho hv
theorem ValD.turn {w w' : World} {Q : Nat → Prop} {n : Nat} {v : Value} {D : Nat} {r : Option Nat} (h : ValD w Q n v D) (hg : w.grownBy w' r) (hr : NotVal w r) : ValD w' Q n v D :=
  ValD.keep (fun b o hq hb hv => ⟨(hg.block b (lt_of_block hb) (fun e => hr b o e.symm hb hv)).trans hb, hq⟩) n v D h
theorem ValD.beside {w w' : World} {Q : Nat → Prop} {n : Nat} {v : Value} {D : Nat} {r : Nat} (h : ValD w Q n v D) (hg : w.grownBy w' (some r)) (hr : ∀ b, Q b → b ≠ r) : ValD w' Q n v D :=
  ValD.keep (fun b _ hq hb _ => ⟨(hg.block b (lt_of_block hb) (fun e => hr b hq (Option.some.inj e))).trans hb, hq⟩) n v D h
theorem ValD.mono {w : World} {Q Q' : Nat → Prop} {n : Nat} {v : Value} {D : Nat} (h : ValD w Q n v D) (hQ : ∀ b, b < w.heap.size → Q b → Q' b) : ValD w Q' n v D :=
  ValD.keep (fun b _ hq hb _ => ⟨hb, hQ b (lt_of_block hb) hq⟩) n v D h

/-- THE LOOP OVER A LIST's ITEMS: q items have been built. -/
structure LInv (W w wr : World) (n q : Nat) (ai : Option Addr) (t0 t : Value) (bs : List Int) (vals : Array Value) (Bl g cap : Nat) (es : List Value) : Prop where
  env : Env w wr t0.ownBlock vals
  own : OwnT W wr t (bs ++ [91] ++ cat (fun i => txt W n (itemD W ai i)) q)
  nn : ¬ t = .slice none 0 0
  loc : t.ownBlock = t0.ownBlock ∨ ∃ k, t.ownBlock = some k ∧ w.heap.size + 2 ≤ k
  lbox : wr.heap[Bl]? = some (.cells #[.slice (some ⟨g, 0, none⟩) q cap] 38 (0, 0))
  lge : w.heap.size + 2 ≤ Bl
  row : wr.ownsRow (w.heap.size + 2) 20 1 (.slice (some ⟨g, 0, none⟩) q cap) q es
  val : ∀ j, j < q → ∃ v, es[j]? = some v ∧ IfV v ∧ ValD wr (fun b => w.heap.size + 2 ≤ b ∧ b ≠ g) n v (dep W n (itemD W ai j))

/-- The middle of a round: item q is built (v, t2), and lies in the round's box X. -/
structure LMid (W w w3 : World) (n q : Nat) (ai : Option Addr) (t0 t : Value) (bs : List Int) (vals : Array Value) (Bl g cap X : Nat) (es : List Value) (v : Value) : Prop where
  env : Env w w3 t0.ownBlock vals
  own : OwnT W w3 t (bs ++ [91] ++ cat (fun i => txt W n (itemD W ai i)) (q + 1))
  nn : ¬ t = .slice none 0 0
  loc : t.ownBlock = t0.ownBlock ∨ ∃ k, t.ownBlock = some k ∧ w.heap.size + 2 ≤ k
  lbox : w3.heap[Bl]? = some (.cells #[.slice (some ⟨g, 0, none⟩) q cap] 38 (0, 0))
  lge : w.heap.size + 2 ≤ Bl
  row : w3.ownsRow (w.heap.size + 2) 20 1 (.slice (some ⟨g, 0, none⟩) q cap) q es
  val : ∀ j, j < q + 1 → ∃ u, (es ++ [v])[j]? = some u ∧ IfV u ∧ ValD w3 (fun b => w.heap.size + 2 ≤ b ∧ b ≠ g) n u (dep W n (itemD W ai j))
  xbox : w3.heap[X]? = some (.cells #[v] 29 (0, 0))

/-- Behind the call of 'build', ahead of the store into the round's box. -/
theorem LInv.xbox {W w wr w2 : World} {n q : Nat} {ai : Option Addr} {t0 t t2 : Value} {bs : List Int} {vals : Array Value} {Bl g cap : Nat} {es : List Value} {v : Value} (h : LInv W w wr n q ai t0 t bs vals Bl g cap es)
    (hM : Made W (wr.alloc (.cells #[.nilIface] 29)) w2 n (itemD W ai q) t t2 (bs ++ [91] ++ cat (fun i => txt W n (itemD W ai i)) q) v) : w2.heap[wr.heap.size]? = some (.cells #[.nilIface] 29 (0, 0)) := by
  refine (hM.grown.block _ (by simp) (fun e => ?_)).trans (heap_alloc_new wr _)
  have := (h.own.row _ e.symm).2
  omega

theorem LInv.mid {W w wr w2 : World} {n q : Nat} {ai : Option Addr} {t0 t t2 : Value} {bs : List Int} {vals : Array Value} {Bl g cap : Nat} {es : List Value} {v : Value} (h : LInv W w wr n q ai t0 t bs vals Bl g cap es) (ht0 : OwnT W w t0 bs)
    (hM : Made W (wr.alloc (.cells #[.nilIface] 29)) w2 n (itemD W ai q) t t2 (bs ++ [91] ++ cat (fun i => txt W n (itemD W ai i)) q) v) :
    LMid W w (w2.setCell ⟨wr.heap.size, 0, none⟩ v) n q ai t0 t2 bs vals Bl g cap wr.heap.size es v := by
  have hx := h.xbox hM
  have h1 : wr.grownBy (wr.alloc (.cells #[.nilIface] 29)) none := World.grownBy_alloc _ _ _
  have hsz : (wr.alloc (.cells #[.nilIface] 29)).heap.size = wr.heap.size + 1 := by simp
  have hs := h.env.size
  have hgl : g < wr.heap.size := (h.row.lt g rfl).2
  have hBl : Bl < wr.heap.size := lt_of_block h.lbox
  obtain ⟨curg, hcg⟩ := row_block h.row (j := g) rfl
  have ht1 : OwnT W (wr.alloc (.cells #[.nilIface] 29)) t _ := h.own.keep0 h1
  have hset := grown_set w2 ⟨wr.heap.size, 0, none⟩ v
  have hrow0 : ∀ j, t0.ownBlock = some j → j < w.heap.size := fun j hj => (ht0.row j hj).2
  have hl1 := (h1.block Bl hBl (by simp)).trans h.lbox
  have hg1 := (h1.block g hgl (by simp)).trans hcg
  have hBt : some Bl ≠ t.ownBlock := fun e => by obtain ⟨cur, hc⟩ := row_block ht1 e.symm; exact apart_of_types hl1 hc (by decide) rfl
  have hgt : some g ≠ t.ownBlock := fun e => by obtain ⟨cur, hc⟩ := row_block ht1 e.symm; exact apart_of_types hg1 hc (by decide) rfl
  have hl2 := (hM.grown.block Bl (lt_of_block hl1) hBt).trans hl1
  have row2 := ((h.row.alloc (.cells #[.nilIface] 29)).kept hM.grown (Or.inr (by simpa [Value.ownBlock] using hgt)))
  have nv2 : NotVal w2 (some wr.heap.size) := notVal_of hx (by decide)
  refine ⟨?_, ?_, hM.nn, ?_, ?_, h.lge, ?_, ?_, ?_⟩
  · refine ((h.env.next h1 (by simp) hrow0).next hM.grown (fun j hj => ?_) hrow0).next hset (fun j hj => by cases hj; left; exact hs) hrow0
    rcases h.loc with e | ⟨k, e, hk⟩
    · right; rw [← e]; exact hj
    · rw [e] at hj; cases hj; left; exact hk
  · have o2 : OwnT W w2 t2 (bs ++ [91] ++ cat (fun i => txt W n (itemD W ai i)) (q + 1)) := by
      have := hM.own
      rw [List.append_assoc] at this
      exact this
    refine o2.kept hset (Or.inr fun e => ?_)
    obtain ⟨cur, hc⟩ := row_block o2 e
    exact apart_of_types hx hc (by decide) rfl
  · rcases hM.loc with e | ⟨k, e, hk⟩
    · rw [e]; exact h.loc
    · right; exact ⟨k, e, by rw [hsz] at hk; omega⟩
  · exact (hset.block Bl (lt_of_block hl2) (by simp; omega)).trans hl2
  · exact row2.kept hset (Or.inr (by simp [Value.ownBlock]; omega))
  · intro j hj
    by_cases e : j = q
    · subst e
      refine ⟨v, ?_, hM.ifv, ?_⟩
      · rw [List.getElem?_append_right (by have := h.row.1; omega)]
        have := h.row.1
        simp [show j - es.length = 0 from by omega]
      · exact (hM.val.turn hset nv2).mono (fun b _ hb => by rw [hsz] at hb; exact ⟨by omega, by omega⟩)
    · obtain ⟨u, hu, hiu, hvu⟩ := h.val j (by omega)
      refine ⟨u, ?_, hiu, ((hvu.grown h1).turn hM.grown ht1.notVal).turn hset nv2⟩
      rw [List.getElem?_append_left (by have := h.row.1; omega)]
      exact hu
  · exact one_setCell hx

theorem LMid.next {W w w3 w4 : World} {n q : Nat} {ai : Option Addr} {t0 t : Value} {bs : List Int} {vals : Array Value} {Bl g cap X : Nat} {es : List Value} {v : Value} (h : LMid W w w3 n q ai t0 t bs vals Bl g cap X es v) (ht0 : OwnT W w t0 bs)
    {g' cap' : Nat} (hrow : w4.ownsRow (w.heap.size + 2) 20 1 (.slice (some ⟨g', 0, none⟩) (q + 1) cap') (q + 1) (es ++ [v])) (hg : w3.grownBy w4 (some g)) (hg' : g' = g ∨ w3.heap.size ≤ g') :
    LInv W w (w4.setCell ⟨Bl, 0, none⟩ (.slice (some ⟨g', 0, none⟩) (q + 1) cap')) n (q + 1) ai t0 t bs vals Bl g' cap' (es ++ [v]) := by
  obtain ⟨curg, hcg⟩ := row_block h.row (j := g) rfl
  have hgb : w.heap.size + 2 ≤ g := (h.row.lt g rfl).1
  have hset := grown_set w4 ⟨Bl, 0, none⟩ (.slice (some ⟨g', 0, none⟩) (q + 1) cap')
  have hrow0 : ∀ j, t0.ownBlock = some j → j < w.heap.size := fun j hj => (ht0.row j hj).2
  have hl4 := (hg.block Bl (lt_of_block h.lbox) (by have := apart_of_types h.lbox hcg (by decide); simpa using this)).trans h.lbox
  have hBlt : Bl < w3.heap.size := lt_of_block h.lbox
  have hBg : Bl ≠ g := apart_of_types h.lbox hcg (by decide)
  have o4 : OwnT W w4 t (bs ++ [91] ++ cat (fun i => txt W n (itemD W ai i)) (q + 1)) := h.own.kept hg (Or.inr fun e => by obtain ⟨cur, hc⟩ := row_block h.own e; exact apart_of_types hcg hc (by decide) rfl)
  have nv4 : NotVal w4 (some Bl) := notVal_of hl4 (by decide)
  refine ⟨(h.env.next hg (fun j hj => by cases hj; left; exact hgb) hrow0).next hset (fun j hj => by cases hj; left; exact h.lge) hrow0, ?_, h.nn, h.loc, ?_, h.lge, ?_, ?_⟩
  · refine o4.kept hset (Or.inr fun e => ?_)
    obtain ⟨cur, hc⟩ := row_block o4 e
    exact apart_of_types hl4 hc (by decide) rfl
  · exact one_setCell hl4
  · refine hrow.kept hset (Or.inr ?_)
    simp [Value.ownBlock]
    omega
  · intro j hj
    obtain ⟨u, hu, hiu, hvu⟩ := h.val j hj
    refine ⟨u, hu, hiu, ?_⟩
    have h4 : ValD w4 (fun b => w.heap.size + 2 ≤ b ∧ b ≠ g') n u (dep W n (itemD W ai j)) :=
      ValD.keep (fun b o hq hb _ => ⟨(hg.block b (lt_of_block hb) (by simpa using hq.2)).trans hb, hq.1, by have := lt_of_block hb; have := hq.2; omega⟩) n u _ hvu
    exact h4.turn hset nv4

/-- The list is whole. -/
theorem LInv.value {W w wr : World} {n q : Nat} {ai : Option Addr} {t0 t : Value} {bs : List Int} {vals : Array Value} {Bl g cap : Nat} {es : List Value} (h : LInv W w wr n q ai t0 t bs vals Bl g cap es) (hq : q ≤ 1048576) :
    ValD wr (fun b => w.heap.size + 2 ≤ b) (n + 1) (.iface 36 (.slice (some ⟨g, 0, none⟩) q cap)) (mx (fun i => dep W n (itemD W ai i)) q + 1) := by
  obtain ⟨curg, hcg⟩ := row_block h.row (j := g) rfl
  refine Or.inr (Or.inr (Or.inr (Or.inl ⟨g, q, cap, fun i => (es[i]?).getD .nilIface, fun i => dep W n (itemD W ai i), rfl, (h.row.lt g rfl).1, hq, ⟨curg, hcg⟩, fun i hi => ?_, by omega, ?_⟩)))
  · obtain ⟨u, hu, _, hvu⟩ := h.val i hi
    refine ⟨?_, ?_, ?_⟩
    · have := h.row.cells (g := g) rfl i u hu
      rw [add_plain] at this
      simpa [hu] using this
    · dsimp only
      rw [hu]
      exact hvu.mono (fun b _ hb => hb.1)
    · have := le_mx (fun i => dep W n (itemD W ai i)) q i hi
      dsimp only at this ⊢
      omega
  · rcases mx_is (fun i => dep W n (itemD W ai i)) q with e | ⟨i, hi, e⟩
    · left; omega
    · right; exact ⟨i, hi, by dsimp only at e ⊢; omega⟩

theorem ownsRow_base {w : World} {base base' : Nat} {e : TypeId} {size : Nat} {v : Value} {n : Nat} {xs : List Value} (h : w.ownsRow base e size v n xs) (hb : base' ≤ base) : w.ownsRow base' e size v n xs := by
  obtain ⟨h1, h2⟩ := h
  refine ⟨h1, ?_⟩
  rcases h2 with h2 | ⟨g, cap, cur, hv, hg, r⟩
  · exact Or.inl h2
  · exact Or.inr ⟨g, cap, cur, hv, Nat.le_trans hb hg, r⟩

theorem LInv.start {W w w1 w2 : World} {n : Nat} {ai : Option Addr} {t0 t1 : Value} {bs : List Int} {vals : Array Value} {g : Nat} (hE1 : Env w w1 t0.ownBlock vals) (ht0 : OwnT W w t0 bs)
    (hown1 : w1.ownsRow W.heap.size 5 1 t1 (bs.length + 1) (bs.map (Value.int .u8) ++ [.int .u8 91])) (hnn : ¬ t1 = .slice none 0 0) (hloc : t1.ownBlock = t0.ownBlock ∨ ∃ k, t1.ownBlock = some k ∧ w.heap.size + 2 ≤ k)
    (hrow2 : w2.ownsRow w1.heap.size 20 1 (.slice (some ⟨g, 0, none⟩) 0 0) 0 []) (hg2 : w1.grownBy w2 none) :
    LInv W w (w2.alloc (.cells #[.slice (some ⟨g, 0, none⟩) 0 0] 38)) n 0 ai t0 t1 bs vals w2.heap.size g 0 [] := by
  have hrow0 : ∀ j, t0.ownBlock = some j → j < w.heap.size := fun j hj => (ht0.row j hj).2
  have hs := hE1.size
  have ho : OwnT W w1 t1 (bs ++ [91]) := by
    show w1.ownsRow _ _ _ _ _ _
    rw [List.length_append, List.map_append]
    exact hown1
  refine ⟨(hE1.next hg2 (by simp) hrow0).next (World.grownBy_alloc _ _ none) (by simp) hrow0, ?_, hnn, hloc, heap_alloc_new _ _, Nat.le_trans hs hg2.size, (ownsRow_base hrow2 hs).alloc _, fun j hj => by omega⟩
  have := (ho.keep0 hg2).keep0 (World.grownBy_alloc w2 (.cells #[.slice (some ⟨g, 0, none⟩) 0 0] 38) none)
  simpa [cat] using this
end Go.Proofs.Qxb6614908aFmt.Dep
