import Derived.Test.Qxb6614908aFmtDepPlain
import Derived.Test.Qxb6614908aFmtDepZZ
namespace Go.Proofs.Qxb6614908aFmt.Dep
open Go.ChangeShapes Go.WideShapes Go.ChangeAt Go.RowKit

/-- THE BYTES bs LIE IN THE SLICE t. -/
def OwnT (W w : World) (t : Value) (bs : List Int) : Prop := w.ownsRow W.heap.size 5 1 t bs.length (bs.map (Value.int .u8))

/-- What kind of value v is, by the description's kind. -/
def Cls (k : Int) (v : Value) : Prop := ((k = 3 ∨ k = 6) ∧ ∃ y, v = .iface 36 y) ∨ ((k = 4 ∨ k = 7) ∧ ∃ y, v = .iface 41 y) ∨ ((k ≠ 3 ∧ k ≠ 6 ∧ k ≠ 4 ∧ k ≠ 7) ∧ Scal v)

/-- What 'build' has made: the value v, and t' for t. -/
structure Made (W w w' : World) (n : Nat) (d : Dv) (t t' : Value) (bs : List Int) (v : Value) : Prop where
  own : OwnT W w' t' (bs ++ txt W n d)
  grown : w.grownBy w' t.ownBlock
  loc : t'.ownBlock = t.ownBlock ∨ ∃ k, t'.ownBlock = some k ∧ w.heap.size ≤ k
  nn : ¬ t' = .slice none 0 0
  ifv : IfV v
  val : ValD w' (fun b => w.heap.size ≤ b) n v (dep W n d)
  cls : Cls d.k v
def BuildOk (W w : World) (n : Nat) (d : Dv) (t : Value) (bs : List Int) (e : Ending) (w' : World) : Prop :=
  ∃ v t', e = .returned (.tuple #[.agg #[v], t']) ∧ Made W w w' n d t t' bs v

/-- The function's own two boxes (the parameter's, the first result's), and what has turned since it began. -/
structure Env (w wr : World) (row : Option Nat) (vals : Array Value) : Prop where
  box : wr.heap[w.heap.size]? = some (.cells vals 26 (0, 0))
  res : wr.heap[w.heap.size + 1]? = some (.cells #[.nilIface] 29 (0, 0))
  grown : w.grownBy wr row

theorem Env.start (w : World) (row : Option Nat) (vals : Array Value) : Env w ((w.alloc (.cells vals 26)).alloc (.cells #[.nilIface] 29)) row vals :=
  ⟨((World.grownBy_alloc _ _ none).block _ (by simp) (by simp)).trans (heap_alloc_new w _), heap_new1 w _ _, (grown_trans (World.grownBy_alloc _ _ none) (World.grownBy_alloc _ _ none)).but row⟩
theorem Env.next {w wr w2 : World} {row r2 : Option Nat} {vals : Array Value} (h : Env w wr row vals) (hg : wr.grownBy w2 r2) (hr : ∀ j, r2 = some j → w.heap.size + 2 ≤ j ∨ row = some j) (hrow : ∀ j, row = some j → j < w.heap.size) : Env w w2 row vals := by
  refine ⟨(hg.block _ (lt_of_block h.box) (fun e => ?_)).trans h.box, (hg.block _ (lt_of_block h.res) (fun e => ?_)).trans h.res, h.grown.andThen hg (fun j hj => ?_)⟩
  · rcases hr _ e.symm with h1 | h1
    · omega
    · have := hrow _ h1; omega
  · rcases hr _ e.symm with h1 | h1
    · omega
    · have := hrow _ h1; omega
  · rcases hr _ hj with h1 | h1
    · left; omega
    · right; exact h1
theorem Env.size {w wr : World} {row : Option Nat} {vals : Array Value} (h : Env w wr row vals) : w.heap.size + 2 ≤ wr.heap.size := lt_of_block h.res
theorem Env.cell {w wr : World} {row : Option Nat} {vals : Array Value} (h : Env w wr row vals) (i : Nat) {v : Value} (hv : vals[i]? = some v) : wr.cell? ⟨w.heap.size, i, none⟩ = some v := by
  simp [World.cell?, h.box, hv]
theorem OwnT.row {W w : World} {t : Value} {bs : List Int} (h : OwnT W w t bs) : ∀ j, t.ownBlock = some j → W.heap.size ≤ j ∧ j < w.heap.size := fun j hj => World.ownsRow.lt h j hj
theorem OwnT.kept {W w w' : World} {t : Value} {bs : List Int} {row : Option Nat} (h : OwnT W w t bs) (hg : w.grownBy w' row) (hne : t.ownBlock = none ∨ t.ownBlock ≠ row) : OwnT W w' t bs := World.ownsRow.kept h hg hne
theorem OwnT.keep0 {W w w' : World} {t : Value} {bs : List Int} (h : OwnT W w t bs) (hg : w.grownBy w' none) : OwnT W w' t bs := h.kept hg (by cases t.ownBlock <;> simp)

theorem Tryf.info5 : (Tryf.prog.info? 5).map (fun i => (i.zero, i.size, i.bytes)) = some (some (.int .u8 0), 1, 1) := by kernel_rfl
theorem bytes_one (l : List Int) : ∀ u ∈ l.map (Value.int .u8), u.oneCell' = true := by
  intro u hu
  obtain ⟨x, _, rfl⟩ := List.mem_map.1 hu
  rfl

/-- The last steps: the result's box is written, the frame is shut. -/
theorem made_end {W w w2 : World} {n : Nat} {d : Dv} {t t' : Value} {bs X : List Int} {v : Value} {D : Nat} {vals : Array Value} (htx : txt W n d = X) (hdp : dep W n d = D) (hE : Env w w2 t.ownBlock vals) (hT : OwnT W w t bs)
    (hown : w2.ownsRow W.heap.size 5 1 t' (bs.length + X.length) (bs.map (Value.int .u8) ++ X.map (Value.int .u8))) (hloc : t'.ownBlock = t.ownBlock ∨ ∃ k, t'.ownBlock = some k ∧ w.heap.size + 2 ≤ k) (hnn : ¬ t' = .slice none 0 0) (hv : IfV v)
    (hval : ValD w2 (fun b => w.heap.size + 2 ≤ b) n v D) (hc : Cls d.k v) :
    Made W w (w2.setCell ⟨w.heap.size + 1, 0, none⟩ v) n d t t' bs v := by
  subst htx
  subst hdp
  have hg := grown_set w2 ⟨w.heap.size + 1, 0, none⟩ v
  refine ⟨?_, hE.grown.andThen hg (fun j hj => by cases hj; left; show w.heap.size ≤ w.heap.size + 1; omega), ?_, hnn, hv, ?_, hc⟩
  · have h2 : w2.ownsRow W.heap.size 5 1 t' (bs ++ txt W n d).length ((bs ++ txt W n d).map (Value.int .u8)) := by
      rw [List.length_append, List.map_append]; exact hown
    refine World.ownsRow.kept h2 hg (Or.inr ?_)
    rcases hloc with h | ⟨k, h, hk⟩
    · rw [h]
      intro e
      have := (hT.row _ e).2
      dsimp only at this
      omega
    · rw [h]
      simp
      omega
  · rcases hloc with h | ⟨k, h, hk⟩
    · exact Or.inl h
    · exact Or.inr ⟨k, h, by omega⟩
  · refine ValD.keep (fun b o hq hb _ => ⟨(hg.block b (lt_of_block hb) ?_).trans hb, by omega⟩) n v _ hval
    simp
    omega

end Go.Proofs.Qxb6614908aFmt.Dep
