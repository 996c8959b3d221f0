import Derived.Test.Qxb6614908aFmtDepBuild3
namespace Go.Proofs.Qxb6614908aFmt.Dep
open Go.ChangeShapes Go.WideShapes Go.ChangeAt Go.RowKit

/-- The key of field j, as a map's key reads. -/
def kl (W : World) (af : Option Addr) (j : Nat) : Lit := .string (keyD W af j).data.toList
/-- What stays in the text of field i: nothing, if a later field has the same key. -/
def ft (W : World) (n : Nat) (af : Option Addr) (lf i : Nat) : List Int := if lastI (keyD W af) (keyD W af i) lf = i then txt W n (valD W af i) else []

theorem kl_inj {W : World} {af : Option Addr} {i j : Nat} (h : kl W af i = kl W af j) : keyD W af i = keyD W af j := by
  unfold kl at h
  injection h with h
  have h2 : (keyD W af i).data = (keyD W af j).data := Array.ext' h
  cases hx : keyD W af i
  cases hy : keyD W af j
  rw [hx, hy] at h2
  simp at h2
  rw [h2]
theorem kl_key (W : World) (af : Option Addr) (j : Nat) : WideAt.IsKeyLit (kl W af j) := by
  unfold kl; trivial

theorem map_not_cells {w : World} {b : Nat} {H : Type} {P : Program} {k : TypeId} {R : Value → Option (DataW H × List MemPlace)} {n : Nat} {D : DataW H} (h : w.ownsMap P k R b n D) {c : Array Value} {t : TypeId} {f : Nat × Nat} (hc : w.heap[b]? = some (.cells c t f)) : False := by
  obtain ⟨es, clock, hb, _⟩ := h
  rw [hb] at hc
  cases hc

structure OInv (W w wr : World) (n q : Nat) (af : Option Addr) (t0 t : Value) (S : List Int) (vals : Array Value) (Bo bm : Nat) (M : DataW Value) : Prop where
  env : Env w wr t0.ownBlock vals
  own : OwnT W wr t S
  nn : ¬ t = .slice none 0 0
  loc : t.ownBlock = t0.ownBlock ∨ ∃ k, t.ownBlock = some k ∧ w.heap.size + 2 ≤ k
  obox : wr.heap[Bo]? = some (.cells #[.map (some bm)] 43 (0, 0))
  oge : w.heap.size + 2 ≤ Bo
  mge : w.heap.size + 2 ≤ bm
  omap : wr.ownsMap Tryf.prog 9 tokR bm q M
  isMap : Maps.IsMap M
  keys : ∀ j, j < q → Maps.has M (kl W af j) = true
  val : ∀ k, Maps.has M k = true → ∃ j x, j < q ∧ k = kl W af j ∧ lastI (keyD W af) (keyD W af j) q = j ∧ (∀ z, M.atKey k z = .held x) ∧ ValD wr (fun b => w.heap.size + 2 ≤ b ∧ b ≠ bm) n x (dep W n (valD W af j))

/-- A step that leaves the object's own memory, its values and the text alone. -/
theorem OInv.turn {W w wr w2 : World} {n q : Nat} {af : Option Addr} {t0 t : Value} {S bs : List Int} {vals : Array Value} {Bo bm : Nat} {M : DataW Value} (h : OInv W w wr n q af t0 t S vals Bo bm M) (ht0 : OwnT W w t0 bs) {row : Option Nat} (hg : wr.grownBy w2 row)
    (hr : ∀ j, row = some j → w.heap.size + 2 ≤ j) (h1 : row ≠ some Bo) (h2 : row ≠ some bm) (h3 : t.ownBlock = none ∨ t.ownBlock ≠ row) (hv : ∀ x m D, ValD wr (fun b => w.heap.size + 2 ≤ b ∧ b ≠ bm) m x D → ValD w2 (fun b => w.heap.size + 2 ≤ b ∧ b ≠ bm) m x D) :
    OInv W w w2 n q af t0 t S vals Bo bm M := by
  refine ⟨h.env.next hg (fun j hj => Or.inl (hr j hj)) (fun j hj => (ht0.row j hj).2), h.own.kept hg h3, h.nn, h.loc, (hg.block Bo (lt_of_block h.obox) (fun e => h1 e.symm)).trans h.obox, h.oge, h.mge, h.omap.kept hg (fun e => h2 e.symm), h.isMap, h.keys, fun k hk => ?_⟩
  obtain ⟨j, x, a, b, c, d, e⟩ := h.val k hk
  exact ⟨j, x, a, b, c, d, hv _ _ _ e⟩

/-- Nothing old has turned. -/
theorem OInv.grown0 {W w wr w2 : World} {n q : Nat} {af : Option Addr} {t0 t : Value} {S bs : List Int} {vals : Array Value} {Bo bm : Nat} {M : DataW Value} (h : OInv W w wr n q af t0 t S vals Bo bm M) (ht0 : OwnT W w t0 bs) (hg : wr.grownBy w2 none) :
    OInv W w w2 n q af t0 t S vals Bo bm M :=
  h.turn ht0 hg (by simp) (by simp) (by simp) (by cases t.ownBlock <;> simp) (fun _ _ _ hv => hv.grown hg)

/-- Another map of the call's own is written. -/
theorem OInv.other {W w wr w2 : World} {n : Nat} {af : Option Addr} {t0 t : Value} {S bs : List Int} {vals : Array Value} {Bo bm Lm : Nat} {M : DataW Value} (h : OInv W w wr n 0 af t0 t S vals Bo bm M) (ht0 : OwnT W w t0 bs) (hg : wr.grownBy w2 (some Lm))
    {m : Nat} {L : DataW Unit} (hL : wr.ownsMap Tryf.prog 9 (plainElem Tryf.prog 3) Lm m L) (hm : bm < Lm) : OInv W w w2 n 0 af t0 t S vals Bo bm M := by
  have hge := h.mge
  refine ⟨h.env.next hg (fun j hj => by cases hj; left; omega) (fun j hj => (ht0.row j hj).2), h.own.kept hg (Or.inr fun e => ?_), h.nn, h.loc, (hg.block Bo (lt_of_block h.obox) (fun e => ?_)).trans h.obox, h.oge, h.mge, h.omap.kept hg (by simp; omega), h.isMap, h.keys, fun k hk => ?_⟩
  · obtain ⟨cur, hc⟩ := row_block h.own e
    exact map_not_cells hL hc
  · cases e
    exact map_not_cells hL h.obox
  · obtain ⟨j, x, a, _⟩ := h.val k hk
    omega

/-- The middle of a round: field q's value is built (v, t2) and lies in the round's box. -/
theorem OInv.mid {W w wr w2 : World} {n q : Nat} {af : Option Addr} {t0 t t2 : Value} {S bs : List Int} {vals : Array Value} {Bo bm : Nat} {M : DataW Value} {v : Value} {d : Dv} (h : OInv W w wr n q af t0 t S vals Bo bm M) (ht0 : OwnT W w t0 bs)
    (hM : Made W (wr.alloc (.cells #[.nilIface] 29)) w2 n d t t2 S v) :
    w2.heap[wr.heap.size]? = some (.cells #[.nilIface] 29 (0, 0)) ∧ OInv W w (w2.setCell ⟨wr.heap.size, 0, none⟩ v) n q af t0 t2 (S ++ txt W n d) vals Bo bm M ∧
      (w2.setCell ⟨wr.heap.size, 0, none⟩ v).heap[wr.heap.size]? = some (.cells #[v] 29 (0, 0)) ∧ ValD (w2.setCell ⟨wr.heap.size, 0, none⟩ v) (fun b => w.heap.size + 2 ≤ b ∧ b ≠ bm) n v (dep W n d) := by
  have h1 : wr.grownBy (wr.alloc (.cells #[.nilIface] 29)) none := World.grownBy_alloc _ _ _
  have hsz : (wr.alloc (.cells #[.nilIface] 29)).heap.size = wr.heap.size + 1 := by simp
  have hs := h.env.size
  have ht1 : OwnT W (wr.alloc (.cells #[.nilIface] 29)) t S := h.own.keep0 h1
  have hI1 := h.grown0 ht0 h1
  have hx : w2.heap[wr.heap.size]? = some (.cells #[.nilIface] 29 (0, 0)) := by
    refine (hM.grown.block _ (by simp) (fun e => ?_)).trans (heap_alloc_new wr _)
    have := (h.own.row _ e.symm).2
    omega
  have hset := grown_set w2 ⟨wr.heap.size, 0, none⟩ v
  have hrow0 : ∀ j, t0.ownBlock = some j → j < w.heap.size := fun j hj => (ht0.row j hj).2
  have nv2 : NotVal w2 (some wr.heap.size) := notVal_of hx (by decide)
  have hbm : bm < wr.heap.size := h.omap.lt
  have hBo : Bo < wr.heap.size := lt_of_block h.obox
  have hBt : some Bo ≠ t.ownBlock := fun e => by obtain ⟨cur, hc⟩ := row_block ht1 e.symm; exact apart_of_types hI1.obox hc (by decide) rfl
  have hmt : some bm ≠ t.ownBlock := fun e => by obtain ⟨cur, hc⟩ := row_block ht1 e.symm; exact map_not_cells hI1.omap hc
  have hI2 : OInv W w w2 n q af t0 t2 (S ++ txt W n d) vals Bo bm M := by
    refine ⟨hI1.env.next hM.grown (fun j hj => ?_) hrow0, hM.own, hM.nn, ?_, (hM.grown.block Bo (lt_of_block hI1.obox) hBt).trans hI1.obox, h.oge, h.mge, hI1.omap.kept hM.grown hmt, h.isMap, h.keys, fun k hk => ?_⟩
    · rcases h.loc with e | ⟨k, e, hk⟩
      · right; rw [← e]; exact hj
      · rw [e] at hj; cases hj; left; exact hk
    · rcases hM.loc with e | ⟨k, e, hk⟩
      · rw [e]; exact h.loc
      · right; exact ⟨k, e, by rw [hsz] at hk; omega⟩
    · obtain ⟨j, x, a, b, c, dd, e⟩ := hI1.val k hk
      exact ⟨j, x, a, b, c, dd, e.turn hM.grown ht1.notVal⟩
  refine ⟨hx, hI2.turn ht0 hset (fun j hj => by cases hj; exact hs) (by simp; omega) (by simp; omega) (Or.inr fun e => ?_) (fun _ _ _ hv => hv.turn hset nv2), one_setCell hx, ?_⟩
  · obtain ⟨cur, hc⟩ := row_block hI2.own e
    exact apart_of_types hx hc (by decide) rfl
  · exact (hM.val.turn hset nv2).mono (fun b _ hb => by rw [hsz] at hb; exact ⟨by omega, by omega⟩)

theorem lastI_succ (K : Nat → ByteArray) (c : ByteArray) (q : Nat) : lastI K c (q + 1) = if K q = c then q else lastI K c q := rfl

/-- The object takes the value at field q's key. -/
theorem OInv.set {W w wr w4 : World} {n q : Nat} {af : Option Addr} {t0 t : Value} {S bs : List Int} {vals : Array Value} {Bo bm : Nat} {M : DataW Value} {v : Value} (h : OInv W w wr n q af t0 t S vals Bo bm M) (ht0 : OwnT W w t0 bs)
    (hval : ValD wr (fun b => w.heap.size + 2 ≤ b ∧ b ≠ bm) n v (dep W n (valD W af q))) (hg : wr.grownBy w4 (some bm)) (hown : w4.ownsMap Tryf.prog 9 tokR bm (q + 1) (M.put (kl W af q) (.held v))) :
    OInv W w w4 n (q + 1) af t0 t S vals Bo bm (M.put (kl W af q) (.held v)) := by
  have hk := kl_key W af q
  refine ⟨h.env.next hg (fun j hj => by cases hj; left; exact h.mge) (fun j hj => (ht0.row j hj).2), h.own.kept hg (Or.inr fun e => ?_), h.nn, h.loc, (hg.block Bo (lt_of_block h.obox) (fun e => ?_)).trans h.obox, h.oge, h.mge, hown, h.isMap.put _ _, fun j hj => ?_, fun k hkk => ?_⟩
  · obtain ⟨cur, hc⟩ := row_block h.own e
    exact map_not_cells h.omap hc
  · cases e
    exact map_not_cells h.omap h.obox
  · by_cases e : kl W af j = kl W af q
    · rw [e]; exact Maps.has_put_same h.isMap hk _
    · rw [Maps.has_put_other e]
      exact h.keys j (by
        have : j ≠ q := fun e2 => e (by rw [e2])
        omega)
  · by_cases e : k = kl W af q
    · subst e
      exact ⟨q, v, by omega, rfl, by rw [lastI_succ, if_pos rfl], fun z => Maps.atKey_put_same h.isMap hk _ z, hval.beside hg (fun b hb => hb.2)⟩
    · rw [Maps.has_put_other e] at hkk
      obtain ⟨j, x, a, b, c, d, e2⟩ := h.val k hkk
      refine ⟨j, x, by omega, b, ?_, fun z => by rw [Maps.atKey_put_other e]; exact d z, e2.beside hg (fun b hb => hb.2)⟩
      rw [lastI_succ, if_neg]
      · exact c
      · intro e3
        apply e
        rw [b]
        unfold kl
        rw [e3]

/-- 't = t[:mark]'. -/
theorem OInv.cut {W w wr : World} {n q : Nat} {af : Option Addr} {t0 : Value} {S S2 : List Int} {vals : Array Value} {Bo bm : Nat} {M : DataW Value} {g m cap : Nat} (h : OInv W w wr n q af t0 (.slice (some ⟨g, 0, none⟩) m cap) (S ++ S2) vals Bo bm M) :
    OInv W w wr n q af t0 (.slice (some ⟨g, 0, none⟩) S.length cap) S vals Bo bm M := by
  refine ⟨h.env, ?_, by simp, h.loc, h.obox, h.oge, h.mge, h.omap, h.isMap, h.keys, h.val⟩
  obtain ⟨h1, h2⟩ := h.own
  refine ⟨by simp, Or.inr ?_⟩
  rcases h2 with ⟨h2, _⟩ | ⟨g', cap', cur, hv, hg, hh, hn, hc, hs, ht⟩
  · cases h2
  · injection hv with e1 e2 e3
    injection e1 with e1
    injection e1 with e1
    subst e1
    subst e3
    refine ⟨g, cap, cur, rfl, hg, hh, by simp at hn; omega, hc, hs, ?_⟩
    have := congrArg (List.take S.length) ht
    rw [List.take_take] at this
    simp at this ⊢
    exact this

/-- The object is whole. -/
theorem OInv.value {W w wr : World} {n q : Nat} {af : Option Addr} {t0 t : Value} {S : List Int} {vals : Array Value} {Bo bm : Nat} {M : DataW Value} (h : OInv W w wr n q af t0 t S vals Bo bm M) :
    ValD wr (fun b => w.heap.size + 2 ≤ b) (n + 1) (.iface 41 (.map (some bm))) (mx (fun i => if lastI (keyD W af) (keyD W af i) q = i then dep W n (valD W af i) else 0) q + 1) := by
  refine Or.inr (Or.inr (Or.inr (Or.inr ⟨bm, q, M, fun k => match k with | .string l => dep W n (valD W af (lastI (keyD W af) ⟨l.toArray⟩ q)) | _ => 0, rfl, h.mge, h.omap, fun k hk => ?_, by omega, ?_⟩)))
  · obtain ⟨j, x, a, b, c, d, e⟩ := h.val k hk
    subst b
    refine ⟨x, d, ?_, ?_⟩
    · show ValD _ _ _ _ (dep W n (valD W af (lastI (keyD W af) (keyD W af j) q)))
      rw [c]
      exact e.mono (fun b _ hb => hb.1)
    · show dep W n (valD W af (lastI (keyD W af) (keyD W af j) q)) + 1 ≤ _
      rw [c]
      have := le_mx (fun i => if lastI (keyD W af) (keyD W af i) q = i then dep W n (valD W af i) else 0) q j a
      rw [if_pos c] at this
      omega
  · rcases mx_is (fun i => if lastI (keyD W af) (keyD W af i) q = i then dep W n (valD W af i) else 0) q with e | ⟨i, hi, e⟩
    · left; omega
    · by_cases hl : lastI (keyD W af) (keyD W af i) q = i
      · right
        refine ⟨kl W af i, h.keys i hi, ?_⟩
        show dep W n (valD W af (lastI (keyD W af) (keyD W af i) q)) + 1 = _
        rw [if_pos hl] at e
        rw [hl, e]
      · left
        rw [if_neg hl] at e
        omega

theorem OInv.start {W w w1 w2 : World} {n : Nat} {af : Option Addr} {t0 t1 : Value} {bs : List Int} {vals : Array Value} {bm : Nat} (hE1 : Env w w1 t0.ownBlock vals) (ht0 : OwnT W w t0 bs)
    (hown1 : w1.ownsRow W.heap.size 5 1 t1 (bs.length + 1) (bs.map (Value.int .u8) ++ [.int .u8 123])) (hnn : ¬ t1 = .slice none 0 0) (hloc : t1.ownBlock = t0.ownBlock ∨ ∃ k, t1.ownBlock = some k ∧ w.heap.size + 2 ≤ k)
    (hbm : w1.heap.size ≤ bm) (hm2 : w2.ownsMap Tryf.prog 9 tokR bm 0 (.map [])) (hg2 : w1.grownBy w2 none) :
    OInv W w (w2.alloc (.cells #[.map (some bm)] 43)) n 0 af t0 t1 (bs ++ [123]) vals w2.heap.size bm (.map []) := by
  have hrow0 : ∀ j, t0.ownBlock = some j → j < w.heap.size := fun j hj => (ht0.row j hj).2
  have hs := hE1.size
  have ho : OwnT W w1 t1 (bs ++ [123]) := by
    show w1.ownsRow _ _ _ _ _ _
    rw [List.length_append, List.map_append]
    exact hown1
  refine ⟨(hE1.next hg2 (by simp) hrow0).next (World.grownBy_alloc _ _ none) (by simp) hrow0, (ho.keep0 hg2).keep0 (World.grownBy_alloc _ _ none), hnn, hloc, heap_alloc_new _ _, Nat.le_trans hs hg2.size, Nat.le_trans hs hbm, hm2.alloc _, Maps.isMap_empty, fun j hj => by omega, fun k hk => ?_⟩
  cases hk

/-- The map 'last' holds, for each key, the last index so far. -/
structure LastOk (W : World) (af : Option Addr) (q : Nat) (L : DataW Unit) : Prop where
  isMap : Maps.IsMap L
  at_ : ∀ c : ByteArray, L.atKey (.string c.data.toList) (.lit (.int .i64 0)) = .lit (.int .i64 (lastI (keyD W af) c q))
theorem LastOk.zero (W : World) (af : Option Addr) : LastOk W af 0 (.map []) := ⟨Maps.isMap_empty, fun _ => rfl⟩
theorem LastOk.step {W : World} {af : Option Addr} {q : Nat} {L : DataW Unit} (h : LastOk W af q L) : LastOk W af (q + 1) (L.put (kl W af q) (.lit (.int .i64 q))) := by
  refine ⟨h.isMap.put _ _, fun c => ?_⟩
  by_cases e : keyD W af q = c
  · subst e
    rw [lastI_succ, if_pos rfl]
    exact Maps.atKey_put_same h.isMap (kl_key W af q) _ _
  · rw [lastI_succ, if_neg e, ← h.at_ c]
    refine Maps.atKey_put_other (fun e2 => e ?_) _ _
    unfold kl at e2
    injection e2 with e2
    have h2 : c.data = (keyD W af q).data := Array.ext' e2
    cases hx : keyD W af q
    cases hy : c
    rw [hx, hy] at h2
    simp at h2
    rw [h2]

theorem bnd_obj (W : World) (n : Nat) (k : Int) (s : ByteArray) (f : Bool) (ai : Option Addr) (li ci : Nat) (af : Option Addr) (lf cf : Nat) (q : Nat) (bs : List Int) (hq : q < lf) :
    (bs ++ [123] ++ cat (ft W n af lf) q).length + 2 * siz W n (valD W af q) ≤ bs.length + 2 * siz W (n + 1) ⟨k, s, f, ai, li, ci, af, lf, cf⟩ ∧ siz W n (valD W af q) ≤ siz W (n + 1) ⟨k, s, f, ai, li, ci, af, lf, cf⟩ := by
  have h1 := length_cat (f := ft W n af lf) (g := fun i => (keyD W af i).size + siz W n (valD W af i)) (fun i => by
    have := length_txt W n (valD W af i)
    unfold ft
    split
    · omega
    · simp) q
  have h2 := sum_le (fun i => (keyD W af i).size + siz W n (valD W af i)) (show q + 1 ≤ lf from hq)
  simp only [sum] at h2
  simp only [List.length_append, List.length_cons, List.length_nil, siz]
  omega
theorem bnd_obj_end (W : World) (n : Nat) (k : Int) (s : ByteArray) (f : Bool) (ai : Option Addr) (li ci : Nat) (af : Option Addr) (lf cf : Nat) (bs : List Int) :
    (bs ++ [123] ++ cat (ft W n af lf) lf).length ≤ bs.length + 2 * siz W (n + 1) ⟨k, s, f, ai, li, ci, af, lf, cf⟩ + 1 := by
  have h1 := length_cat (f := ft W n af lf) (g := fun i => (keyD W af i).size + siz W n (valD W af i)) (fun i => by
    have := length_txt W n (valD W af i)
    unfold ft
    split
    · omega
    · simp) lf
  simp only [List.length_append, List.length_cons, List.length_nil, siz]
  omega

theorem row_cap {w : World} {base : Nat} {e : TypeId} {size : Nat} {g m n cap : Nat} {xs : List Value} (h : w.ownsRow base e size (.slice (some ⟨g, 0, none⟩) m cap) n xs) : n ≤ cap := by
  rcases h.2 with ⟨h1, _⟩ | ⟨g', cap', cur, h1, _, _, h2, _⟩
  · cases h1
  · injection h1 with _ _ h3
    omega
theorem OInv.last {W w wr w2 : World} {n q lf : Nat} {af : Option Addr} {t0 t t2 : Value} {S : List Int} {vals : Array Value} {Bo bm Lm : Nat} {M : DataW Value} {v : Value} {d : Dv} {L : DataW Unit} (h : OInv W w wr n q af t0 t S vals Bo bm M)
    (hM : Made W (wr.alloc (.cells #[.nilIface] 29)) w2 n d t t2 S v) (hLm : wr.ownsMap Tryf.prog 9 (plainElem Tryf.prog 3) Lm lf L) :
    (w2.setCell ⟨wr.heap.size, 0, none⟩ v).ownsMap Tryf.prog 9 (plainElem Tryf.prog 3) Lm lf L := by
  have h1 : wr.grownBy (wr.alloc (.cells #[.nilIface] 29)) none := World.grownBy_alloc _ _ _
  have ht1 : OwnT W (wr.alloc (.cells #[.nilIface] 29)) t S := h.own.keep0 h1
  have hl1 := hLm.alloc (.cells #[.nilIface] 29)
  have hlt := hLm.lt
  refine (hl1.kept hM.grown (fun e => ?_)).kept (grown_set w2 ⟨wr.heap.size, 0, none⟩ v) (by simp; omega)
  obtain ⟨cur, hc⟩ := row_block ht1 e.symm
  exact map_not_cells hl1 hc

theorem cat_yes {W : World} {n : Nat} {af : Option Addr} {q p : Nat} (bs : List Int) (h : lastI (keyD W af) (keyD W af p) q = p) : bs ++ [123] ++ cat (ft W n af q) (p + 1) = bs ++ [123] ++ cat (ft W n af q) p ++ txt W n (valD W af p) := by
  show bs ++ [123] ++ (cat (ft W n af q) p ++ ft W n af q p) = _
  unfold ft
  rw [if_pos h, ← List.append_assoc]
theorem cat_no {W : World} {n : Nat} {af : Option Addr} {q p : Nat} (bs : List Int) (h : ¬ lastI (keyD W af) (keyD W af p) q = p) : bs ++ [123] ++ cat (ft W n af q) (p + 1) = bs ++ [123] ++ cat (ft W n af q) p := by
  show bs ++ [123] ++ (cat (ft W n af q) p ++ ft W n af q p) = _
  have e : ft W n af q p = [] := by unfold ft; rw [if_neg h]
  rw [e, List.append_nil]
end Go.Proofs.Qxb6614908aFmt.Dep
