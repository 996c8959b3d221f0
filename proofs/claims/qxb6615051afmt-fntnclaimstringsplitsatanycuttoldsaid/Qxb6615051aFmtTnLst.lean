import Derived.Test.Qxb6615051aFmtTnStr
namespace Go.Proofs.Qxb6615051aFmt.Tn
open Go.ChangeShapes Go.WideShapes Go.ChangeAt Go.RowKit

/-- The entry of the code x lies at off o of block bk. -/
structure EntAt (w : World) (bk o : Nat) (x : ByteArray) : Prop where
  c0 : w.cell? ⟨bk, o, none⟩ = some (.int .u8 1)
  c1 : w.cell? ⟨bk, o + 1, none⟩ = some (.string x)
  c2 : w.cell? ⟨bk, o + 2, none⟩ = some (.int .u64 0)
  c3 : w.cell? ⟨bk, o + 3, none⟩ = some (.string ⟨#[]⟩)
def EntsAt (w : World) (bk o : Nat) (ts : List ByteArray) : Prop := ∀ j t, ts[j]? = some t → ∃ x : ByteArray, x.size ≤ 1048576 ∧ t = entT x ∧ EntAt w bk (o + j * 4) x

theorem info9 : (Tryf.prog.info? 9).map (fun i => (i.zero, i.size, i.bytes)) = some (some (.string ⟨#[]⟩), 1, 16) := by kernel_rfl
theorem make_texts (n : Nat) (h : n ≤ 1048576) : ∃ M : Array Value, M.size = n ∧ ∀ w : World, (Instr.makeSlice 22 (.int .i64 (n : Int)) (.int .i64 (n : Int))).run Tryf.prog w = .ok (.slice (some ⟨w.heap.size, 0, none⟩) n n) (w.alloc (.cells M 9)) := by
  obtain ⟨i0, hi, hz0, hz1, hz2⟩ := info_parts info9
  refine ⟨madeCells (Value.string ⟨#[]⟩).cells (n * 1), by rw [size_madeCells]; omega, fun w => ?_⟩
  have hr := run_make (P := Tryf.prog) w 22 9 i0 _ Tryf.underlying22 hi hz0 .i64 .i64 n n (by omega) (Int.le_refl _) (by rw [hz2]; omega) (by omega)
  simp only [Int.toNat_natCast] at hr
  rw [hz1] at hr
  exact hr

/-- The row of texts, q of them written. -/
structure Texts (wr : World) (tb q : Nat) (ts : List ByteArray) : Prop where
  lt : tb < wr.heap.size
  done : ∀ j t, ts[j]? = some t → j < q → wr.cell? ⟨tb, j, none⟩ = some (.string t)
  some : ∀ j, j < ts.length → ∃ v, wr.cell? ⟨tb, j, none⟩ = some v
  free : ∀ j, wr.frozen? ⟨tb, j, none⟩ = false

theorem EntAt.keep {B : Nat} {w w' : World} {bk o : Nat} {x : ByteArray} (h : EntAt w bk o x) (hb : Below B w w') (hbk : bk < B) : EntAt w' bk o x :=
  ⟨(hb.cell (p := ⟨bk, o, none⟩) hbk).trans h.c0, (hb.cell (p := ⟨bk, o + 1, none⟩) hbk).trans h.c1, (hb.cell (p := ⟨bk, o + 2, none⟩) hbk).trans h.c2, (hb.cell (p := ⟨bk, o + 3, none⟩) hbk).trans h.c3⟩
theorem EntsAt.keep {B : Nat} {w w' : World} {bk o : Nat} {ts : List ByteArray} (h : EntsAt w bk o ts) (hb : Below B w w') (hbk : bk < B) : EntsAt w' bk o ts := fun j t hj => by
  obtain ⟨x, h1, h2, h3⟩ := h j t hj
  exact ⟨x, h1, h2, h3.keep hb hbk⟩
theorem Texts.keep {wr w1 : World} {tb q : Nat} {ts : List ByteArray} (h : Texts wr tb q ts) (hb : Below wr.heap.size wr w1) : Texts w1 tb q ts :=
  ⟨Nat.lt_of_lt_of_le h.lt hb.size, fun j t hj hq => (hb.cell (p := ⟨tb, j, none⟩) h.lt).trans (h.done j t hj hq), fun j hj => by
    obtain ⟨v, hv⟩ := h.some j hj
    exact ⟨v, (hb.cell (p := ⟨tb, j, none⟩) h.lt).trans hv⟩, fun j => (hb.frozen (p := ⟨tb, j, none⟩) h.lt).trans (h.free j)⟩
theorem Texts.put {wr : World} {tb q : Nat} {ts : List ByteArray} {x : ByteArray} (h : Texts wr tb q ts) (hq : q < ts.length) (hx : ts[q] = entT x) : Texts (wr.setCell ⟨tb, q, none⟩ (.string (entT x))) tb (q + 1) ts := by
  obtain ⟨v0, hv0⟩ := h.some q hq
  refine ⟨by simpa [World.setCell] using h.lt, fun j t hj hjq => ?_, fun j hj => ?_, fun j => (World.frozen?_setCell _ _ _ _).trans (h.free j)⟩
  · by_cases e : j = q
    · subst e
      rw [List.getElem?_eq_getElem hq] at hj
      rw [World.cell?_setCell_same' _ _ _ (by rw [hv0]; rfl), ← hx, Option.some.inj hj]
    · have hne : (⟨tb, q, none⟩ : Addr) ≠ ⟨tb, j, none⟩ := by intro h2; injection h2 with _ h3; exact e h3.symm
      rw [World.cell?_setCell_other (h := hne)]
      exact h.done j t hj (by omega)
  · obtain ⟨v, hv⟩ := h.some j hj
    exact cell?_setCell_some hv
theorem cells_at {w : World} {b : Nat} {c : Array Value} {t : TypeId} (h : w.heap[b]? = some (.cells c t (0, 0))) (j : Nat) : w.cell? ⟨b, j, none⟩ = c[j]? := by simp [World.cell?, h]
theorem free_at {w : World} {b : Nat} {c : Array Value} {t : TypeId} (h : w.heap[b]? = some (.cells c t (0, 0))) (j : Nat) : w.frozen? ⟨b, j, none⟩ = false := by simp [World.frozen?, h]
theorem texts_new (w : World) (M : Array Value) (ts : List ByteArray) (hM : M.size = ts.length) : Texts (w.alloc (.cells M 9)) w.heap.size 0 ts := by
  have hh : (w.alloc (.cells M 9)).heap[w.heap.size]? = some (.cells M 9) := heap_alloc_new w _
  refine ⟨by simp, fun j t _ hj => absurd hj (Nat.not_lt_zero _), fun j hj => ⟨M[j]'(by omega), ?_⟩, fun j => ?_⟩
  · rw [cells_at hh]
    exact Array.getElem?_eq_getElem _
  · exact free_at hh j

set_option maxHeartbeats 1000000 in
theorem list_any (bk o cap : Nat) (ts : List ByteArray) (w : World) (hbk : bk < w.heap.size) (hn : ts.length ≤ 1048576) (hE : EntsAt w bk o ts)
    (hJ : (Lib.join (ts.map (·.data.toList)) [59]).length ≤ 140737488355328) :
    Calls Tryf.prog 23 #[.slice (some ⟨bk, o, none⟩) ts.length cap] w fun e w' => e = .returned (.string ⟨(Lib.join (ts.map (·.data.toList)) [59]).toArray⟩) ∧ Below w.heap.size w w' := by
  replace hE := hide hE
  replace hJ := hide hJ
  obtain ⟨M, hM, hmk⟩ := make_texts ts.length hn
  go_enter Tryf.func23, Tryf.ntmps23
  go_wp2_with fail
  go_loopw [11] (fun i wr => ∃ q : Nat, q ≤ ts.length ∧ i = .int .i64 q ∧ Hid (Below w.heap.size w wr) ∧ Hid (Texts wr w.heap.size q ts)) (fun i _ => ts.length - (intOf i).toNat)
  case atStart => exact ⟨0, Nat.zero_le _, rfl, (Below.refl _ _).alloc (Nat.le_refl _) _, texts_new w M ts hM⟩
  case round =>
    obtain ⟨q, hq, rfl, hb, hT⟩ := hrel
    by_cases hlt : q < ts.length
    · obtain ⟨x, hx, htx, hc⟩ := hE.out q ts[q] (List.getElem?_eq_getElem hlt)
      obtain ⟨c0, c1, c2, c3⟩ := hc.keep hb.out hbk
      replace htx := hide htx
      go_wp2_with fail
      refine (ent_any x _ hx).mono ?_
      rintro e w1 ⟨rfl, hb1⟩
      replace hb1 := below_step ((Below.refl wr.heap.size wr).alloc (Nat.le_refl _) _) (by simp) hb1
      have hT1 := hT.out.keep hb1
      obtain ⟨v0, hv0⟩ := hT1.some q hlt
      have hf0 := hT1.free q
      have hT2 := hide (hT1.put hlt htx.out)
      have hb2 := hide ((hb.out.trans (hb1.mono hb.out.size)).setCell (p := ⟨w.heap.size, q, none⟩) (Nat.le_refl _) (.string (entT x)))
      replace hb1 := hide hb1
      replace hT1 := hide hT1
      go_wp2_with fail
      go_roundw
      case rel => exact ⟨q + 1, by omega, by go_num, hb2, hT2⟩
      case measure => simp [intOf]; omega
    · obtain rfl : q = ts.length := by omega
      go_wp2_with fail
      refine (Tryf.strings_Join w.heap.size 0 ts.length ts ⟨#[59]⟩ wr (fun j t ht => by rw [Nat.zero_add]; exact hT.out.done j t ht (by have := (List.getElem?_eq_some_iff.mp ht).1; exact this)) hT.out.lt (by omega) (Nat.le_refl _) hJ.out).mono ?_
      rintro e w1 ⟨rfl, hb1⟩
      go_wp2_with fail
      go_ret
      exact ⟨rfl, hb.out.trans (hb1.mono hb.out.size)⟩
end Go.Proofs.Qxb6615051aFmt.Tn
