import Derived.Test.Qxb6614908aFmtDepDoc
import Derived.Deep.Slices
namespace Go.Proofs.Qxb6614908aFmt.Dep
open Go.ChangeShapes Go.WideShapes Go.ChangeAt Go.RowKit

theorem cells33 : Tryf.prog.cellsOf 26 = 5 := by kernel_rfl
theorem cells29 : Tryf.prog.cellsOf 22 = 1 := by kernel_rfl
theorem cells9 : Tryf.prog.cellsOf 9 = 1 := by kernel_rfl
theorem cells4 : Tryf.prog.cellsOf 4 = 1 := by kernel_rfl
theorem cells30 : Tryf.prog.cellsOf 23 = 1 := by kernel_rfl
theorem cells31 : Tryf.prog.cellsOf 24 = 1 := by kernel_rfl
theorem cells44 : Tryf.prog.cellsOf 49 = 6 := by kernel_rfl
theorem DocOk.succ {W : World} : ∀ (n : Nat) (d : Dv), DocOk W n d → DocOk W (n + 1) d
  | 0, _, h => h.elim
  | n + 1, d, ⟨h1, h2, h3, h4, h5, hi, hf⟩ => by
    refine ⟨h1, h2, h3, h4, h5, fun i hlt => ?_, fun i hlt => ?_⟩
    · obtain ⟨b, o, e, hb, hl, hok⟩ := hi i hlt
      exact ⟨b, o, e, hb, hl, DocOk.succ n _ hok⟩
    · obtain ⟨b, o, e, hb, hk, hs, hl, hok⟩ := hf i hlt
      exact ⟨b, o, e, hb, hk, hs, hl, DocOk.succ n _ hok⟩
theorem DocOk.le {W : World} {n m : Nat} {d : Dv} (h : DocOk W n d) (hm : n ≤ m) : DocOk W m d := by
  induction m with
  | zero => obtain rfl : n = 0 := by omega
            exact h
  | succ m ih =>
    by_cases e : n = m + 1
    · subst e; exact h
    · exact DocOk.succ m d (ih (by omega))

theorem docAt_of_lies {W : World} {b o : Nat} {d : Dv} (h : Lies W b o d) : docAt W b o = d := by
  obtain ⟨k, s, f, ai, li, ci, af, lf, cf⟩ := d
  simp [docAt, cellAt, h.c0, h.c1, h.c2, h.c3, h.c4, intOf, toS, toB, slA, slL, slC]

theorem lies_of_cells {W : World} {b o : Nat} {d : Dv} (h : ∀ j, j < 5 → W.cell? ⟨b, o + j, none⟩ = d.vals.toList[j]?) : Lies W b o d :=
  ⟨by simpa [Dv.vals] using h 0 (by omega), by simpa [Dv.vals] using h 1 (by omega), by simpa [Dv.vals] using h 2 (by omega), by simpa [Dv.vals] using h 3 (by omega), by simpa [Dv.vals] using h 4 (by omega)⟩

section
variable {H : Type} {enc : TypeId × Value → H}

/-- A Doc that can be read, whatever the fuel. -/
theorem doc_of_trod (W : World) : ∀ (fuel : Nat) (cs : List Value) (x : DataW H × List MemPlace), DataW.trod enc Tryf.prog W 0 (fun _ => true) true fuel 26 cs = some x → ∃ d : Dv, cs = d.vals.toList ∧ DocOk W fuel d := by
  intro fuel
  induction fuel using Nat.strongRecOn with
  | _ fuel ih =>
    intro cs x h
    obtain ⟨xs, n, rfl, _, hl, hxl, hf⟩ := DataW.trod_struct Tryf.underlying26 h
    rw [cells33] at hl
    match cs, hl with
    | [c0, c1, c2, c3, c4], _ =>
      match xs, hxl with
      | [y0, y1, y2, y3, y4], _ =>
        have f0 : DataW.trod enc Tryf.prog W 0 (fun _ => true) true n 22 [c0] = some y0 := by simpa [cells29] using hf 0 _ rfl
        have f1 : DataW.trod enc Tryf.prog W 0 (fun _ => true) true n 9 [c1] = some y1 := by simpa [cells9] using hf 1 _ rfl
        have f2 : DataW.trod enc Tryf.prog W 0 (fun _ => true) true n 4 [c2] = some y2 := by simpa [cells4] using hf 2 _ rfl
        have f3 : DataW.trod enc Tryf.prog W 0 (fun _ => true) true n 23 [c3] = some y3 := by simpa [cells30] using hf 3 _ rfl
        have f4 : DataW.trod enc Tryf.prog W 0 (fun _ => true) true n 24 [c4] = some y4 := by simpa [cells31] using hf 4 _ rfl
        obtain ⟨k, e0, _, wk⟩ := DataW.trod_int Tryf.underlying22 f0
        obtain ⟨s, e1, _, ws⟩ := DataW.trod_string Tryf.underlying9 f1
        obtain ⟨f, e2, _⟩ := DataW.trod_bool Tryf.underlying4 f2
        obtain rfl : c0 = .int .i8 k := by simpa using e0
        obtain rfl : c1 = .string s := by simpa using e1
        obtain rfl : c2 = .bool f := by simpa using e2
        have hkb : -128 ≤ k ∧ k ≤ 127 := by
          have h1 : IntKind.i8.min = -128 := rfl
          have h2 : IntKind.i8.max = 127 := rfl
          simp only [Lit.wf, Bool.and_eq_true, decide_eq_true_eq] at wk
          omega
        have hI : ∃ ai li ci, c3 = .slice ai li ci ∧ li ≤ 9223372036854775807 ∧ ∀ i, i < li → ∃ b o, ai = some ⟨b, o, none⟩ ∧ b < W.heap.size ∧ Lies W b (o + i * 5) (itemD W ai i) ∧ DocOk W n (itemD W ai i) := by
          rcases DataW.trod_slice Tryf.underlying23 f3 with ⟨h0, _⟩ | ⟨a, len, cap, elems, rest, n', rfl, hcs, _, _, hlc, hm, hlen, hel, _⟩
          · exact ⟨none, 0, 0, by simpa using h0, by omega, fun i hi => by omega⟩
          · refine ⟨some a, len, cap, by simpa using hcs, by unfold maxLen at hm; omega, fun i hi => ?_⟩
            have h1 := hel i hi
            rw [List.getElem?_eq_getElem (by omega), cells33] at h1
            obtain ⟨cs', hc, ht⟩ := Option.bind_eq_some_iff.1 h1
            obtain ⟨d', rfl, hok⟩ := ih n' (by omega) cs' _ ht
            obtain ⟨_, _, hcell⟩ := World.cells?_some hc
            have hc0 := hel 0 (by omega)
            rw [List.getElem?_eq_getElem (by omega), cells33] at hc0
            obtain ⟨cs0, hcz, _⟩ := Option.bind_eq_some_iff.1 hc0
            obtain ⟨_, hl0, hcell0⟩ := World.cells?_some hcz
            have hsp : a.spot = none := by
              have := hcell0 0 (by omega)
              simp [Addr.add] at this
              rw [List.getElem?_eq_getElem (by omega)] at this
              exact World.cell?_spot this
            obtain ⟨b, o, sp⟩ := a
            subst hsp
            have hL : Lies W b (o + i * 5) d' := lies_of_cells (fun j hj => by
              have := hcell j hj
              rw [add_plain, add_plain] at this
              exact this)
            have hdoc : itemD W (some ⟨b, o, none⟩) i = d' := docAt_of_lies hL
            rw [hdoc]
            exact ⟨b, o, rfl, World.block_lt_of_cell? W _ hL.c0, hL, hok.le (by omega)⟩
        have hF : ∃ af lf cf, c4 = .slice af lf cf ∧ lf ≤ 9223372036854775807 ∧ ∀ i, i < lf → ∃ b o, af = some ⟨b, o, none⟩ ∧ b < W.heap.size ∧ W.cell? ⟨b, o + i * 6, none⟩ = some (.string (keyD W af i)) ∧ (keyD W af i).size ≤ 9223372036854775807 ∧
            Lies W b (o + i * 6 + 1) (valD W af i) ∧ DocOk W n (valD W af i) := by
          rcases DataW.trod_slice Tryf.underlying24 f4 with ⟨h0, _⟩ | ⟨a, len, cap, elems, rest, n', rfl, hcs, _, _, hlc, hm, hlen, hel, _⟩
          · exact ⟨none, 0, 0, by simpa using h0, by omega, fun i hi => by omega⟩
          · refine ⟨some a, len, cap, by simpa using hcs, by unfold maxLen at hm; omega, fun i hi => ?_⟩
            have h1 := hel i hi
            rw [List.getElem?_eq_getElem (by omega), cells44] at h1
            obtain ⟨cs', hc, ht⟩ := Option.bind_eq_some_iff.1 h1
            obtain ⟨xs, n2, rfl, _, hl', hxl', hf'⟩ := DataW.trod_struct Tryf.underlying49 ht
            rw [cells44] at hl'
            obtain ⟨_, _, hcell⟩ := World.cells?_some hc
            match cs', hl', xs, hxl' with
            | [k0, k1, k2, k3, k4, k5], _, [z0, z1], _ =>
              have g0 : DataW.trod enc Tryf.prog W 0 (fun _ => true) true n2 9 [k0] = some z0 := by simpa [cells9] using hf' 0 _ rfl
              have g1 : DataW.trod enc Tryf.prog W 0 (fun _ => true) true n2 26 [k1, k2, k3, k4, k5] = some z1 := by simpa [cells33] using hf' 1 _ rfl
              obtain ⟨ky, ek, _, wky⟩ := DataW.trod_string Tryf.underlying9 g0
              obtain rfl : k0 = .string ky := by simpa using ek
              obtain ⟨d', hd', hok⟩ := ih n2 (by omega) _ _ g1
              have hc0 := hel 0 (by omega)
              rw [List.getElem?_eq_getElem (by omega), cells44] at hc0
              obtain ⟨cs0, hcz, _⟩ := Option.bind_eq_some_iff.1 hc0
              obtain ⟨_, hl0, hcell0⟩ := World.cells?_some hcz
              have hsp : a.spot = none := by
                have := hcell0 0 (by omega)
                simp [Addr.add] at this
                rw [List.getElem?_eq_getElem (by omega)] at this
                exact World.cell?_spot this
              obtain ⟨b, o, sp⟩ := a
              subst hsp
              have hL : Lies W b (o + i * 6 + 1) d' := lies_of_cells (fun j hj => by
                have := hcell (j + 1) (by omega)
                rw [add_plain, add_plain] at this
                rw [← hd']
                rw [show o + i * 6 + 1 + j = o + i * 6 + (j + 1) from by omega]
                simpa using this)
              have hk0 : W.cell? ⟨b, o + i * 6, none⟩ = some (.string ky) := by
                have := hcell 0 (by omega)
                rw [add_plain, add_plain] at this
                simpa using this
              have hdoc : valD W (some ⟨b, o, none⟩) i = d' := docAt_of_lies hL
              have hkd : keyD W (some ⟨b, o, none⟩) i = ky := by
                show toS (cellAt W b (o + i * 6)) = ky
                simp [cellAt, hk0, toS]
              rw [hdoc, hkd]
              exact ⟨b, o, rfl, World.block_lt_of_cell? W _ hL.c0, hk0, by unfold maxLen at wky; omega, hL, hok.le (by omega)⟩
        obtain ⟨ai, li, ci, rfl, hli, hI⟩ := hI
        obtain ⟨af, lf, cf, rfl, hlf, hF⟩ := hF
        exact ⟨⟨k, s, f, ai, li, ci, af, lf, cf⟩, rfl, by unfold maxLen at ws; exact ws, hli, hlf, hkb.1, hkb.2, hI, hF⟩
end
end Go.Proofs.Qxb6614908aFmt.Dep
