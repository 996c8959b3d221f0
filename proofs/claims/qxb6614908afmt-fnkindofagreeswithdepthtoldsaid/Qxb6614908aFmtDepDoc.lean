import Derived.Test.Qxb6614908aFmtDepVal
namespace Go.Proofs.Qxb6614908aFmt.Dep
open Go.ChangeShapes Go.WideShapes Go.ChangeAt Go.RowKit

/-! ### A document description ('Doc') as it lies in memory -/
/-- The five cells of a Doc. -/
structure Dv where
  k : Int
  s : ByteArray
  f : Bool
  ai : Option Addr
  li : Nat
  ci : Nat
  af : Option Addr
  lf : Nat
  cf : Nat
def Dv.vals (d : Dv) : Array Value := #[.int .i8 d.k, .string d.s, .bool d.f, .slice d.ai d.li d.ci, .slice d.af d.lf d.cf]

def toS : Value → ByteArray | .string s => s | _ => ByteArray.empty
def toB : Value → Bool | .bool b => b | _ => false
def slA : Value → Option Addr | .slice a _ _ => a | _ => none
def slL : Value → Nat | .slice _ n _ => n | _ => 0
def slC : Value → Nat | .slice _ _ c => c | _ => 0
def cellAt (W : World) (b o : Nat) : Value := (W.cell? ⟨b, o, none⟩).getD .nilIface
def docAt (W : World) (b o : Nat) : Dv :=
  ⟨intOf (cellAt W b o), toS (cellAt W b (o + 1)), toB (cellAt W b (o + 2)), slA (cellAt W b (o + 3)), slL (cellAt W b (o + 3)), slC (cellAt W b (o + 3)), slA (cellAt W b (o + 4)), slL (cellAt W b (o + 4)), slC (cellAt W b (o + 4))⟩
def blk : Option Addr → Nat | some a => a.block | none => 0
def ofs : Option Addr → Nat | some a => a.off | none => 0
/-- Element i of a []Doc; the key and the value of element i of a []Field. -/
def itemD (W : World) (a : Option Addr) (i : Nat) : Dv := docAt W (blk a) (ofs a + i * 5)
def keyD (W : World) (a : Option Addr) (i : Nat) : ByteArray := toS (cellAt W (blk a) (ofs a + i * 6))
def valD (W : World) (a : Option Addr) (i : Nat) : Dv := docAt W (blk a) (ofs a + i * 6 + 1)

/-- The five cells lie at ⟨b, o⟩. -/
structure Lies (W : World) (b o : Nat) (d : Dv) : Prop where
  c0 : W.cell? ⟨b, o, none⟩ = some (.int .i8 d.k)
  c1 : W.cell? ⟨b, o + 1, none⟩ = some (.string d.s)
  c2 : W.cell? ⟨b, o + 2, none⟩ = some (.bool d.f)
  c3 : W.cell? ⟨b, o + 3, none⟩ = some (.slice d.ai d.li d.ci)
  c4 : W.cell? ⟨b, o + 4, none⟩ = some (.slice d.af d.lf d.cf)

/-- THE DESCRIPTION d CAN BE READ IN W, to the bottom, n levels deep at the most. -/
def DocOk (W : World) : Nat → Dv → Prop
  | 0, _ => False
  | n + 1, d => d.s.size ≤ 9223372036854775807 ∧ d.li ≤ 9223372036854775807 ∧ d.lf ≤ 9223372036854775807 ∧ -128 ≤ d.k ∧ d.k ≤ 127 ∧
    (∀ i, i < d.li → ∃ b o, d.ai = some ⟨b, o, none⟩ ∧ b < W.heap.size ∧ Lies W b (o + i * 5) (itemD W d.ai i) ∧ DocOk W n (itemD W d.ai i)) ∧
    (∀ i, i < d.lf → ∃ b o, d.af = some ⟨b, o, none⟩ ∧ b < W.heap.size ∧ W.cell? ⟨b, o + i * 6, none⟩ = some (.string (keyD W d.af i)) ∧ (keyD W d.af i).size ≤ 9223372036854775807 ∧
      Lies W b (o + i * 6 + 1) (valD W d.af i) ∧ DocOk W n (valD W d.af i))

/-- The sum of f 0 .. f (n - 1). -/
def sum (f : Nat → Nat) : Nat → Nat
  | 0 => 0
  | n + 1 => sum f n + f n
/-- What 'docSize' adds up. -/
def siz (W : World) : Nat → Dv → Nat
  | 0, _ => 0
  | n + 1, d => d.s.size + 80 * d.li + 96 * d.lf + sum (fun i => siz W n (itemD W d.ai i)) d.li + sum (fun i => (keyD W d.af i).size + siz W n (valD W d.af i)) d.lf

theorem below_cell {B : Nat} {W w : World} (h : Below B W w) {b o : Nat} (hb : b < B) : w.cell? ⟨b, o, none⟩ = W.cell? ⟨b, o, none⟩ := h.cell (p := ⟨b, o, none⟩) hb
theorem Lies.keep {B : Nat} {W w : World} {b o : Nat} {d : Dv} (h : Lies W b o d) (hB : Below B W w) (hb : b < B) : Lies w b o d :=
  ⟨(below_cell hB hb).trans h.c0, (below_cell hB hb).trans h.c1, (below_cell hB hb).trans h.c2, (below_cell hB hb).trans h.c3, (below_cell hB hb).trans h.c4⟩

/-- What 'docSize' answers: more than the limit, or the very sum. -/
def SzOk (e : Ending) (acc : Int) (z : Nat) : Prop := ∃ r : Int, e = .returned (.int .i64 r) ∧ 0 ≤ r ∧ (r ≤ 1048576 → r = acc + z)
theorem szOk_over {acc : Int} {z : Nat} {r : Int} (h : 1048576 < r) : SzOk (.returned (.int .i64 r)) acc z := ⟨r, rfl, by omega, fun h2 => by omega⟩

/-- The function's own box (block b0) and the memory that was there. -/
structure Bx (w wr : World) (x3 x4 : Value) : Prop where
  c3 : wr.cell? ⟨w.heap.size, 3, none⟩ = some x3
  c4 : wr.cell? ⟨w.heap.size, 4, none⟩ = some x4
  below : Below w.heap.size w wr
  lt : w.heap.size < wr.heap.size
theorem Bx.next {w wr w2 : World} {x3 x4 : Value} (h : Bx w wr x3 x4) (hb : Below wr.heap.size wr w2) : Bx w w2 x3 x4 :=
  ⟨(below_cell hb h.lt).trans h.c3, (below_cell hb h.lt).trans h.c4, h.below.trans (hb.mono (Nat.le_of_lt h.lt)), Nat.lt_of_lt_of_le h.lt hb.size⟩

set_option maxHeartbeats 2000000 in
theorem size_step (W : World) (n : Nat)
    (ih : ∀ (d : Dv) (acc : Int) (w : World), DocOk W n d → Below W.heap.size W w → 0 ≤ acc → acc ≤ 1048576 → Calls Tryf.prog 4 #[.agg d.vals, .int .i64 acc] w fun e w' => SzOk e acc (siz W n d) ∧ Below w.heap.size w w')
    (d : Dv) (acc : Int) (w : World) (hd : DocOk W (n + 1) d) (hW : Below W.heap.size W w) (h0 : 0 ≤ acc) (h1 : acc ≤ 1048576) :
    Calls Tryf.prog 4 #[.agg d.vals, .int .i64 acc] w fun e w' => SzOk e acc (siz W (n + 1) d) ∧ Below w.heap.size w w' := by
  obtain ⟨hs, hli, hlf, _, _, hit, hfi⟩ := hd
  have HI := hide hit
  have HF := hide hfi
  have IH := hide ih
  clear hit hfi ih
  obtain ⟨k, s, f, ai, li, ci, af, lf, cf⟩ := d
  unfold Dv.vals
  dsimp only at *
  have hend : ∀ (o : Obj) (r : Int), 1048576 < r → SzOk (.returned (.int .i64 r)) acc (siz W (n + 1) ⟨k, s, f, ai, li, ci, af, lf, cf⟩) ∧ Below w.heap.size w (w.alloc o) := fun o r hr => ⟨szOk_over hr, (Below.refl _ _).alloc (Nat.le_refl _) _⟩
  have HEND := hide hend
  clear hend
  by_cases hs1 : s.size ≤ 1048576
  rotate_left
  · go_enter Tryf.func4, Tryf.ntmps4
    go_wp2_with fail
    go_ret
    exact HEND.out _ _ (by omega)
  by_cases hl1 : li ≤ 1048576
  rotate_left
  · go_enter Tryf.func4, Tryf.ntmps4
    go_wp2_with fail
    go_ret
    exact HEND.out _ _ (by omega)
  by_cases hf1 : lf ≤ 1048576
  rotate_left
  · go_enter Tryf.func4, Tryf.ntmps4
    go_wp2_with fail
    go_ret
    exact HEND.out _ _ (by omega)
  by_cases hsum : acc + (s.size + 80 * li + 96 * lf) ≤ 1048576
  rotate_left
  · go_enter Tryf.func4, Tryf.ntmps4
    go_wp2_with fail
    go_ret
    exact HEND.out _ _ (by omega)
  have hBx : Bx w (w.alloc (.cells #[.int .i8 k, .string s, .bool f, .slice ai li ci, .slice af lf cf] 26)) (.slice ai li ci) (.slice af lf cf) := ⟨by simp, by simp, (Below.refl _ _).alloc (Nat.le_refl _) _, by simp⟩
  obtain ⟨base, hbase⟩ : ∃ base, base = acc + (s.size + 80 * li + 96 * lf) := ⟨_, rfl⟩
  obtain ⟨f1, hf1e⟩ : ∃ f1 : Nat → Nat, f1 = fun i => siz W n (itemD W ai i) := ⟨_, rfl⟩
  obtain ⟨f2, hf2e⟩ : ∃ f2 : Nat → Nat, f2 = fun i => (keyD W af i).size + siz W n (valD W af i) := ⟨_, rfl⟩
  have HZ : Hid (acc + siz W (n + 1) ⟨k, s, f, ai, li, ci, af, lf, cf⟩ = base + sum f1 li + sum f2 lf) := by
    show _ = _
    rw [hf1e, hf2e, hbase]
    simp [siz]
    omega
  have HF1 := hide hf1e
  have HF2 := hide hf2e
  have HB := hide hbase
  have hb0 : 0 ≤ base := by omega
  have hb1 : base ≤ 1048576 := by omega
  clear hf1e hf2e hbase
  go_enter Tryf.func4, Tryf.ntmps4
  go_wp2_with fail
  go_loopw [1, 5] (fun a i wr => ∃ q : Nat, q ≤ li ∧ i = .int .i64 q ∧ a = .int .i64 (base + sum f1 q) ∧ base + sum f1 q ≤ 1048576 ∧ Bx w wr (.slice ai li ci) (.slice af lf cf)) (fun _ i _ => li - (intOf i).toNat)
  case atStart => exact ⟨0, Nat.zero_le _, rfl, by rw [HB.out]; simp [sum], by simpa [sum] using hb1, hBx⟩
  case round =>
    clear hBx
    obtain ⟨q, hq, rfl, rfl, hqs, hBx⟩ := hrel
    have c3 := hBx.c3
    by_cases hlt : q < li
    · obtain ⟨b, o, rfl, hbW, hL, hok⟩ := HI.out q hlt
      have hWr : Below W.heap.size W wr := hW.trans (hBx.below.mono (hW.size))
      have hL2 := hL.keep hWr hbW
      obtain ⟨x0, x1, x2, x3, x4⟩ := hL2
      go_wp2_with fail
      have hcall := IH.out (itemD W (some ⟨b, o, none⟩) q) (base + sum f1 q) wr hok hWr (by omega) hqs
      unfold Dv.vals at hcall
      refine hcall.mono ?_
      clear hcall
      rintro e w2 ⟨⟨r, rfl, hr0, hr1⟩, hb2⟩
      have hBx2 := hBx.next hb2
      have HR : Hid (r ≤ 1048576 → r = base + sum f1 (q + 1)) := fun h => by
        rw [hr1 h]
        have e1 : siz W n (itemD W (some ⟨b, o, none⟩) q) = f1 q := by rw [HF1.out]
        rw [e1]
        simp [sum]
        omega
      clear hr1
      by_cases hov : r ≤ 1048576
      · go_wp2_with fail
        go_roundw
        case rel => exact ⟨q + 1, by omega, by go_num, by rw [HR.out hov], by rw [← HR.out hov]; exact hov, hBx2⟩
        case measure => simp [intOf]; omega
      · have hbel := hBx2.below
        go_wp2_with fail
        go_ret
        exact ⟨szOk_over (by omega), hbel⟩
    · have c4 := hBx.c4
      obtain ⟨base2, hbase2⟩ : ∃ base2 : Int, base2 = base + sum f1 q := ⟨_, rfl⟩
      have HB2 : Hid (base2 = base + sum f1 li) := by show _ = _; rw [hbase2, show q = li from by omega]
      rw [← hbase2] at hqs ⊢
      have hb20 : 0 ≤ base2 := by omega
      clear hbase2
      go_wp2_with fail
      go_loopw [1, 6] (fun a i wr => ∃ q : Nat, q ≤ lf ∧ i = .int .i64 q ∧ a = .int .i64 (base2 + sum f2 q) ∧ base2 + sum f2 q ≤ 1048576 ∧ Bx w wr (.slice ai li ci) (.slice af lf cf)) (fun _ i _ => lf - (intOf i).toNat)
      case atStart => exact ⟨0, Nat.zero_le _, rfl, by simp [sum], by simpa [sum] using hqs, hBx⟩
      case round =>
        clear hBx c3 c4
        obtain ⟨q2, hq2, rfl, rfl, hqs2, hBx⟩ := hrel
        have c4 := hBx.c4
        by_cases hlt2 : q2 < lf
        · obtain ⟨b, o, rfl, hbW, hkey, hkl, hL, hok⟩ := HF.out q2 hlt2
          have hWr : Below W.heap.size W wr := hW.trans (hBx.below.mono (hW.size))
          have hL2 := hL.keep hWr hbW
          have hkey2 := (below_cell hWr hbW).trans hkey
          clear hkey
          obtain ⟨ky, hky⟩ : ∃ ky, ky = keyD W (some ⟨b, o, none⟩) q2 := ⟨_, rfl⟩
          rw [← hky] at hkey2 hkl
          have HK := hide hky
          clear hky
          obtain ⟨x0, x1, x2, x3, x4⟩ := hL2
          have hbel := hBx.below
          by_cases hk1 : ky.size ≤ 1048576
          rotate_left
          · go_wp2_with fail
            go_ret
            exact ⟨szOk_over (by omega), hbel⟩
          by_cases hk2 : base2 + sum f2 q2 + ky.size ≤ 1048576
          rotate_left
          · go_wp2_with fail
            go_ret
            exact ⟨szOk_over (by omega), hbel⟩
          go_wp2_with fail
          have hcall := IH.out (valD W (some ⟨b, o, none⟩) q2) (base2 + sum f2 q2 + ky.size) wr hok hWr (by omega) hk2
          unfold Dv.vals at hcall
          refine hcall.mono ?_
          clear hcall
          rintro e w2 ⟨⟨r, rfl, hr0, hr1⟩, hb2⟩
          have hBx2 := hBx.next hb2
          have HR : Hid (r ≤ 1048576 → r = base2 + sum f2 (q2 + 1)) := fun h => by
            rw [hr1 h]
            have e1 : ky.size + siz W n (valD W (some ⟨b, o, none⟩) q2) = f2 q2 := by rw [HF2.out, HK.out]
            simp only [sum]
            rw [← e1]
            omega
          clear hr1
          by_cases hov : r ≤ 1048576
          · go_wp2_with fail
            go_roundw
            case rel => exact ⟨q2 + 1, by omega, by go_num, by rw [HR.out hov], by rw [← HR.out hov]; exact hov, hBx2⟩
            case measure => simp [intOf]; omega
          · have hbel := hBx2.below
            go_wp2_with fail
            go_ret
            exact ⟨szOk_over (by omega), hbel⟩
        · have hbel := hBx.below
          go_wp2_with fail
          go_ret
          refine ⟨⟨_, rfl, by omega, fun _ => ?_⟩, hbel⟩
          rw [HZ.out, HB2.out, show q2 = lf from by omega]

/-- 'docSize'. -/
theorem size_any (W : World) : ∀ (n : Nat) (d : Dv) (acc : Int) (w : World), DocOk W n d → Below W.heap.size W w → 0 ≤ acc → acc ≤ 1048576 →
    Calls Tryf.prog 4 #[.agg d.vals, .int .i64 acc] w fun e w' => SzOk e acc (siz W n d) ∧ Below w.heap.size w w'
  | 0, _, _, _, h, _, _, _ => h.elim
  | n + 1, d, acc, w, h, hW, h0, h1 => size_step W n (size_any W n) d acc w h hW h0 h1
end Go.Proofs.Qxb6614908aFmt.Dep
